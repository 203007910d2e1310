/-
  THE WALKS OF THIS SEAT's CALLEES: sameFrames, isSuffixOf, isPanicFrame.
-/
import Derived.Test.Qxb6628401aRows
import Derived.Test.Qxb6628401aPlain
import Derived.WalkKit
import Derived.WalkSpells
import Derived.Deep.QuietTactic
import Derived.BigQuiet
namespace Go.Proofs.Qxb6628401a
open Go.RowKit

theorem hide {p : Prop} (h : p) : Hid p := h
theorem ret_bool {a b : Bool} (h : a = b) : Ending.returned (.bool a) = .returned (.bool b) := by rw [h]
theorem below_n (w : World) (n : Nat) : Below w.heap.size w (w.drewN n) := ⟨rfl, rfl, rfl, Nat.le_refl _, fun _ _ => rfl⟩

set_option maxHeartbeats 1600000 in
theorem same_true (ao bo : Option Addr) (n c d : Nat) (L : List Fr) (w : World) (hn : n ≤ 1048576) (hl : L.length = n) (ha : Rd w ao L) (hb : Rd w bo L) :
    Calls Try.prog 11 #[.slice ao n c, .slice bo n d] w fun e w' => e = .returned (.bool true) ∧ ∃ m, w' = w.drewN m := by
  have HA := hide ha
  have HB := hide hb
  have HL := hide hl
  clear ha hb hl
  go_enter Try.func11, Try.ntmps11
  go_wp2
  go_loopw [5] (fun i wr => ∃ k : Nat, k ≤ n ∧ i = .int .i64 k ∧ ∃ m, wr = w.drewN m) (fun i _ => n - (intOf i).toNat)
  case atStart => exact ⟨0, Nat.zero_le _, rfl, 0, rfl⟩
  case round =>
    obtain ⟨k, hk, rfl, hm⟩ := hrel
    have HM := hide hm
    clear hm
    by_cases hlt : k < n
    · have hkl : k < L.length := by have := HL.out; omega
      obtain ⟨b1, o1, rfl, a0, a1, a2, a3, a4⟩ := HA.out.at k hkl
      obtain ⟨b2, o2, rfl, e0, e1, e2, e3, e4⟩ := HB.out.at k hkl
      obtain ⟨f, hf⟩ : ∃ f, L[k] = f := ⟨_, rfl⟩
      rw [hf] at a0 a1 a2 a3 a4 e0 e1 e2 e3 e4
      clear hf hkl
      have j0 : (k : Int) < (n : Int) := by omega
      obtain ⟨m, rfl⟩ := HM.out
      go_wp2
      go_quiet (fail)
      go_wp2
      go_roundw
      case rel => exact ⟨k + 1, by omega, by go_num, m + nq, rfl⟩
      case measure => simp [intOf]; omega
    · go_wp2
      go_ret
      exact ⟨rfl, HM.out⟩

theorem el22 : Try.prog.underlying 22 = some (.slice (Try.prog.elem 22)) := by kernel_rfl
theorem el35 : Try.prog.underlying 35 = some (.slice (Try.prog.elem 35)) := by kernel_rfl
theorem sz22 (w : World) : (sizeOf (Try.prog.elem 22)).run Try.prog w = .ok 5 w := by kernel_rfl
theorem sz35 (w : World) : (sizeOf (Try.prog.elem 35)).run Try.prog w = .ok 5 w := by kernel_rfl

/-- x[l:] of a slice of frames -/
theorem cut_from {t : TypeId} (ht : Try.prog.underlying t = some (.slice (Try.prog.elem t))) (hs : ∀ w, (sizeOf (Try.prog.elem t)).run Try.prog w = .ok 5 w) (bo : Option Addr) (n d l : Nat) (I : Int) (hI : I = (l : Int)) (hl : l ≤ n) (hd : n ≤ d) :
    ∃ bo', (∀ w, (Instr.slice t (.slice bo n d) (some (.int .i64 I)) none none).run Try.prog w = .ok (.slice bo' (n - l) (d - l)) w) ∧ ∀ w L, L.length = n → Rd w bo L → Rd w bo' (L.drop l) := by
  subst hI
  refine ⟨if d = l then bo else bo.map (·.add (l * 5)), fun w => ?_, ?_⟩
  · rw [run_slice_l (P := Try.prog) w t bo n d ht .i64 (l : Int) (by omega) (by omega), hs w]
    simp [Result.andThen, sliced]
  · intro w L hL hr i f hf
    rw [List.getElem?_drop] at hf
    obtain ⟨b, o, rfl, ha⟩ := hr _ f hf
    have hlt := (List.getElem?_eq_some_iff.1 hf).1
    refine ⟨b, o + l * 5, ?_, ?_⟩
    · rw [if_neg (by omega)]
      show some (Addr.add ⟨b, o, none⟩ (l * 5)) = _
      congr 1
      unfold Addr.add
      split
      · simp
      · rfl
    · have : o + l * 5 + i * 5 = o + (l + i) * 5 := by omega
      rw [this]
      exact ha

/-- x[:h] of a slice of frames -/
theorem cut_to {t : TypeId} (ht : Try.prog.underlying t = some (.slice (Try.prog.elem t))) (hs : ∀ w, (sizeOf (Try.prog.elem t)).run Try.prog w = .ok 5 w) (bo : Option Addr) (n d h : Nat) (hd : h ≤ d) :
    ∀ w, (Instr.slice t (.slice bo n d) none (some (.int .i64 (h : Int))) none).run Try.prog w = .ok (.slice bo h d) w := by
  intro w
  rw [run_slice_h (P := Try.prog) w t bo n d ht .i64 (h : Int) (by omega) (by omega), hs w]
  cases bo <;> simp [Result.andThen, sliced, Addr.add]

theorem Rd.take {w : World} {ao : Option Addr} {L : List Fr} (h : Rd w ao L) (k : Nat) : Rd w ao (L.take k) := by
  intro i f hf
  refine h i f ?_
  rw [List.getElem?_take] at hf
  split at hf
  · exact hf
  · cases hf

set_option maxHeartbeats 800000 in
theorem suffix_true (ao bo : Option Addr) (m n c d : Nat) (R L : List Fr) (w : World) (hn : n ≤ 1048576) (hm : m ≤ n) (hd : n ≤ d) (hR : R.length = m) (hL : L.length = n) (hE : R = L.drop (n - m)) (ha : Rd w ao R) (hb : Rd w bo L) :
    Calls Try.prog 8 #[.slice ao m c, .slice bo n d] w fun e w' => e = .returned (.bool true) ∧ ∃ k, w' = w.drewN k := by
  obtain ⟨bo', hcut, hrd⟩ := cut_from el22 sz22 bo n d (n - m) ((n : Int) - (m : Int)) (by omega) (by omega) hd
  have hb' := hrd w L hL hb
  rw [← hE] at hb'
  have e1 : n - (n - m) = m := by omega
  rw [e1] at hcut
  have HA := hide ha
  have HB := hide hb'
  have HR := hide hR
  clear ha hb' hb hrd hE hL hR e1
  go_enter Try.func8, Try.ntmps8
  go_wp2_with (go_at_call 11; refine (same_true ao bo' m c (d - (n - m)) R _ (by omega) HR.out HA.out HB.out).mono ?_; rintro e w' ⟨rfl, k, rfl⟩)
  go_ret
  exact ⟨rfl, k, rfl⟩

theorem rt_form {f : Fr} {v : Bool} (h : isRt f = v) : (f.mo.toList == [114, 117, 110, 116, 105, 109, 101]) = v := h
theorem gp_form {f : Fr} {v : Bool} (h : isGp f = v) : (f.fn.toList == [103, 111, 112, 97, 110, 105, 99]) = v := h

theorem isPn_any (f : Fr) (w : World) : Calls Try.prog 9 #[.agg #[.string f.fn, .string f.mo, .string f.fi, .string f.ab, .int .i64 f.li]] w fun e w' => e = .returned (.bool (isPn f)) ∧ Below w.heap.size w w' := by
  obtain ⟨p, hp⟩ : ∃ p, isRt f = p := ⟨_, rfl⟩
  obtain ⟨q, hq⟩ : ∃ q, isGp f = q := ⟨_, rfl⟩
  have h1 := rt_form hp
  have h2 := gp_form hq
  have HP : Hid (isPn f = (p && q)) := by show _ = _; unfold isPn; rw [hp, hq]
  clear hp hq
  cases p
  · go_enter Try.func9, Try.ntmps9
    go_wp2
    go_ret
    exact ⟨ret_bool (by rw [HP.out]; rfl), (Below.refl _ _).alloc (Nat.le_refl _) _⟩
  · go_enter Try.func9, Try.ntmps9
    go_wp2
    go_ret
    exact ⟨ret_bool (by rw [HP.out]; rfl), (Below.refl _ _).alloc (Nat.le_refl _) _⟩

end Go.Proofs.Qxb6628401a
