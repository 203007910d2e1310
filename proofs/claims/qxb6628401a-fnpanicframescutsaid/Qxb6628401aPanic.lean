/-
  THE WALK OF panicFrames.
-/
import Derived.Test.Qxb6628401aWalks
namespace Go.Proofs.Qxb6628401a
open Go.RowKit

theorem pf_none {L : List Fr} (h : ∀ (i : Nat) f, L[i]? = some f → isPn f = false) : pf L = L := by
  unfold pf
  rw [if_neg]
  intro hany
  obtain ⟨f, hf, hp⟩ := List.any_eq_true.1 hany
  obtain ⟨i, hi⟩ := List.getElem?_of_mem hf
  rw [h i f hi] at hp
  cases hp

theorem after_hit : ∀ {L : List Fr} {k : Nat} {f : Fr}, (∀ i g, i < k → L[i]? = some g → isPn g = false) → L[k]? = some f → isPn f = true → after L = L.drop (k + 1)
  | [], k, f, _, hf, _ => by simp at hf
  | g :: t, 0, f, _, hf, hp => by
    simp at hf
    subst hf
    simp [after, hp]
  | g :: t, k + 1, f, h, hf, hp => by
    have hg : isPn g = false := h 0 g (by omega) rfl
    have : after (g :: t) = after t := by simp [after, hg]
    rw [this]
    exact after_hit (fun i x hi hx => h (i + 1) x (by omega) (by simpa using hx)) (by simpa using hf) hp

theorem pf_hit {L : List Fr} {k : Nat} {f : Fr} (h : ∀ i g, i < k → L[i]? = some g → isPn g = false) (hf : L[k]? = some f) (hp : isPn f = true) : pf L = (L.drop (k + 1)).dropWhile isRt := by
  unfold pf
  rw [if_pos (List.any_eq_true.2 ⟨f, List.mem_of_getElem? hf, hp⟩), after_hit h hf hp]

theorem no_next {L : List Fr} {k : Nat} {f : Fr} (h : ∀ i g, i < k → L[i]? = some g → isPn g = false) (hf : L[k]? = some f) (hp : isPn f = false) : ∀ i g, i < k + 1 → L[i]? = some g → isPn g = false := by
  intro i g hi hg
  by_cases e : i = k
  · subst e
    rw [hf] at hg
    cases hg
    exact hp
  · exact h i g (by omega) hg

def lenOf : Value → Nat | .slice _ n _ => n | _ => 0

/-- a slice of frames comes back -/
def AnsF (L : List Fr) (w' : World) (e : Ending) : Prop := ∃ ro m d, e = .returned (.slice ro m d) ∧ L.length = m ∧ m ≤ d ∧ Rd w' ro L

set_option maxHeartbeats 3200000 in
theorem panic_any (fo : Option Addr) (n d : Nat) (L : List Fr) (w : World) (hn : n ≤ 1048576) (hd : n ≤ d) (hd2 : d ≤ 2097152) (hl : L.length = n) (hr : Rd w fo L) :
    Calls Try.prog 14 #[.slice fo n d] w fun e w' => AnsF (pf L) w' e ∧ Below w.heap.size w w' := by
  have HR := hide hr
  have HL := hide hl
  clear hr hl
  go_enter Try.func14, Try.ntmps14
  go_wp2
  go_loopw [8] (fun i wr => ∃ k : Nat, k ≤ n ∧ i = .int .i64 k ∧ Below w.heap.size w wr ∧ ∀ i g, i < k → L[i]? = some g → isPn g = false) (fun i _ => n - (intOf i).toNat)
  case atStart => exact ⟨0, Nat.zero_le _, rfl, Below.refl _ _, fun i g h => absurd h (by omega)⟩
  case round =>
    obtain ⟨k, hk, rfl, hB, hno⟩ := hrel
    have HB := hide hB
    have HNO := hide hno
    clear hB hno
    by_cases hlt : k < n
    · have hkl : k < L.length := by have := HL.out; omega
      obtain ⟨b1, o1, hfo, hat⟩ := HR.out.at k hkl
      obtain ⟨f, hf⟩ : ∃ f, L[k] = f := ⟨_, rfl⟩
      obtain ⟨a0, a1, a2, a3, a4⟩ := hat.keep HB.out
      rw [hf] at a0 a1 a2 a3 a4
      have HF : Hid (L[k]? = some f) := by show _ = _; rw [List.getElem?_eq_getElem hkl, hf]
      have hblt : b1 < wr.heap.size := lt_of_cell a0
      obtain ⟨p, hp⟩ : ∃ p, isRt f = p := ⟨_, rfl⟩
      obtain ⟨q, hq⟩ : ∃ q, isGp f = q := ⟨_, rfl⟩
      have h1 := rt_form hp
      have h2 := gp_form hq
      have HP : Hid (isPn f = (p && q)) := by show _ = _; unfold isPn; rw [hp, hq]
      clear hp hq hf hkl hat
      subst hfo
      have g0 : (k : Int) < (n : Int) := by omega
      cases p
      · have HN : Hid (isPn f = false) := by show _ = _; rw [HP.out]; rfl
        go_wp2
        go_roundw
        case rel => exact ⟨k + 1, by omega, by go_num, HB.out.alloc HB.out.size _, no_next HNO.out HF.out HN.out⟩
        case measure => simp [intOf]; omega
      · cases q
        · have HN : Hid (isPn f = false) := by show _ = _; rw [HP.out]; rfl
          go_wp2
          go_roundw
          case rel => exact ⟨k + 1, by omega, by go_num, HB.out.alloc HB.out.size _, no_next HNO.out HF.out HN.out⟩
          case measure => simp [intOf]; omega
        · have HE : Hid (pf L = (L.drop (k + 1)).dropWhile isRt) := pf_hit HNO.out HF.out (by rw [HP.out]; rfl)
          obtain ⟨ro, hcut, hrd⟩ := cut_from el35 sz35 (some ⟨b1, o1, none⟩) n d (k + 1) ((k : Int) + 1) (by omega) (by omega) hd
          have HBa : Hid (Below w.heap.size w (wr.alloc (Obj.cells #[Value.string f.fn, Value.string f.mo, Value.string f.fi, Value.string f.ab, Value.int IntKind.i64 f.li] 36))) := HB.out.alloc HB.out.size _
          have HRd : Hid (Rd (wr.alloc (Obj.cells #[Value.string f.fn, Value.string f.mo, Value.string f.fi, Value.string f.ab, Value.int IntKind.i64 f.li] 36)) ro (L.drop (k + 1))) := hrd _ L HL.out (HR.out.keep HBa.out)
          clear hrd HP HF HNO
          go_wp2
          clear hcut h1 h2 a0 a1 a2 a3 a4 hblt g0
          go_loopw [5] (fun v wr => ∃ (ro : Option Addr) (m d' : Nat) (M : List Fr), v = .slice ro m d' ∧ M.length = m ∧ m ≤ d' ∧ m ≤ 1048576 ∧ Rd wr ro M ∧ Below w.heap.size w wr ∧ M.dropWhile isRt = (L.drop (k + 1)).dropWhile isRt) (fun v _ => lenOf v)
          case atStart => exact ⟨ro, _, _, L.drop (k + 1), rfl, by rw [List.length_drop, HL.out], by omega, by omega, HRd.out, HBa.out, rfl⟩
          case round =>
            clear HRd HBa HB hlt hk
            obtain ⟨ro, m, d', M, rfl, hM, hmd, hm, hR, hBl, hD⟩ := hrel
            have HBl := hide hBl
            have HD := hide hD
            clear hBl hD
            cases M with
            | nil =>
              have hm0 : m = 0 := by simpa using hM.symm
              subst hm0
              have HRR := hide hR
              clear hM hR
              go_wp2
              go_ret
              exact ⟨⟨_, _, _, rfl, by rw [HE.out, ← HD.out]; rfl, hmd, by rw [HE.out, ← HD.out]; exact HRR.out⟩, HBl.out⟩
            | cons x T =>
              obtain ⟨b2, o2, rfl, x0, x1, x2, x3, x4⟩ := hR 0 x rfl
              rw [Nat.zero_mul, Nat.add_zero] at x0 x1 x2 x3 x4
              have hm1 : 1 ≤ m := by rw [← hM]; simp
              have HRR := hide hR
              have HM := hide hM
              clear hM hR x0 x2 x3 x4
              cases hp : isRt x
              · have h1 := rt_form hp
                have e : (x :: T).dropWhile isRt = x :: T := by rw [List.dropWhile_cons, if_neg (by rw [hp]; simp)]
                have HQ : Hid (pf L = x :: T) := by show _ = _; rw [HE.out, ← HD.out, e]
                clear hp e
                go_wp2
                go_ret
                exact ⟨⟨_, _, _, rfl, by rw [HQ.out]; exact HM.out, hmd, by rw [HQ.out]; exact HRR.out⟩, HBl.out⟩
              · have h1 := rt_form hp
                have e : (x :: T).dropWhile isRt = T.dropWhile isRt := by rw [List.dropWhile_cons, if_pos hp]
                have HQ := hide e
                clear hp e
                obtain ⟨ro', hcut, hrd⟩ := cut_from el35 sz35 (some ⟨b2, o2, none⟩) m d' 1 1 (by omega) hm1 hmd
                have HT : Hid (Rd wr ro' T) := hrd wr (x :: T) HM.out HRR.out
                clear hrd
                go_wp2
                go_roundw
                case rel => exact ⟨ro', m - 1, d' - 1, T, rfl, by have := HM.out; simp at this; omega, by omega, by omega, HT.out, HBl.out, by rw [← HQ.out]; exact HD.out⟩
                case measure => simp [lenOf]; omega
    · go_wp2
      go_ret
      have e : pf L = L := pf_none fun i g hg => HNO.out i g (by have := (List.getElem?_eq_some_iff.1 hg).1; have := HL.out; omega) hg
      rw [e]
      exact ⟨⟨_, _, _, rfl, HL.out, hd, HR.out.keep HB.out⟩, HB.out⟩

end Go.Proofs.Qxb6628401a
