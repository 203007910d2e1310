/-
  THE WALKS OF zzBytes_.. AND framesTooBig.
-/
import Derived.Test.Qxb6628401aWalks
namespace Go.Proofs.Qxb6628401a
open Go.RowKit

/-- each of a frame's strings is at most 2^20 bytes -/
def Small (f : Fr) : Prop := f.fn.size ≤ 1048576 ∧ f.mo.size ≤ 1048576 ∧ f.fi.size ≤ 1048576 ∧ f.ab.size ≤ 1048576

theorem small_next {L : List Fr} {k : Nat} {f : Fr} (h : ∀ i g, i < k → L[i]? = some g → Small g) (hf : L[k]? = some f) (hs : Small f) : ∀ i g, i < k + 1 → L[i]? = some g → Small g := by
  intro i g hi hg
  by_cases e : i = k
  · subst e
    rw [hf] at hg
    cases hg
    exact hs
  · exact h i g (by omega) hg

theorem small_all {L : List Fr} {n : Nat} (hl : L.length = n) (h : ∀ i g, i < n → L[i]? = some g → Small g) : ∀ f ∈ L, Small f := by
  intro f hf
  obtain ⟨i, hi⟩ := List.getElem?_of_mem hf
  exact h i f (by have := (List.getElem?_eq_some_iff.1 hi).1; omega) hi

/-- a bool is answered; where it is true, all is small -/
def Ans (n : Nat) (L : List Fr) (e : Ending) : Prop := ∃ v : Bool, e = .returned (.bool v) ∧ (v = true → n ≤ 1048576 ∧ ∀ f ∈ L, Small f)
theorem ans_no {n : Nat} {L : List Fr} {e : Ending} (h : e = .returned (.bool false)) : Ans n L e := ⟨false, h, fun h => by cases h⟩
theorem ans_yes {n : Nat} {L : List Fr} {e : Ending} (h : e = .returned (.bool true)) (h1 : n ≤ 1048576) (h2 : ∀ f ∈ L, Small f) : Ans n L e := ⟨true, h, fun _ => ⟨h1, h2⟩⟩

set_option maxRecDepth 100000 in
set_option maxHeartbeats 3200000 in
theorem bytes1 (ao : Option Addr) (n cap : Nat) (x : Int) (L : List Fr) (w : World) (hn : n ≤ maxLen) (hl : L.length = n) (hr : Rd w ao L) :
    Calls Try.prog 5 #[.slice ao n cap, .int .i64 x] w fun e w' => Ans n L e ∧ w = w' := by
  unfold maxLen at hn
  by_cases hbig : n ≤ 1048576
  · have HR := hide hr
    have HL := hide hl
    clear hr hl
    go_enter Try.func5, Try.ntmps5
    go_wp2
    go_loop [5, 6] (fun zz i => ∃ (k : Nat) (z : Int), k ≤ n ∧ 0 ≤ z ∧ z ≤ 1048576 ∧ i = .int .i64 k ∧ zz = .int .i64 z ∧ ∀ i g, i < k → L[i]? = some g → Small g) (fun _ i => n - (intOf i).toNat)
    case atStart => exact ⟨0, (n : Int), Nat.zero_le _, by omega, by omega, rfl, rfl, fun i g h => absurd h (by omega)⟩
    case round =>
      obtain ⟨k, z, hk, z0, z1, rfl, rfl, hs⟩ := hrel
      have HS := hide hs
      clear hs
      by_cases hlt : k < n
      · have hkl : k < L.length := by have := HL.out; omega
        obtain ⟨b1, o1, rfl, a0, a1, a2, a3, a4⟩ := HR.out.at k hkl
        obtain ⟨f, hf⟩ : ∃ f, L[k] = f := ⟨_, rfl⟩
        rw [hf] at a0 a1 a2 a3 a4
        have HF : Hid (L[k]? = some f) := by show _ = _; rw [List.getElem?_eq_getElem hkl, hf]
        clear hf hkl a4
        go_wp2
        all_goals
          first
          | (go_ret
             exact ⟨ans_no rfl, rfl⟩)
          | (go_round
             case rel => exact ⟨k + 1, _, by omega, by omega, by assumption, by go_num, rfl, small_next HS.out HF.out ⟨by omega, by omega, by omega, by omega⟩⟩
             case measure => simp [intOf]; omega)
      · go_wp2
        go_ret
        exact ⟨ans_yes rfl hbig (small_all HL.out (fun i g hi hg => HS.out i g (by omega) hg)), rfl⟩
  · clear hr
    go_enter Try.func5, Try.ntmps5
    go_wp2
    go_ret
    exact ⟨ans_no rfl, rfl⟩

/-- the same with two strings more -/
def Ans2 (n : Nat) (L : List Fr) (fi ab : ByteArray) (e : Ending) : Prop := ∃ v : Bool, e = .returned (.bool v) ∧ (v = true → n ≤ 1048576 ∧ (∀ f ∈ L, Small f) ∧ fi.size ≤ 1048576 ∧ ab.size ≤ 1048576)
theorem ans2_no {n : Nat} {L : List Fr} {fi ab : ByteArray} {e : Ending} (h : e = .returned (.bool false)) : Ans2 n L fi ab e := ⟨false, h, fun h => by cases h⟩
theorem ans2_yes {n : Nat} {L : List Fr} {fi ab : ByteArray} {e : Ending} (h : e = .returned (.bool true)) (h1 : n ≤ 1048576) (h2 : ∀ f ∈ L, Small f) (h3 : fi.size ≤ 1048576) (h4 : ab.size ≤ 1048576) : Ans2 n L fi ab e := ⟨true, h, fun _ => ⟨h1, h2, h3, h4⟩⟩

set_option maxRecDepth 100000 in
set_option maxHeartbeats 3200000 in
theorem bytes2 (ao : Option Addr) (n cap : Nat) (x y : Int) (fi ab : ByteArray) (L : List Fr) (w : World) (hn : n ≤ maxLen) (hl : L.length = n) (hr : Rd w ao L) :
    Calls Try.prog 12 #[.slice ao n cap, .int .i64 x, .string fi, .string ab, .int .i64 y] w fun e w' => Ans2 n L fi ab e ∧ w = w' := by
  unfold maxLen at hn
  by_cases hbig : n ≤ 1048576
  · have HR := hide hr
    have HL := hide hl
    clear hr hl
    go_enter Try.func12, Try.ntmps12
    go_wp2
    go_loop [11, 12] (fun zz i => ∃ (k : Nat) (z : Int), k ≤ n ∧ 0 ≤ z ∧ z ≤ 1048576 ∧ i = .int .i64 k ∧ zz = .int .i64 z ∧ ∀ i g, i < k → L[i]? = some g → Small g) (fun _ i => n - (intOf i).toNat)
    case atStart => exact ⟨0, (n : Int), Nat.zero_le _, by omega, by omega, rfl, rfl, fun i g h => absurd h (by omega)⟩
    case round =>
      obtain ⟨k, z, hk, z0, z1, rfl, rfl, hs⟩ := hrel
      have HS := hide hs
      clear hs
      by_cases hlt : k < n
      · have hkl : k < L.length := by have := HL.out; omega
        obtain ⟨b1, o1, rfl, a0, a1, a2, a3, a4⟩ := HR.out.at k hkl
        obtain ⟨f, hf⟩ : ∃ f, L[k] = f := ⟨_, rfl⟩
        rw [hf] at a0 a1 a2 a3 a4
        have HF : Hid (L[k]? = some f) := by show _ = _; rw [List.getElem?_eq_getElem hkl, hf]
        clear hf hkl a4
        go_wp2
        all_goals
          first
          | (go_ret
             exact ⟨ans2_no rfl, rfl⟩)
          | (go_round
             case rel => exact ⟨k + 1, _, by omega, by omega, by assumption, by go_num, rfl, small_next HS.out HF.out ⟨by omega, by omega, by omega, by omega⟩⟩
             case measure => simp [intOf]; omega)
      · go_wp2
        all_goals
          go_ret
          first
          | exact ⟨ans2_no rfl, rfl⟩
          | exact ⟨ans2_yes rfl hbig (small_all HL.out (fun i g hi hg => HS.out i g (by omega) hg)) (by omega) (by omega), rfl⟩
  · clear hr
    go_enter Try.func12, Try.ntmps12
    go_wp2
    go_ret
    exact ⟨ans2_no rfl, rfl⟩

/-- framesTooBig answers; where it says no, the bound holds -/
def Ans3 (n : Nat) (x : Int) (e : Ending) : Prop := ∃ v : Bool, e = .returned (.bool v) ∧ (v = false → (n : Int) * 40 + x ≤ 1048576)
theorem ans3_yes {n : Nat} {x : Int} {e : Ending} (h : e = .returned (.bool true)) : Ans3 n x e := ⟨true, h, fun h => by cases h⟩
theorem ans3_no {n : Nat} {x : Int} {e : Ending} (h : e = .returned (.bool false)) (h1 : (n : Int) * 40 + x ≤ 1048576) : Ans3 n x e := ⟨false, h, fun _ => h1⟩

set_option maxRecDepth 100000 in
set_option maxHeartbeats 3200000 in
theorem tooBig (ao : Option Addr) (n cap : Nat) (x : Int) (L : List Fr) (w : World) (hn : n ≤ 1048576) (x0 : 0 ≤ x) (x1 : x ≤ 3000000) (hl : L.length = n) (hr : Rd w ao L) (hs : ∀ f ∈ L, Small f) :
    Calls Try.prog 6 #[.slice ao n cap, .int .i64 x] w fun e w' => Ans3 n x e ∧ w = w' := by
  by_cases hx : x ≤ 1048576
  · have HR := hide hr
    have HL := hide hl
    have HS := hide hs
    clear hr hl hs
    go_enter Try.func6, Try.ntmps6
    go_wp2
    go_loop [5, 6] (fun zz i => ∃ (k : Nat) (z : Int), k ≤ n ∧ (k : Int) * 40 + x ≤ z ∧ z ≤ 1048576 ∧ i = .int .i64 k ∧ zz = .int .i64 z) (fun _ i => n - (intOf i).toNat)
    case atStart => exact ⟨0, x, Nat.zero_le _, by omega, by omega, rfl, rfl⟩
    case round =>
      obtain ⟨k, z, hk, z0, z1, rfl, rfl⟩ := hrel
      by_cases hlt : k < n
      · have hkl : k < L.length := by have := HL.out; omega
        obtain ⟨b1, o1, rfl, a0, a1, a2, a3, a4⟩ := HR.out.at k hkl
        obtain ⟨s0, s1, s2, s3⟩ := HS.out L[k] (List.getElem_mem hkl)
        obtain ⟨f, hf⟩ : ∃ f, L[k] = f := ⟨_, rfl⟩
        rw [hf] at a0 a1 a2 a3 a4 s0 s1 s2 s3
        clear hf hkl a4
        have z2 : 0 ≤ z := by omega
        go_wp2
        all_goals
          first
          | (go_ret
             exact ⟨ans3_yes rfl, rfl⟩)
          | (go_round
             case rel => exact ⟨k + 1, _, by omega, by omega, by assumption, by go_num, rfl⟩
             case measure => simp [intOf]; omega)
      · go_wp2
        go_ret
        exact ⟨ans3_no rfl (by omega), rfl⟩
  · clear hr hs
    go_enter Try.func6, Try.ntmps6
    go_wp2
    go_ret
    exact ⟨ans3_yes rfl, rfl⟩

end Go.Proofs.Qxb6628401a
