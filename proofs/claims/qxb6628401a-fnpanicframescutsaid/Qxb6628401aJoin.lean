/-
  THE WALK OF joinFrames.
-/
import Derived.Test.Qxb6628401aWalks
namespace Go.Proofs.Qxb6628401a
open Go.RowKit

theorem info28 : (Try.prog.info? 28).map (fun i => (i.zero, i.size, i.bytes)) = some (some (.agg #[.string ⟨#[]⟩, .string ⟨#[]⟩, .string ⟨#[]⟩, .string ⟨#[]⟩, .int .i64 0]), 5, 72) := by kernel_rfl

theorem below5 {w wr : World} (h : Below w.heap.size w wr) {g : Nat} (hg : w.heap.size ≤ g) (k0 k1 k2 k3 k4 : Nat) (v0 v1 v2 v3 v4 : Value) :
    Below w.heap.size w (((((wr.setCell ⟨g, k0, none⟩ v0).setCell ⟨g, k1, none⟩ v1).setCell ⟨g, k2, none⟩ v2).setCell ⟨g, k3, none⟩ v3).setCell ⟨g, k4, none⟩ v4) :=
  ((((h.setCell (by exact hg) _).setCell (by exact hg) _).setCell (by exact hg) _).setCell (by exact hg) _).setCell (by exact hg) _

set_option maxHeartbeats 1600000 in
theorem join_any (ao bo : Option Addr) (na nb c d : Nat) (A B : List Fr) (w : World) (hna : na ≤ 1048576) (hnb : nb ≤ 1048576) (hA : A.length = na) (hB : B.length = nb) (ha : Rd w ao A) (hb : Rd w bo B) :
    Calls Try.prog 10 #[.slice ao na c, .slice bo nb d] w fun e w' => ∃ g, e = .returned (.slice (some ⟨g, 0, none⟩) (na + nb) (na + nb)) ∧ Rd w' (some ⟨g, 0, none⟩) (A ++ B) ∧ Below w.heap.size w w' := by
  obtain ⟨i0, hi, hz0, hz1, hz2⟩ := info_parts info28
  have HA := hide ha
  have HB := hide hb
  have LA := hide hA
  have LB := hide hB
  clear ha hb hA hB
  go_enter Try.func10, Try.ntmps10
  go_wp2_with (at_make; refine wpList_make_full _ rfl _ _ 22 rfl w.heap.size 28 i0 _ 5 Try.underlying22 hi hz0 hz1 .i64 .i64 _ _ (na + nb) rfl rfl (by omega) (by omega) (by rw [hz2]; omega) (by unfold maxLen; omega) (Nat.le_refl _) ?_; intro w1 hown hgrow)
  have HB1 : Hid (Below w.heap.size w w1) := (Below.refl _ _).grown hgrow (Nat.le_refl _) (fun k h => by cases h)
  have HU : Hid (Upto w1 w.heap.size 28 ((na + nb) * 5) 0 (frow (A ++ B))) := Upto.made hown
  clear hown hgrow hi hz0 hz1 hz2
  go_loopw [6] (fun i wr => ∃ k : Nat, k ≤ na ∧ i = .int .i64 k ∧ Upto wr w.heap.size 28 ((na + nb) * 5) (k * 5) (frow (A ++ B)) ∧ Below w.heap.size w wr) (fun i _ => na - (intOf i).toNat)
  case atStart => exact ⟨0, Nat.zero_le _, rfl, by rw [Nat.zero_mul]; exact HU.out, HB1.out⟩
  case round =>
    clear HU HB1
    obtain ⟨k, hk, rfl, hU, hBel⟩ := hrel
    have HU := hide hU
    have HBel := hide hBel
    clear hU hBel
    by_cases hlt : k < na
    · have hkl : k < A.length := by have := LA.out; omega
      obtain ⟨b1, o1, rfl, hat⟩ := HA.out.at k hkl
      obtain ⟨a0, a1, a2, a3, a4⟩ := hat.keep HBel.out
      obtain ⟨f, hf⟩ : ∃ f, A[k] = f := ⟨_, rfl⟩
      rw [hf] at a0 a1 a2 a3 a4
      have HF : Hid ((A ++ B)[k]? = some f) := by show _ = _; rw [List.getElem?_append_left hkl, List.getElem?_eq_getElem hkl, hf]
      obtain ⟨v0, t0⟩ := HU.out.there (i := k * 5) (by omega)
      obtain ⟨v1, t1⟩ := HU.out.there (i := k * 5 + 1) (by omega)
      obtain ⟨v2, t2⟩ := HU.out.there (i := k * 5 + 2) (by omega)
      obtain ⟨v3, t3⟩ := HU.out.there (i := k * 5 + 3) (by omega)
      obtain ⟨v4, t4⟩ := HU.out.there (i := k * 5 + 4) (by omega)
      have f0 := HU.out.free (k * 5)
      have f1 := HU.out.free (k * 5 + 1)
      have f2 := HU.out.free (k * 5 + 2)
      have f3 := HU.out.free (k * 5 + 3)
      have f4 := HU.out.free (k * 5 + 4)
      clear hf hkl hat
      go_wp2
      go_roundw
      case rel => exact ⟨k + 1, by omega, by go_num, HU.out.push5 HF.out, below5 HBel.out (Nat.le_refl _) _ _ _ _ _ _ _ _ _ _⟩
      case measure => simp [intOf]; omega
    · have hkn : k = na := by omega
      subst hkn
      clear hlt hk
      go_wp2
      go_loopw [7] (fun i wr => ∃ j : Nat, j ≤ nb ∧ i = .int .i64 j ∧ Upto wr w.heap.size 28 ((k + nb) * 5) ((k + j) * 5) (frow (A ++ B)) ∧ Below w.heap.size w wr) (fun i _ => nb - (intOf i).toNat)
      case atStart => exact ⟨0, Nat.zero_le _, rfl, HU.out, HBel.out⟩
      case round =>
        clear HU HBel
        obtain ⟨j, hj, rfl, hU, hBel⟩ := hrel
        have HU := hide hU
        have HBel := hide hBel
        clear hU hBel
        by_cases hlt : j < nb
        · have hkl : j < B.length := by have := LB.out; omega
          obtain ⟨b1, o1, rfl, hat⟩ := HB.out.at j hkl
          obtain ⟨a0, a1, a2, a3, a4⟩ := hat.keep HBel.out
          obtain ⟨f, hf⟩ : ∃ f, B[j] = f := ⟨_, rfl⟩
          rw [hf] at a0 a1 a2 a3 a4
          have HF : Hid ((A ++ B)[k + j]? = some f) := by show _ = _; rw [List.getElem?_append_right (by rw [LA.out]; omega), LA.out, Nat.add_sub_cancel_left, List.getElem?_eq_getElem hkl, hf]
          obtain ⟨v0, t0⟩ := HU.out.there (i := (k + j) * 5) (by omega)
          obtain ⟨v1, t1⟩ := HU.out.there (i := (k + j) * 5 + 1) (by omega)
          obtain ⟨v2, t2⟩ := HU.out.there (i := (k + j) * 5 + 2) (by omega)
          obtain ⟨v3, t3⟩ := HU.out.there (i := (k + j) * 5 + 3) (by omega)
          obtain ⟨v4, t4⟩ := HU.out.there (i := (k + j) * 5 + 4) (by omega)
          have f0 := HU.out.free ((k + j) * 5)
          have f1 := HU.out.free ((k + j) * 5 + 1)
          have f2 := HU.out.free ((k + j) * 5 + 2)
          have f3 := HU.out.free ((k + j) * 5 + 3)
          have f4 := HU.out.free ((k + j) * 5 + 4)
          clear hf hkl hat
          go_wp2
          go_roundw
          case rel => exact ⟨j + 1, by omega, by go_num, HU.out.push5 HF.out, below5 HBel.out (Nat.le_refl _) _ _ _ _ _ _ _ _ _ _⟩
          case measure => simp [intOf]; omega
        · have hjn : j = nb := by omega
          subst hjn
          go_wp2
          go_ret
          refine ⟨_, rfl, ?_, HBel.out⟩
          have hl : (A ++ B).length = k + j := by rw [List.length_append, LA.out, LB.out]
          exact Upto.rd (t := 28) (n := (k + j) * 5) (by rw [hl]; exact HU.out) (by rw [hl]; omega)

end Go.Proofs.Qxb6628401a
