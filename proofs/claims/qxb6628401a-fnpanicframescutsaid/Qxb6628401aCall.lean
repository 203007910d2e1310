/-
  THE WALK OF callPanicFrames.
-/
import Derived.Test.Qxb6628401aZz
namespace Go.Proofs.Qxb6628401a
open Go.RowKit

set_option maxRecDepth 100000 in
set_option maxHeartbeats 3200000 in
theorem call_any (ao : Option Addr) (n cap : Nat) (L : List Fr) (w : World) (hn : n ≤ 1048576) (hl : L.length = n) (hr : Rd w ao L) :
    Calls Try.prog 7 #[.slice ao n cap] w fun e w' => ∃ g m, e = .returned (.slice (some ⟨g, 0, none⟩) m m) ∧ (pf L).length = m ∧ Rd w' (some ⟨g, 0, none⟩) (pf L) ∧ Below w.heap.size w w' := by
  have HR := hide hr
  have HL := hide hl
  clear hr hl
  have mk9 := run_make_row' (P := Try.prog) 31 9 (.string ⟨#[]⟩) 16 Try.underlying31 info9 rfl .i64 .i64 n (by omega) (by omega)
  have mk3 := run_make_row' (P := Try.prog) 32 3 (.int .i64 0) 8 Try.underlying32 info3 rfl .i64 .i64 n (by omega) (by omega)
  go_enter Try.func7, Try.ntmps7
  go_wp2
  clear mk9 mk3
  go_loopw [9] (fun i wr => ∃ j : Nat, j ≤ n ∧ i = .int .i64 j ∧ Five wr w.heap.size n j L ∧ Below w.heap.size w wr) (fun i _ => n - (intOf i).toNat)
  case atStart => exact ⟨0, Nat.zero_le _, rfl, Five.made _ _ _ _ _, below_five_alloc (Below.refl _ _) _ _ _ _ _⟩
  case round =>
    obtain ⟨j, hj, rfl, h5, hBel⟩ := hrel
    have H5 := hide h5
    have HBel := hide hBel
    clear h5 hBel
    by_cases hlt : j < n
    · have hkl : j < L.length := by have := HL.out; omega
      obtain ⟨b1, o1, rfl, hat⟩ := HR.out.at j hkl
      have hb1 : b1 < w.heap.size := lt_of_cell hat.1
      obtain ⟨a0, a1, a2, a3, a4⟩ := hat.keep HBel.out
      obtain ⟨f, hf⟩ : ∃ f, L[j] = f := ⟨_, rfl⟩
      rw [hf] at a0 a1 a2 a3 a4
      have HF : Hid (L[j]? = some f) := by show _ = _; rw [List.getElem?_eq_getElem hkl, hf]
      obtain ⟨v0, t0⟩ := H5.out.u0.there (i := j) hlt
      obtain ⟨v1, t1⟩ := H5.out.u1.there (i := j) hlt
      obtain ⟨v2, t2⟩ := H5.out.u2.there (i := j) hlt
      obtain ⟨v3, t3⟩ := H5.out.u3.there (i := j) hlt
      obtain ⟨v4, t4⟩ := H5.out.u4.there (i := j) hlt
      have f0 := H5.out.u0.free j
      have f1 := H5.out.u1.free j
      have f2 := H5.out.u2.free j
      have f3 := H5.out.u3.free j
      have f4 := H5.out.u4.free j
      clear hf hkl hat
      have n0 : ¬ b1 = w.heap.size := by omega
      have n1 : ¬ b1 = w.heap.size + 1 := by omega
      have n2 : ¬ b1 = w.heap.size + 1 + 1 := by omega
      have n3 : ¬ b1 = w.heap.size + 1 + 1 + 1 := by omega
      go_wp2
      go_roundw
      case rel => exact ⟨j + 1, by omega, by go_num, H5.out.push HF.out, below_five HBel.out (Nat.le_refl _) _ _ _ _ _ _⟩
      case measure => simp [intOf]; omega
    · have hjn : j = n := by omega
      subst hjn
      clear hlt hj
      go_wp2_with (go_at_call 13; refine (zz_any _ _ _ _ _ j L _ hn HL.out (H5.out.u0.col HL.out) (H5.out.u1.col HL.out) (H5.out.u2.col HL.out) (H5.out.u3.col HL.out) (H5.out.u4.col HL.out)).mono ?_; rintro e w2 ⟨g0, g1, g2, g3, g4, m, rfl, hm, c0, c1, c2, c3, c4, hB2⟩; refine Hid.out ?_)
      refine hide ?_
      have hm2 : m ≤ 1048576 := by rw [← hm]; exact Nat.le_trans (pf_len L) (by rw [HL.out]; exact hn)
      have HB2 : Hid (Below w.heap.size w w2) := HBel.out.trans (hB2.mono HBel.out.size)
      have HM := hide hm
      have C0 := hide c0
      have C1 := hide c1
      have C2 := hide c2
      have C3 := hide c3
      have C4 := hide c4
      clear HBel hB2 hm c0 c1 c2 c3 c4 H5 HR
      obtain ⟨i0, hi, hz0, hz1, hz2⟩ := info_parts info28
      go_wp2_with (at_make; refine wpList_make_full _ rfl _ _ 22 rfl w2.heap.size 28 i0 _ 5 Try.underlying22 hi hz0 hz1 .i64 .i64 _ _ m rfl rfl (by omega) (by omega) (by rw [hz2]; omega) (by unfold maxLen; omega) (Nat.le_refl _) ?_; intro w3 hown hgrow)
      have HB3 : Hid (Below w2.heap.size w2 w3) := (Below.refl _ _).grown hgrow (Nat.le_refl _) (fun k h => by cases h)
      have HU : Hid (Upto w3 w2.heap.size 28 (m * 5) 0 (frow (pf L))) := Upto.made hown
      clear hown hgrow hi hz0 hz1 hz2
      go_loopw [16] (fun i wr => ∃ k : Nat, k ≤ m ∧ i = .int .i64 k ∧ Upto wr w2.heap.size 28 (m * 5) (k * 5) (frow (pf L)) ∧ Below w2.heap.size w2 wr) (fun i _ => m - (intOf i).toNat)
      case atStart => exact ⟨0, Nat.zero_le _, rfl, by rw [Nat.zero_mul]; exact HU.out, HB3.out⟩
      case round =>
        clear HU HB3
        obtain ⟨k, hk, rfl, hU, hBel⟩ := hrel
        have HU := hide hU
        have HBel := hide hBel
        clear hU hBel
        by_cases hlt : k < m
        · have hkl : k < (pf L).length := by have := HM.out; omega
          obtain ⟨f, hf⟩ : ∃ f, (pf L)[k]? = some f := ⟨_, List.getElem?_eq_getElem hkl⟩
          have HF := hide hf
          have d0 := C0.out.keep HBel.out k f hf
          have d1 := C1.out.keep HBel.out k f hf
          have d2 := C2.out.keep HBel.out k f hf
          have d3 := C3.out.keep HBel.out k f hf
          have d4 := C4.out.keep HBel.out k f hf
          clear hf hkl
          obtain ⟨v0, t0⟩ := HU.out.there (i := k * 5) (by omega)
          obtain ⟨v1, t1⟩ := HU.out.there (i := k * 5 + 1) (by omega)
          obtain ⟨v2, t2⟩ := HU.out.there (i := k * 5 + 2) (by omega)
          obtain ⟨v3, t3⟩ := HU.out.there (i := k * 5 + 3) (by omega)
          obtain ⟨v4, t4⟩ := HU.out.there (i := k * 5 + 4) (by omega)
          have f0 := HU.out.free (k * 5)
          have f1 := HU.out.free (k * 5 + 1)
          have f2 := HU.out.free (k * 5 + 2)
          have f3 := HU.out.free (k * 5 + 3)
          have f4 := HU.out.free (k * 5 + 4)
          have j0 : (k : Int) < (m : Int) := by omega
          go_wp2
          go_region
          go_wp2
          go_roundw
          case rel => exact ⟨k + 1, by omega, by go_num, Upto.drew (HU.out.push5 HF.out), (below5 HBel.out (Nat.le_refl _) _ _ _ _ _ _ _ _ _ _).drew⟩
          case measure => simp [intOf]; omega
        · have hkn : k = m := by omega
          subst hkn
          go_wp2
          go_ret
          exact ⟨_, k, rfl, HM.out, Upto.rd (t := 28) (n := k * 5) (by rw [HM.out]; exact HU.out) (by rw [HM.out]; omega), HB2.out.trans (HBel.out.mono HB2.out.size)⟩

end Go.Proofs.Qxb6628401a
