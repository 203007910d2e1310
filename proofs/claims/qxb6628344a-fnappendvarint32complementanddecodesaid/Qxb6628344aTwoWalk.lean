/-
  THE LAW FnAppendVarint32TwoInARow, WALKED OUT OF ITS CALLEES' CONTRACTS.
-/
import Derived.Test.Qxb6628344aWalks3
import Derived.Deep.QuietTactic
import Derived.BigQuiet
namespace Go.Proofs.Qxb6628344a
open Go.RowKit

theorem min_is (v : Int) (L : Nat) (w : World) (h0 : -2147483648 ≤ v) (h1 : v ≤ 2147483647) (hL : (leb 5 v).length = L) :
    Calls Try.prog 8 #[.int .i32 v] w fun e w' => e = .returned (.int .i64 L) ∧ w = w' := by
  subst hL
  rw [leb_len v h0 h1]
  exact min_any v w h0 h1

theorem app_is (base n L : Nat) (v : Int) (b : Value) (xs : List Value) (w : World) (hown : w.ownsRow base 5 1 b n xs) (hbase : base ≤ w.heap.size) (hn : n ≤ 1048700) (h0 : -2147483648 ≤ v) (h1 : v ≤ 2147483647) (hL : (leb 5 v).length = L) :
    Calls Try.prog 7 #[b, .int .i32 v] w fun e w' => ∃ g cap, e = .returned (.slice (some ⟨g, 0, none⟩) (n + L) cap) ∧
      w'.ownsRow base 5 1 (.slice (some ⟨g, 0, none⟩) (n + L) cap) (n + L) (xs ++ B8 (leb 5 v)) ∧ Below base w w' := by
  subst hL
  exact app_any base n v b xs w hown hbase hn h0 h1

theorem dec_is (g o len cap p L : Nat) (P v : Int) (w : World) (h0 : -2147483648 ≤ v) (h1 : v ≤ 2147483647) (hL : (leb 5 v).length = L) (hlen : len ≤ 2097152) (hp : p + L ≤ len) (hP : P = (p : Int))
    (hcell : ∀ j b, (leb 5 v)[j]? = some b → w.cell? ⟨g, o + (p + j), none⟩ = some (.int .u8 b)) :
    Calls Try.prog 9 #[.slice (some ⟨g, o, none⟩) len cap, .int .i64 P] w fun e w' => e = .returned (.tuple #[.int .i64 v, .int .i64 L, .bool true]) ∧ w = w' := by
  subst hL
  subst hP
  exact dec_any g o len cap p v w h0 h1 hlen hp hcell

theorem lt_of_cell {w : World} {p : Addr} {v : Value} (h : w.cell? p = some v) : p.block < w.heap.size := by
  rcases Nat.lt_or_ge p.block w.heap.size with h' | h'
  · exact h'
  · have : w.heap[p.block]? = none := Array.getElem?_eq_none h'
    simp [World.cell?, this] at h

/-- what an owned row of bytes is, where it has an element -/
theorem own_pos {w : World} {base n c : Nat} {ao : Option Addr} {xs : List Value} (h : w.ownsRow base 5 1 (.slice ao n c) n xs) (hn : 0 < n) : ∃ g, ao = some ⟨g, 0, none⟩ ∧ base ≤ g ∧ g < w.heap.size := by
  rcases h.2 with ⟨h', h0⟩ | ⟨g, cap, cur, h', hb, hg, _⟩
  · omega
  · simp only [Value.slice.injEq] at h'
    exact ⟨g, h'.1, hb, (Array.getElem?_eq_some_iff.1 hg).1⟩

theorem B8_at (zs : List Int) (j : Nat) (h : j < zs.length) : (B8 zs)[j]? = some (.int .u8 (zs.getD j 0)) := by
  simp [B8, h]

theorem B8_of {zs : List Int} {j : Nat} {b : Int} (h : zs[j]? = some b) : (B8 zs)[j]? = some (.int .u8 b) := by
  simp [B8, h]

set_option maxHeartbeats 3200000 in
theorem two_main (a : Option Addr) (n cap : Nat) (zs : List Int) (v u : Int) (w : World) (hs : Src w a n cap zs) (hn : n ≤ 1048576)
    (v0 : -2147483648 ≤ v) (v1 : v ≤ 2147483647) (u0 : -2147483648 ≤ u) (u1 : u ≤ 2147483647) :
    Calls Try.prog 4 #[.slice a n cap, .int .i32 v, .int .i32 u] w fun e w' => e = .returned (.bool true) ∧ Below w.heap.size w w' := by
  obtain ⟨L1, hL1⟩ : ∃ L, (leb 5 v).length = L := ⟨_, rfl⟩
  obtain ⟨L2, hL2⟩ : ∃ L, (leb 5 u).length = L := ⟨_, rfl⟩
  have l1 : L1 ≤ 5 := by rw [← hL1]; exact leb_len_le _ _
  have l2 : L2 ≤ 5 := by rw [← hL2]; exact leb_len_le _ _
  have HL1 := hide hL1
  have HL2 := hide hL2
  have HS := hide hs
  have hz : zs.length = n := hs.1
  have HZ := hide hz
  have hx : ∀ x, a = some x → n ≠ 0 → x.block < w.heap.size := by
    intro x hx hn0
    rcases hs.2 with ⟨h, -⟩ | ⟨y, hy, hc⟩
    · rw [h] at hx; cases hx
    · rw [hy] at hx
      cases hx
      have := lt_of_cell (hc 0 (by omega))
      rwa [add_block] at this
  have HX := hide hx
  clear hL1 hL2 hs hz hx
  go_enter Try.func4, Try.ntmps4
  go_wp2_with (go_at_call 10; refine (bytes2 a n cap v u _ true (decide_eq_true (by omega)) (by unfold maxLen; omega)).mono ?_; rintro e w' ⟨rfl, rfl⟩)
  refine (clone_any a n cap zs _ HS.out hn HX.out).mono ?_
  rintro e w1 ⟨ao, c1, rfl, ho1, hb1⟩
  have HS1 : Hid (Src w1 a n cap zs) := by
    refine ⟨HS.out.1, ?_⟩
    rcases HS.out.2 with h | ⟨x, rfl, hc⟩
    · exact .inl h
    · refine .inr ⟨x, rfl, fun i hi => ?_⟩
      rw [hb1.cell (by rw [add_block]; exact HX.out x rfl (by omega))]
      exact hc i hi
  have HX1 : Hid (∀ x, a = some x → n ≠ 0 → x.block < w1.heap.size) := fun x h h' => Nat.lt_of_lt_of_le (HX.out x h h') hb1.size
  have HO1 := hide ho1
  have HB1 := hide hb1
  clear ho1 hb1
  go_wp2_with fail
  refine (clone_any a n cap zs _ HS1.out hn HX1.out).mono ?_
  rintro e w2 ⟨bo, c2, rfl, ho2, hb2⟩
  have HO2 := hide ho2
  have HB2 := hide hb2
  clear ho2 hb2 HS1 HX1 HS HX
  go_wp2_with fail
  refine (app_is w1.heap.size n L1 v _ _ _ HO2.out HB2.out.size (by omega) v0 v1 HL1.out).mono ?_
  rintro e w3 ⟨g1, k1, rfl, ho3, hb3⟩
  have HO3 := hide ho3
  have HB3 : Hid (Below w1.heap.size w1 w3) := HB2.out.trans hb3
  clear ho3 hb3 HB2 HO2
  go_wp2_with fail
  refine (min_is v L1 _ v0 v1 HL1.out).mono ?_
  rintro e w' ⟨rfl, rfl⟩
  go_wp2_with fail
  refine (min_is u L2 _ u0 u1 HL2.out).mono ?_
  rintro e w' ⟨rfl, rfl⟩
  go_wp2_with fail
  refine (app_is w1.heap.size (n + L1) L2 u _ _ _ HO3.out HB3.out.size (by omega) u0 u1 HL2.out).mono ?_
  rintro e w4 ⟨g2, k2, rfl, ho4, hb4⟩
  have HO4 := hide ho4
  have HB4 : Hid (Below w1.heap.size w1 w4) := HB3.out.trans hb4
  clear ho4 hb4 HB3 HO3
  go_wp2_with fail
  go_loopw [12] (fun i wr => ∃ k : Nat, k ≤ n ∧ i = .int .i64 k ∧ ∃ m, wr = w4.drewN m) (fun i _ => n - (intOf i).toNat)
  case atStart => exact ⟨0, Nat.zero_le _, rfl, 0, rfl⟩
  case round =>
    obtain ⟨k, hk, rfl, hm⟩ := hrel
    have HM := hide hm
    clear hm
    by_cases hlt : k < n
    · obtain ⟨g0, rfl, hg0, hg1⟩ := own_pos HO1.out (by omega)
      have cA : wr.cell? ⟨g0, k, none⟩ = some (.int .u8 (zs.getD k 0)) := by
        obtain ⟨m, rfl⟩ := HM.out
        rw [World.cell?_drewN, HB4.out.cell (by exact hg1)]
        have := HO1.out
        rcases this.2 with ⟨h', _⟩ | ⟨g', cap', cur, h', _⟩
        · simp at h'
        · simp only [Value.slice.injEq, Option.some.injEq, Addr.mk.injEq, and_true, true_and] at h'
          obtain ⟨rfl, rfl⟩ := h'
          rw [this.cellAt k (by omega)]
          exact B8_at zs k (by have := HZ.out; omega)
      have cB : wr.cell? ⟨g2, k, none⟩ = some (.int .u8 (zs.getD k 0)) := by
        obtain ⟨m, rfl⟩ := HM.out
        rw [World.cell?_drewN, HO4.out.cellAt k (by omega), List.append_assoc, List.getElem?_append_left (by rw [B8_length, HZ.out]; omega)]
        exact B8_at zs k (by have := HZ.out; omega)
      obtain ⟨z, hz⟩ : ∃ z, zs.getD k 0 = z := ⟨_, rfl⟩
      rw [hz] at cA cB
      clear hz hg0 hg1
      have j0 : (k : Int) < (n : Int) := by omega
      have j1 : (k : Int) < ((n + L1 + L2 : Nat) : Int) := by omega
      go_wp2
      go_quiet (fail)
      go_wp2
      go_roundw
      case rel =>
        obtain ⟨m, hm⟩ := HM.out
        exact ⟨k + 1, by omega, by go_num, m + nq, by rw [hm, World.drewN_drewN]⟩
      case measure => simp [intOf]; omega
    · have hkn : k = n := by omega
      subst hkn
      have cC : Hid (∀ j b, (leb 5 v)[j]? = some b → wr.cell? ⟨g2, 0 + (k + j), none⟩ = some (.int .u8 b)) := by
        intro j b hb
        obtain ⟨m, rfl⟩ := HM.out
        have hj : j < L1 := by have := (List.getElem?_eq_some_iff.1 hb).1; have := HL1.out; omega
        rw [World.cell?_drewN, HO4.out.cellAt _ (by omega), List.getElem?_append_left (by rw [List.length_append, B8_length, B8_length, HZ.out, HL1.out]; omega), List.getElem?_append_right (by rw [B8_length, HZ.out]; omega), B8_length, HZ.out]
        rw [show 0 + (k + j) - k = j by omega]
        exact B8_of hb
      have cD : Hid (∀ j b, (leb 5 u)[j]? = some b → wr.cell? ⟨g2, 0 + ((k + L1) + j), none⟩ = some (.int .u8 b)) := by
        intro j b hb
        obtain ⟨m, rfl⟩ := HM.out
        have hj : j < L2 := by have := (List.getElem?_eq_some_iff.1 hb).1; have := HL2.out; omega
        rw [World.cell?_drewN, HO4.out.cellAt _ (by omega), List.getElem?_append_right (by rw [List.length_append, B8_length, B8_length, HZ.out, HL1.out]; omega), List.length_append, B8_length, B8_length, HZ.out, HL1.out]
        rw [show 0 + (k + L1 + j) - (k + L1) = j by omega]
        exact B8_of hb
      go_wp2_with fail
      refine (dec_is g2 0 _ _ k L1 _ v _ v0 v1 HL1.out (by omega) (by omega) rfl cC.out).mono ?_
      rintro e w' ⟨rfl, rfl⟩
      go_wp2_with fail
      refine (dec_is g2 0 _ _ (k + L1) L2 _ u _ u0 u1 HL2.out (by omega) (by omega) (by omega) cD.out).mono ?_
      rintro e w' ⟨rfl, rfl⟩
      go_wp2
      go_ret
      obtain ⟨m, hm⟩ := HM.out
      exact ⟨rfl, by rw [hm]; exact HB1.out.trans ((HB4.out.mono HB1.out.size).trans ⟨rfl, rfl, rfl, Nat.le_refl _, fun _ _ => rfl⟩)⟩

end Go.Proofs.Qxb6628344a
