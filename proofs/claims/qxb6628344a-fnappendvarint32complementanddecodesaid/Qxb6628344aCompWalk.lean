/-
  THE LAW FnAppendVarint32ComplementAndDecode, WALKED OUT OF ITS CALLEES' CONTRACTS.
-/
import Derived.Test.Qxb6628344aTwoWalk
namespace Go.Proofs.Qxb6628344a
open Go.RowKit

theorem app_nil (L : Nat) (v : Int) (w : World) (h0 : -2147483648 ≤ v) (h1 : v ≤ 2147483647) (hL : (leb 5 v).length = L) :
    Calls Try.prog 7 #[.slice none 0 0, .int .i32 v] w fun e w' => ∃ g cap, e = .returned (.slice (some ⟨g, 0, none⟩) L cap) ∧
      w'.ownsRow w.heap.size 5 1 (.slice (some ⟨g, 0, none⟩) L cap) L (B8 (leb 5 v)) ∧ Below w.heap.size w w' := by
  refine (app_is w.heap.size 0 L v _ [] w (World.ownsRow_nil _ _ _ _) (Nat.le_refl _) (by omega) h0 h1 hL).mono ?_
  rintro e w' ⟨g, cap, rfl, ho, hb⟩
  rw [Nat.zero_add, List.nil_append] at ho
  exact ⟨g, cap, by rw [Nat.zero_add], ho, hb⟩

theorem own_cap {w : World} {base n c g : Nat} {xs : List Value} (h : w.ownsRow base 5 1 (.slice (some ⟨g, 0, none⟩) n c) n xs) : n ≤ c ∧ c ≤ maxLen := by
  rcases h.2 with ⟨h', _⟩ | ⟨g', cap', cur, h', _, hg, h1, h2, hcs, _⟩
  · simp at h'
  · simp only [Value.slice.injEq, Option.some.injEq, Addr.mk.injEq, and_true, true_and] at h'
    obtain ⟨rfl, rfl⟩ := h'
    exact ⟨h1, h2⟩

theorem own_lt {w : World} {base n c g : Nat} {xs : List Value} (h : w.ownsRow base 5 1 (.slice (some ⟨g, 0, none⟩) n c) n xs) : g < w.heap.size := by
  rcases h.2 with ⟨h', _⟩ | ⟨g', cap', cur, h', _, hg, h1, h2, hcs, _⟩
  · simp at h'
  · simp only [Value.slice.injEq, Option.some.injEq, Addr.mk.injEq, and_true, true_and] at h'
    obtain ⟨rfl, rfl⟩ := h'
    exact (Array.getElem?_eq_some_iff.1 hg).1

set_option maxHeartbeats 3200000 in
theorem comp_main (a : Option Addr) (n cap : Nat) (zs : List Int) (v : Int) (w : World) (hs : Src w a n cap zs) (hn : n ≤ 1048576)
    (v0 : -2147483648 ≤ v) (v1 : v ≤ 2147483647) :
    Calls Try.prog 3 #[.slice a n cap, .int .i32 v] w fun e w' => e = .returned (.bool true) ∧ Below w.heap.size w w' := by
  obtain ⟨L, hL⟩ : ∃ L, (leb 5 v).length = L := ⟨_, rfl⟩
  have l1 : L ≤ 5 := by rw [← hL]; exact leb_len_le _ _
  have l0 : 1 ≤ L := by rw [← hL]; exact leb_pos _ _
  have HLF : Hid ((leb 5 (-1 - v)).length = L) := by show _ = _; rw [leb_flip]; simpa using hL
  have HL := hide hL
  have HS := hide hs
  have hz : zs.length = n := hs.1
  have HZ := hide hz
  have hx : ∀ x, a = some x → n ≠ 0 → x.block < w.heap.size := by
    intro x hx hn0
    rcases hs.2 with ⟨h, -⟩ | ⟨y, hy, hc⟩
    · rw [h] at hx; cases hx
    · rw [hy] at hx
      cases hx
      have := lt_of_cell (hc 0 (by omega))
      rwa [add_block] at this
  have HX := hide hx
  clear hL hs hz hx
  go_enter Try.func3, Try.ntmps3
  go_wp2_with (go_at_call 5; refine (bytes1 a n cap v _ true (decide_eq_true (by omega)) (by unfold maxLen; omega)).mono ?_; rintro e w' ⟨rfl, rfl⟩)
  refine (clone_any a n cap zs _ HS.out hn HX.out).mono ?_
  rintro e w1 ⟨ao, c1, rfl, ho1, hb1⟩
  have HS1 : Hid (Src w1 a n cap zs) := by
    refine ⟨HS.out.1, ?_⟩
    rcases HS.out.2 with h | ⟨x, rfl, hc⟩
    · exact .inl h
    · refine .inr ⟨x, rfl, fun i hi => ?_⟩
      rw [hb1.cell (by rw [add_block]; exact HX.out x rfl (by omega))]
      exact hc i hi
  have HX1 : Hid (∀ x, a = some x → n ≠ 0 → x.block < w1.heap.size) := fun x h h' => Nat.lt_of_lt_of_le (HX.out x h h') hb1.size
  have HO1 := hide ho1
  have HB1 := hide hb1
  clear ho1 hb1
  go_wp2_with fail
  refine (clone_any a n cap zs _ HS1.out hn HX1.out).mono ?_
  rintro e w2 ⟨bo, c2, rfl, ho2, hb2⟩
  have HO2 := hide ho2
  have HB2 := hide hb2
  clear ho2 hb2 HS1 HX1 HS HX
  go_wp2_with fail
  refine (app_is w1.heap.size n L v _ _ _ HO2.out HB2.out.size (by omega) v0 v1 HL.out).mono ?_
  rintro e w4 ⟨g2, k2, rfl, ho3, hb3⟩
  obtain ⟨q1, q2⟩ := own_cap ho3
  unfold maxLen at q2
  have HO4 := hide ho3
  have HB4 : Hid (Below w1.heap.size w1 w4) := HB2.out.trans hb3
  clear ho3 hb3 HB2 HO2
  go_wp2_with fail
  go_loopw [7] (fun i wr => ∃ k : Nat, k ≤ n ∧ i = .int .i64 k ∧ ∃ m, wr = w4.drewN m) (fun i _ => n - (intOf i).toNat)
  case atStart => exact ⟨0, Nat.zero_le _, rfl, 0, rfl⟩
  case round =>
    obtain ⟨k, hk, rfl, hm⟩ := hrel
    have HM := hide hm
    clear hm
    by_cases hlt : k < n
    · obtain ⟨g0, rfl, hg0, hg1⟩ := own_pos HO1.out (by omega)
      have cA : wr.cell? ⟨g0, k, none⟩ = some (.int .u8 (zs.getD k 0)) := by
        obtain ⟨m, rfl⟩ := HM.out
        rw [World.cell?_drewN, HB4.out.cell (by exact hg1)]
        have := HO1.out
        rw [this.cellAt k (by omega)]
        exact B8_at zs k (by have := HZ.out; omega)
      have cB : wr.cell? ⟨g2, k, none⟩ = some (.int .u8 (zs.getD k 0)) := by
        obtain ⟨m, rfl⟩ := HM.out
        rw [World.cell?_drewN, HO4.out.cellAt k (by omega), List.getElem?_append_left (by rw [B8_length, HZ.out]; omega)]
        exact B8_at zs k (by have := HZ.out; omega)
      obtain ⟨z, hz⟩ : ∃ z, zs.getD k 0 = z := ⟨_, rfl⟩
      rw [hz] at cA cB
      clear hz hg0 hg1
      have j0 : (k : Int) < (n : Int) := by omega
      have j1 : (k : Int) < ((n + L : Nat) : Int) := by omega
      go_wp2
      go_quiet (fail)
      go_wp2
      go_roundw
      case rel =>
        obtain ⟨m, hm⟩ := HM.out
        exact ⟨k + 1, by omega, by go_num, m + nq, by rw [hm, World.drewN_drewN]⟩
      case measure => simp [intOf]; omega
    · have hkn : k = n := by omega
      subst hkn
      have cC : Hid (∀ j b, (leb 5 v)[j]? = some b → wr.cell? ⟨g2, k + (0 + j), none⟩ = some (.int .u8 b)) := by
        intro j b hb
        obtain ⟨m, rfl⟩ := HM.out
        have hj : j < L := by have := (List.getElem?_eq_some_iff.1 hb).1; have := HL.out; omega
        rw [World.cell?_drewN, HO4.out.cellAt _ (by omega), List.getElem?_append_right (by rw [B8_length, HZ.out]; omega), B8_length, HZ.out]
        rw [show k + (0 + j) - k = j by omega]
        exact B8_of hb
      have HG : Hid (g2 < wr.heap.size) := by
        obtain ⟨m, rfl⟩ := HM.out
        exact own_lt HO4.out
      have HBr : Hid (Below w.heap.size w wr) := by
        obtain ⟨m, hm⟩ := HM.out
        rw [hm]; exact HB1.out.trans ((HB4.out.mono HB1.out.size).trans ⟨rfl, rfl, rfl, Nat.le_refl _, fun _ _ => rfl⟩)
      clear HM HO4 HB4 HO1 HB1
      go_wp2_with fail
      refine (min_is v L _ v0 v1 HL.out).mono ?_
      rintro e w' ⟨rfl, rfl⟩
      go_wp2_with fail
      refine (dec_is g2 k _ _ 0 L _ v _ v0 v1 HL.out (by omega) (by omega) rfl cC.out).mono ?_
      rintro e w' ⟨rfl, rfl⟩
      have hnot : bits .xor .i32 (-1) v = -1 - v := i32_not v v0 v1
      go_wp2_with fail
      refine (app_nil L (-1 - v) _ (by omega) (by omega) HLF.out).mono ?_
      rintro e w5 ⟨g5, k5, rfl, ho5, hb5⟩
      have HO5 := hide ho5
      have HB5 : Hid (Below w.heap.size w w5) := HBr.out.trans (hb5.mono HBr.out.size)
      have cE : Hid (∀ j b, (leb 5 v)[j]? = some b → w5.cell? ⟨g2, k + j, none⟩ = some (.int .u8 b)) := by
        intro j b hb
        rw [hb5.cell (by exact HG.out)]
        have := cC.out j b hb
        rwa [Nat.zero_add] at this
      clear ho5 hb5 HBr HG cC hnot
      go_wp2_with fail
      go_loopw [14] (fun i wr => ∃ j : Nat, j ≤ L ∧ i = .int .i64 j ∧ ∃ m, wr = w5.drewN m) (fun i _ => L - (intOf i).toNat)
      case atStart => exact ⟨0, Nat.zero_le _, rfl, 0, rfl⟩
      case round =>
        clear hlt
        obtain ⟨j, hj, rfl, hm⟩ := hrel
        have HM := hide hm
        clear hm
        by_cases hlt : j < L
        · obtain ⟨b, hb⟩ : ∃ b, (leb 5 v)[j]? = some b := ⟨_, List.getElem?_eq_getElem (by have := HL.out; omega)⟩
          obtain ⟨b0, b1⟩ := leb_u8 5 v b (List.mem_of_getElem? hb)
          have hx : bits .xor .u8 b 127 = flip7 b := u8_xor127 b b0 b1
          have cA : wr.cell? ⟨g5, j, none⟩ = some (.int .u8 (flip7 b)) := by
            obtain ⟨m, hm⟩ := HM.out
            rw [hm, World.cell?_drewN, HO5.out.cellAt j (by omega), leb_flip]
            exact B8_of (by rw [List.getElem?_map, hb]; rfl)
          have cB : wr.cell? ⟨g2, k + j, none⟩ = some (.int .u8 b) := by
            obtain ⟨m, hm⟩ := HM.out
            rw [hm, World.cell?_drewN]
            exact cE.out j b hb
          clear hb
          obtain ⟨f, hf⟩ : ∃ f, flip7 b = f := ⟨_, rfl⟩
          rw [hf] at cA hx
          clear hf
          have j0 : (j : Int) < (L : Int) := by omega
          go_wp2
          go_quiet (fail)
          go_wp2
          go_roundw
          case rel =>
            obtain ⟨m, hm⟩ := HM.out
            exact ⟨j + 1, by omega, by go_num, m + nq, by rw [hm, World.drewN_drewN]⟩
          case measure => simp [intOf]; omega
        · go_wp2
          go_ret
          obtain ⟨m, hm⟩ := HM.out
          exact ⟨rfl, by rw [hm]; exact HB5.out.trans ⟨rfl, rfl, rfl, Nat.le_refl _, fun _ _ => rfl⟩⟩

end Go.Proofs.Qxb6628344a
