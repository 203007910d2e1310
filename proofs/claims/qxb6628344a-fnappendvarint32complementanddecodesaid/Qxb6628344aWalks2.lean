/-
  MORE WALKS OF THIS SEAT's CALLEES: zzMinLenB1, zzDecodeB1, zzCloneBytesB1.
-/
import Derived.Test.Qxb6628344aWalks
import Derived.Laws.CopyOwn
namespace Go.Proofs.Qxb6628344a
open Go.RowKit

theorem ret_i64 {a b : Int} (h : a = b) : Ending.returned (.int .i64 a) = .returned (.int .i64 b) := by rw [h]

/-- v is beyond what k - 1 bytes hold -/
def over (k : Nat) (v : Int) : Prop := (k = 1) ∨ (k = 2 ∧ ¬ (-64 ≤ v ∧ v < 64)) ∨ (k = 3 ∧ ¬ (-8192 ≤ v ∧ v < 8192)) ∨ (k = 4 ∧ ¬ (-1048576 ≤ v ∧ v < 1048576)) ∨ (k = 5 ∧ ¬ (-134217728 ≤ v ∧ v < 134217728))

theorem min1 {v : Int} (h : -64 ≤ v ∧ v < 64) : minLen v = 1 := by unfold minLen; rw [if_pos h]
theorem min2 {v : Int} (g : ¬ (-64 ≤ v ∧ v < 64)) (h : -8192 ≤ v ∧ v < 8192) : minLen v = 2 := by unfold minLen; rw [if_neg g, if_pos h]
theorem min3 {v : Int} (g : ¬ (-8192 ≤ v ∧ v < 8192)) (h : -1048576 ≤ v ∧ v < 1048576) : minLen v = 3 := by unfold minLen; rw [if_neg (by omega), if_neg g, if_pos h]
theorem min4 {v : Int} (g : ¬ (-1048576 ≤ v ∧ v < 1048576)) (h : -134217728 ≤ v ∧ v < 134217728) : minLen v = 4 := by unfold minLen; rw [if_neg (by omega), if_neg (by omega), if_neg g, if_pos h]
theorem min5 {v : Int} (g : ¬ (-134217728 ≤ v ∧ v < 134217728)) : minLen v = 5 := by unfold minLen; rw [if_neg (by omega), if_neg (by omega), if_neg (by omega), if_neg g]

set_option maxHeartbeats 1600000 in
theorem min_any (v : Int) (w : World) (h0 : -2147483648 ≤ v) (h1 : v ≤ 2147483647) :
    Calls Try.prog 8 #[.int .i32 v] w fun e w' => e = .returned (.int .i64 (minLen v)) ∧ w = w' := by
  go_enter Try.func8, Try.ntmps8
  go_wp2
  go_loop [4] (fun i => ∃ k : Nat, i = .int .i64 k ∧ over k v) (fun i => 5 - (intOf i).toNat)
  case atStart => exact ⟨1, rfl, .inl rfl⟩
  case round =>
    obtain ⟨k, rfl, hover⟩ := hrel
    rcases hover with rfl | ⟨rfl, hg⟩ | ⟨rfl, hg⟩ | ⟨rfl, hg⟩ | ⟨rfl, hg⟩
    · by_cases hin : -64 ≤ v ∧ v < 64
      · have HM := hide (min1 hin)
        obtain ⟨a1, a2⟩ := hin
        go_wp2
        go_ret
        exact ⟨ret_i64 (by rw [HM.out]; rfl), rfl⟩
      · have HN := hide hin
        clear hin
        go_wp2
        all_goals
          first
          | (exfalso; have := HN.out; omega)
          | (go_round
             case rel => exact ⟨2, by go_num, .inr (.inl ⟨rfl, HN.out⟩)⟩
             case measure => simp [intOf])
    · by_cases hin : -8192 ≤ v ∧ v < 8192
      · have HM := hide (min2 hg hin)
        obtain ⟨a1, a2⟩ := hin
        clear hg
        go_wp2
        go_ret
        exact ⟨ret_i64 (by rw [HM.out]; rfl), rfl⟩
      · have HN := hide hin
        clear hin hg
        go_wp2
        all_goals
          first
          | (exfalso; have := HN.out; omega)
          | (go_round
             case rel => exact ⟨3, by go_num, .inr (.inr (.inl ⟨rfl, HN.out⟩))⟩
             case measure => simp [intOf])
    · by_cases hin : -1048576 ≤ v ∧ v < 1048576
      · have HM := hide (min3 hg hin)
        obtain ⟨a1, a2⟩ := hin
        clear hg
        go_wp2
        go_ret
        exact ⟨ret_i64 (by rw [HM.out]; rfl), rfl⟩
      · have HN := hide hin
        clear hin hg
        go_wp2
        all_goals
          first
          | (exfalso; have := HN.out; omega)
          | (go_round
             case rel => exact ⟨4, by go_num, .inr (.inr (.inr (.inl ⟨rfl, HN.out⟩)))⟩
             case measure => simp [intOf])
    · by_cases hin : -134217728 ≤ v ∧ v < 134217728
      · have HM := hide (min4 hg hin)
        obtain ⟨a1, a2⟩ := hin
        clear hg
        go_wp2
        go_ret
        exact ⟨ret_i64 (by rw [HM.out]; rfl), rfl⟩
      · have HN := hide hin
        clear hin hg
        go_wp2
        all_goals
          first
          | (exfalso; have := HN.out; omega)
          | (go_round
             case rel => exact ⟨5, by go_num, .inr (.inr (.inr (.inr (⟨rfl, HN.out⟩))))⟩
             case measure => simp [intOf])
    · have HM := hide (min5 hg)
      clear hg
      go_wp2
      go_ret
      exact ⟨ret_i64 (by rw [HM.out]; rfl), rfl⟩

/-- how far the reader has come behind k bytes: x is read, vk is left -/
def st (k : Nat) (v x vk : Int) : Prop := ∃ front : List Int, front.length = k ∧ leb 5 v = front ++ leb (5 - k) vk ∧ fits (4 - k) vk ∧ 0 ≤ x ∧ x < 2 ^ (7 * k) ∧ v = x + vk * 2 ^ (7 * k)

theorem st_cell {k : Nat} {v x vk : Int} (h : st k v x vk) (hk : k ≤ 4) : ∃ b, (leb 5 v)[k]? = some b ∧ k < (leb 5 v).length ∧ (fin vk = true ∧ b = vk % 128 ∧ (leb 5 v).length = k + 1 ∨ fin vk = false ∧ b = vk % 128 + 128) := by
  obtain ⟨front, hf, hl, -⟩ := h
  have e : 5 - k = (4 - k) + 1 := by omega
  rw [e] at hl
  cases hfin : fin vk
  · rw [leb_more hfin] at hl
    refine ⟨vk % 128 + 128, ?_, ?_, .inr ⟨rfl, rfl⟩⟩
    · rw [hl, List.getElem?_append_right (by omega), hf]; simp
    · rw [hl]; simp; omega
  · rw [leb_fin hfin] at hl
    refine ⟨vk % 128, ?_, ?_, .inl ⟨rfl, rfl, ?_⟩⟩
    · rw [hl, List.getElem?_append_right (by omega), hf]; simp
    · rw [hl]; simp; omega
    · rw [hl]; simp; omega

theorem st_val {k : Nat} {v x vk : Int} (h : st k v x vk) : 0 ≤ x ∧ x < 2 ^ (7 * k) ∧ v = x + vk * 2 ^ (7 * k) := by
  obtain ⟨front, hf, hl, _, h1, h2, h3⟩ := h
  exact ⟨h1, h2, h3⟩

theorem st_next {k : Nat} {v x vk y : Int} (h : st k v x vk) (hfin : fin vk = false) (hy0 : 0 ≤ y) (hy1 : y < 2 ^ (7 * (k + 1))) (hy2 : v = y + vk / 128 * 2 ^ (7 * (k + 1))) : k + 1 ≤ 4 ∧ st (k + 1) v y (vk / 128) := by
  obtain ⟨front, hf, hl, hfit, h1, h2, h3⟩ := h
  obtain ⟨m, hm⟩ : ∃ m, 4 - k = m + 1 := by
    cases e : 4 - k with
    | zero => rw [e] at hfit; rw [fits_zero hfit] at hfin; simp at hfin
    | succ m => exact ⟨m, rfl⟩
  refine ⟨by omega, front ++ [vk % 128 + 128], by simp; omega, ?_, ?_, hy0, hy1, hy2⟩
  · have e : 5 - k = (4 - k) + 1 := by omega
    have e' : 5 - (k + 1) = 4 - k := by omega
    rw [hl, e, leb_more hfin, e']; simp
  · rw [hm] at hfit
    have e : 4 - (k + 1) = m := by omega
    rw [e]
    exact fits_step hfit

theorem st_val0 {v x vk : Int} (h : st 0 v x vk) : 0 ≤ x ∧ x < 1 ∧ v = x + vk * 1 := by
  have := st_val h
  simp only [show (2 : Int) ^ (7 * 0) = 1 by decide] at this
  exact this
theorem st_val1 {v x vk : Int} (h : st 1 v x vk) : 0 ≤ x ∧ x < 128 ∧ v = x + vk * 128 := by
  have := st_val h
  simp only [show (2 : Int) ^ (7 * 1) = 128 by decide] at this
  exact this
theorem st_val2 {v x vk : Int} (h : st 2 v x vk) : 0 ≤ x ∧ x < 16384 ∧ v = x + vk * 16384 := by
  have := st_val h
  simp only [show (2 : Int) ^ (7 * 2) = 16384 by decide] at this
  exact this
theorem st_val3 {v x vk : Int} (h : st 3 v x vk) : 0 ≤ x ∧ x < 2097152 ∧ v = x + vk * 2097152 := by
  have := st_val h
  simp only [show (2 : Int) ^ (7 * 3) = 2097152 by decide] at this
  exact this
theorem st_val4 {v x vk : Int} (h : st 4 v x vk) : 0 ≤ x ∧ x < 268435456 ∧ v = x + vk * 268435456 := by
  have := st_val h
  simp only [show (2 : Int) ^ (7 * 4) = 268435456 by decide] at this
  exact this

theorem tup3 {a a' b b' : Int} (h1 : a = a') (h2 : b = b') : Ending.returned (.tuple #[.int .i64 a, .int .i64 b, .bool true]) = .returned (.tuple #[.int .i64 a', .int .i64 b', .bool true]) := by rw [h1, h2]

/-- what one byte adds -/
theorem or_part (i : Nat) (x c : Int) (hi : i ≤ 28) (hx0 : 0 ≤ x) (hx : x < 2 ^ i) (c0 : 0 ≤ c) (c1 : c < 128) : bits .or .i64 x (c * 2 ^ i) = x + c * 2 ^ i := by
  have hp : (0 : Int) < 2 ^ i := Int.pow_pos (by decide)
  refine i64_or i x _ (by omega) hx0 hx (Int.mul_nonneg c0 (Int.le_of_lt hp)) (Int.mul_emod_left _ _) ?_
  have h1 : (2 : Int) ^ i ≤ 2 ^ 28 := by
    have : (2 : Nat) ^ i ≤ 2 ^ 28 := Nat.pow_le_pow_right (by decide) hi
    exact_mod_cast this
  have h2 : c * 2 ^ i ≤ 128 * 2 ^ 28 := Int.mul_le_mul (by omega) h1 (Int.le_of_lt hp) (by decide)
  omega

set_option maxHeartbeats 1600000 in
theorem dec_any (g o len cap p : Nat) (v : Int) (w : World) (h0 : -2147483648 ≤ v) (h1 : v ≤ 2147483647) (hlen : len ≤ 2097152) (hp : p + (leb 5 v).length ≤ len)
    (hcell : ∀ j b, (leb 5 v)[j]? = some b → w.cell? ⟨g, o + (p + j), none⟩ = some (.int .u8 b)) :
    Calls Try.prog 9 #[.slice (some ⟨g, o, none⟩) len cap, .int .i64 p] w fun e w' => e = .returned (.tuple #[.int .i64 v, .int .i64 (leb 5 v).length, .bool true]) ∧ w = w' := by
  have HP := hide hp
  have HC := hide hcell
  clear hp hcell
  go_enter Try.func9, Try.ntmps9
  go_wp2
  go_loop [7, 8, 9, 10] (fun xs sh i kk => ∃ (k i' : Nat) (x vk : Int), k ≤ 4 ∧ st k v x vk ∧ xs = .int .i64 x ∧ sh = .int .u64 ((7 * k : Nat) : Int) ∧ i = .int .i64 i' ∧ kk = .int .i64 k ∧ p + k = i') (fun _ _ _ kk => 5 - (intOf kk).toNat)
  case atStart => exact ⟨0, p, 0, v, by omega, ⟨[], rfl, rfl, fits_four h0 h1, by omega, by omega, by omega⟩, rfl, rfl, rfl, rfl, rfl⟩
  case round =>
    obtain ⟨k, i, x, vk, hk, hst, rfl, rfl, rfl, rfl, hi⟩ := hrel
    obtain ⟨b, hb, hkl, hcase⟩ := st_cell hst hk
    have hcell := HC.out k b hb
    rw [hi] at hcell
    have hlt : i < len := by have := HP.out; omega
    have HS := hide hst
    have HI := hide hi
    clear hst hi hb hkl
    have key : k = 0 ∨ k = 1 ∨ k = 2 ∨ k = 3 ∨ k = 4 := by omega
    obtain ⟨c, hc⟩ : ∃ c, vk % 128 = c := ⟨_, rfl⟩
    have c0 : 0 ≤ c := by omega
    have c1 : c < 128 := by omega
    rw [hc] at hcase
    have HV := hide hc
    clear hc
    have hpi : p ≤ i := by have := HI.out; omega
    rcases key with rfl | rfl | rfl | rfl | rfl
    · obtain ⟨x0, x1, hv⟩ := st_val0 HS.out
      obtain ⟨y, hy, r4⟩ : ∃ y, x + c * 1 = y ∧ bits .or .i64 x c = y := ⟨_, rfl, by have := or_part 0 x c (by omega) x0 x1 c0 c1; simpa using this⟩
      have y0 : 0 ≤ y := by omega
      have y1 : y < 128 := by omega
      have HX := hide hv
      have HY := hide hy
      clear hv hy
      rcases hcase with ⟨hfin, hb, hlen⟩ | ⟨hfin, hb⟩
      · rw [hb] at hcell
        have r1 : bits .and .u8 c 127 = c := by rw [u8_and127 c c0 (by omega)]; omega
        have r2 := u8_and128 c c0 (by omega)
        rw [if_neg (by omega)] at r2
        have r3 := u8_and64 c c0 (by omega)
        have HF := hide hfin
        have HN := hide hlen
        clear hfin hlen hb
        by_cases hs : 64 ≤ c % 128
        · rw [if_pos hs] at r3
          have HE : Hid (y - 128 = v) := by have := HX.out; have := HY.out; have := HV.out; have := (fin_iff _).1 HF.out; show _ = _; omega
          have e1 : y - 128 ≤ 2147483647 := by have := HE.out; omega
          have e0 : -2147483648 ≤ y - 128 := by have := HE.out; omega
          clear hs
          go_wp2
          go_ret3
          exact ⟨tup3 HE.out (by have := HI.out; have := HN.out; omega), rfl⟩
        · rw [if_neg hs] at r3
          have HE : Hid (y = v) := by have := HX.out; have := HY.out; have := HV.out; have := (fin_iff _).1 HF.out; show _ = _; omega
          clear hs
          go_wp2
          go_ret3
          exact ⟨tup3 HE.out (by have := HI.out; have := HN.out; omega), rfl⟩
      · rw [hb] at hcell
        have r1 : bits .and .u8 (c + 128) 127 = c := by rw [u8_and127 _ (by omega) (by omega)]; omega
        have r2 := u8_and128 (c + 128) (by omega) (by omega)
        rw [if_pos (by omega)] at r2
        obtain ⟨hk5, hst5⟩ := st_next HS.out hfin y0 (by simpa using y1) (by have := HX.out; have := HY.out; have := HV.out; show v = y + vk / 128 * 128; omega)
        have HT := hide hst5
        clear hfin hb hst5
        clear hk5
        go_wp2
        go_round
        case rel => exact ⟨1, i + 1, y, vk / 128, by omega, HT.out, rfl, rfl, by go_num, by go_num, by have := HI.out; omega⟩
        case measure => simp [intOf]
    · obtain ⟨x0, x1, hv⟩ := st_val1 HS.out
      obtain ⟨y, hy, r4⟩ : ∃ y, x + c * 128 = y ∧ bits .or .i64 x (c * 128) = y := ⟨_, rfl, by have := or_part 7 x c (by omega) x0 x1 c0 c1; simpa using this⟩
      have y0 : 0 ≤ y := by omega
      have y1 : y < 16384 := by omega
      have HX := hide hv
      have HY := hide hy
      clear hv hy
      rcases hcase with ⟨hfin, hb, hlen⟩ | ⟨hfin, hb⟩
      · rw [hb] at hcell
        have r1 : bits .and .u8 c 127 = c := by rw [u8_and127 c c0 (by omega)]; omega
        have r2 := u8_and128 c c0 (by omega)
        rw [if_neg (by omega)] at r2
        have r3 := u8_and64 c c0 (by omega)
        have HF := hide hfin
        have HN := hide hlen
        clear hfin hlen hb
        by_cases hs : 64 ≤ c % 128
        · rw [if_pos hs] at r3
          have HE : Hid (y - 16384 = v) := by have := HX.out; have := HY.out; have := HV.out; have := (fin_iff _).1 HF.out; show _ = _; omega
          have e1 : y - 16384 ≤ 2147483647 := by have := HE.out; omega
          have e0 : -2147483648 ≤ y - 16384 := by have := HE.out; omega
          clear hs
          go_wp2
          go_ret3
          exact ⟨tup3 HE.out (by have := HI.out; have := HN.out; omega), rfl⟩
        · rw [if_neg hs] at r3
          have HE : Hid (y = v) := by have := HX.out; have := HY.out; have := HV.out; have := (fin_iff _).1 HF.out; show _ = _; omega
          clear hs
          go_wp2
          go_ret3
          exact ⟨tup3 HE.out (by have := HI.out; have := HN.out; omega), rfl⟩
      · rw [hb] at hcell
        have r1 : bits .and .u8 (c + 128) 127 = c := by rw [u8_and127 _ (by omega) (by omega)]; omega
        have r2 := u8_and128 (c + 128) (by omega) (by omega)
        rw [if_pos (by omega)] at r2
        obtain ⟨hk5, hst5⟩ := st_next HS.out hfin y0 (by simpa using y1) (by have := HX.out; have := HY.out; have := HV.out; show v = y + vk / 128 * 16384; omega)
        have HT := hide hst5
        clear hfin hb hst5
        clear hk5
        go_wp2
        go_round
        case rel => exact ⟨2, i + 1, y, vk / 128, by omega, HT.out, rfl, rfl, by go_num, by go_num, by have := HI.out; omega⟩
        case measure => simp [intOf]
    · obtain ⟨x0, x1, hv⟩ := st_val2 HS.out
      obtain ⟨y, hy, r4⟩ : ∃ y, x + c * 16384 = y ∧ bits .or .i64 x (c * 16384) = y := ⟨_, rfl, by have := or_part 14 x c (by omega) x0 x1 c0 c1; simpa using this⟩
      have y0 : 0 ≤ y := by omega
      have y1 : y < 2097152 := by omega
      have HX := hide hv
      have HY := hide hy
      clear hv hy
      rcases hcase with ⟨hfin, hb, hlen⟩ | ⟨hfin, hb⟩
      · rw [hb] at hcell
        have r1 : bits .and .u8 c 127 = c := by rw [u8_and127 c c0 (by omega)]; omega
        have r2 := u8_and128 c c0 (by omega)
        rw [if_neg (by omega)] at r2
        have r3 := u8_and64 c c0 (by omega)
        have HF := hide hfin
        have HN := hide hlen
        clear hfin hlen hb
        by_cases hs : 64 ≤ c % 128
        · rw [if_pos hs] at r3
          have HE : Hid (y - 2097152 = v) := by have := HX.out; have := HY.out; have := HV.out; have := (fin_iff _).1 HF.out; show _ = _; omega
          have e1 : y - 2097152 ≤ 2147483647 := by have := HE.out; omega
          have e0 : -2147483648 ≤ y - 2097152 := by have := HE.out; omega
          clear hs
          go_wp2
          go_ret3
          exact ⟨tup3 HE.out (by have := HI.out; have := HN.out; omega), rfl⟩
        · rw [if_neg hs] at r3
          have HE : Hid (y = v) := by have := HX.out; have := HY.out; have := HV.out; have := (fin_iff _).1 HF.out; show _ = _; omega
          clear hs
          go_wp2
          go_ret3
          exact ⟨tup3 HE.out (by have := HI.out; have := HN.out; omega), rfl⟩
      · rw [hb] at hcell
        have r1 : bits .and .u8 (c + 128) 127 = c := by rw [u8_and127 _ (by omega) (by omega)]; omega
        have r2 := u8_and128 (c + 128) (by omega) (by omega)
        rw [if_pos (by omega)] at r2
        obtain ⟨hk5, hst5⟩ := st_next HS.out hfin y0 (by simpa using y1) (by have := HX.out; have := HY.out; have := HV.out; show v = y + vk / 128 * 2097152; omega)
        have HT := hide hst5
        clear hfin hb hst5
        clear hk5
        go_wp2
        go_round
        case rel => exact ⟨3, i + 1, y, vk / 128, by omega, HT.out, rfl, rfl, by go_num, by go_num, by have := HI.out; omega⟩
        case measure => simp [intOf]
    · obtain ⟨x0, x1, hv⟩ := st_val3 HS.out
      obtain ⟨y, hy, r4⟩ : ∃ y, x + c * 2097152 = y ∧ bits .or .i64 x (c * 2097152) = y := ⟨_, rfl, by have := or_part 21 x c (by omega) x0 x1 c0 c1; simpa using this⟩
      have y0 : 0 ≤ y := by omega
      have y1 : y < 268435456 := by omega
      have HX := hide hv
      have HY := hide hy
      clear hv hy
      rcases hcase with ⟨hfin, hb, hlen⟩ | ⟨hfin, hb⟩
      · rw [hb] at hcell
        have r1 : bits .and .u8 c 127 = c := by rw [u8_and127 c c0 (by omega)]; omega
        have r2 := u8_and128 c c0 (by omega)
        rw [if_neg (by omega)] at r2
        have r3 := u8_and64 c c0 (by omega)
        have HF := hide hfin
        have HN := hide hlen
        clear hfin hlen hb
        by_cases hs : 64 ≤ c % 128
        · rw [if_pos hs] at r3
          have HE : Hid (y - 268435456 = v) := by have := HX.out; have := HY.out; have := HV.out; have := (fin_iff _).1 HF.out; show _ = _; omega
          have e1 : y - 268435456 ≤ 2147483647 := by have := HE.out; omega
          have e0 : -2147483648 ≤ y - 268435456 := by have := HE.out; omega
          clear hs
          go_wp2
          go_ret3
          exact ⟨tup3 HE.out (by have := HI.out; have := HN.out; omega), rfl⟩
        · rw [if_neg hs] at r3
          have HE : Hid (y = v) := by have := HX.out; have := HY.out; have := HV.out; have := (fin_iff _).1 HF.out; show _ = _; omega
          clear hs
          go_wp2
          go_ret3
          exact ⟨tup3 HE.out (by have := HI.out; have := HN.out; omega), rfl⟩
      · rw [hb] at hcell
        have r1 : bits .and .u8 (c + 128) 127 = c := by rw [u8_and127 _ (by omega) (by omega)]; omega
        have r2 := u8_and128 (c + 128) (by omega) (by omega)
        rw [if_pos (by omega)] at r2
        obtain ⟨hk5, hst5⟩ := st_next HS.out hfin y0 (by simpa using y1) (by have := HX.out; have := HY.out; have := HV.out; show v = y + vk / 128 * 268435456; omega)
        have HT := hide hst5
        clear hfin hb hst5
        clear hk5
        go_wp2
        go_round
        case rel => exact ⟨4, i + 1, y, vk / 128, by omega, HT.out, rfl, rfl, by go_num, by go_num, by have := HI.out; omega⟩
        case measure => simp [intOf]
    · obtain ⟨x0, x1, hv⟩ := st_val4 HS.out
      obtain ⟨y, hy, r4⟩ : ∃ y, x + c * 268435456 = y ∧ bits .or .i64 x (c * 268435456) = y := ⟨_, rfl, by have := or_part 28 x c (by omega) x0 x1 c0 c1; simpa using this⟩
      have y0 : 0 ≤ y := by omega
      have y1 : y < 34359738368 := by omega
      have HX := hide hv
      have HY := hide hy
      clear hv hy
      rcases hcase with ⟨hfin, hb, hlen⟩ | ⟨hfin, hb⟩
      · rw [hb] at hcell
        have r1 : bits .and .u8 c 127 = c := by rw [u8_and127 c c0 (by omega)]; omega
        have r2 := u8_and128 c c0 (by omega)
        rw [if_neg (by omega)] at r2
        have r3 := u8_and64 c c0 (by omega)
        have HF := hide hfin
        have HN := hide hlen
        clear hfin hlen hb
        by_cases hs : 64 ≤ c % 128
        · rw [if_pos hs] at r3
          have HE : Hid (y - 34359738368 = v) := by have := HX.out; have := HY.out; have := HV.out; have := (fin_iff _).1 HF.out; show _ = _; omega
          have e1 : y - 34359738368 ≤ 2147483647 := by have := HE.out; omega
          have e0 : -2147483648 ≤ y - 34359738368 := by have := HE.out; omega
          clear hs
          go_wp2
          go_ret3
          exact ⟨tup3 HE.out (by have := HI.out; have := HN.out; omega), rfl⟩
        · rw [if_neg hs] at r3
          have HE : Hid (y = v) := by have := HX.out; have := HY.out; have := HV.out; have := (fin_iff _).1 HF.out; show _ = _; omega
          clear hs
          go_wp2
          go_ret3
          exact ⟨tup3 HE.out (by have := HI.out; have := HN.out; omega), rfl⟩
      · rw [hb] at hcell
        have r1 : bits .and .u8 (c + 128) 127 = c := by rw [u8_and127 _ (by omega) (by omega)]; omega
        have r2 := u8_and128 (c + 128) (by omega) (by omega)
        rw [if_pos (by omega)] at r2
        obtain ⟨hk5, hst5⟩ := st_next HS.out hfin y0 (by simpa using y1) (by have := HX.out; have := HY.out; have := HV.out; show v = y + vk / 128 * 34359738368; omega)
        have HT := hide hst5
        clear hfin hb hst5
        exact absurd hk5 (by omega)

end Go.Proofs.Qxb6628344a
