/-
  MORE WALKS OF THIS SEAT: zzRecase, zzFlip.
-/
import Derived.Test.Qxb6628318aWalks
namespace Go.Proofs.Qxb6628318a
open Go.RowKit

def recf (a m : List UInt8) (j : Nat) : UInt8 := if (m.getD j 0).toNat % 2 = 1 then swp (a.getD j 0) else a.getD j 0

theorem recf_even (a m : List UInt8) (j : Nat) (h : ¬ (m.getD j 0).toNat % 2 = 1) : recf a m j = a.getD j 0 := by
  unfold recf; rw [if_neg h]
theorem recf_odd (a m : List UInt8) (j : Nat) (h : (m.getD j 0).toNat % 2 = 1) : recf a m j = swp (a.getD j 0) := by
  unfold recf; rw [if_pos h]

theorem odd_bit (c : UInt8) : (bits BinOp.and IntKind.u8 (c.toNat : Int) 1 == 1) = decide (c.toNat % 2 = 1) :=
  all_u8 (p := fun c => (bits BinOp.and IntKind.u8 (c.toNat : Int) 1 == 1) = decide (c.toNat % 2 = 1)) (by decide +kernel) c
theorem xor_hi (c : UInt8) : bits BinOp.xor IntKind.u8 (c.toNat : Int) 128 = ((c ^^^ 128).toNat : Int) :=
  all_u8 (p := fun c => bits BinOp.xor IntKind.u8 (c.toNat : Int) 128 = ((c ^^^ 128).toNat : Int)) (by decide +kernel) c
theorem xor_case (c : UInt8) : bits BinOp.xor IntKind.u8 (c.toNat : Int) 32 = ((c ^^^ 32).toNat : Int) :=
  all_u8 (p := fun c => bits BinOp.xor IntKind.u8 (c.toNat : Int) 32 = ((c ^^^ 32).toNat : Int)) (by decide +kernel) c

set_option maxHeartbeats 1600000 in
theorem recase_any (a m : ByteArray) (w : World) (ha : a.size ≤ 1048576) (_hm : m.size ≤ 1048576) :
    Calls Try.prog 7 #[.string a, .string m] w fun e w' => e = .returned (.string ⟨(tab (recf a.data.toList m.data.toList) a.size).toArray⟩) ∧ Below w.heap.size w w' := by
  obtain ⟨i0, hi, hz0, hz1, hz2⟩ := info_parts info5
  go_enter Try.func7, Try.ntmps7
  go_wp2_with (at_make; refine wpList_make_full _ rfl _ _ 28 rfl w.heap.size 5 i0 (.int .u8 0) 1 Try.underlying28 hi hz0 hz1 .i64 .i64 _ _ a.size rfl rfl rfl rfl (by rw [hz2]; omega) (by unfold maxLen; omega) (Nat.le_refl _) ?_; intro w1 hown hgrow)
  have hB1 : Below w.heap.size w w1 := (Below.refl _ _).grown hgrow (Nat.le_refl _) (fun k h => by cases h)
  rw [made_zero (recf a.data.toList m.data.toList)] at hown
  clear hgrow hi hz0 hz1 hz2
  go_loopw [6] (fun i wr => ∃ k : Nat, k ≤ a.size ∧ i = .int .i64 k ∧ wr.ownsRow w.heap.size 5 1 (.slice (some ⟨w.heap.size, 0, none⟩) a.size a.size) a.size (filled (recf a.data.toList m.data.toList) a.size k) ∧ Below w.heap.size w wr) (fun i _ => a.size - (intOf i).toNat)
  case atStart => exact ⟨0, Nat.zero_le _, rfl, hown, hB1⟩
  case round =>
    clear hown hB1
    obtain ⟨k, hk, rfl, hown, hB⟩ := hrel
    by_cases hlt : k < a.size
    · have hcell := hown.cellAt k (by omega)
      rw [filled_get_any _ _ _ _ hlt, if_neg (by omega)] at hcell
      have hfr := hown.frozenAt k
      have hst := fun v => (hown.stored k v).1
      have HS := hide hst
      have HB := hide hB
      clear hst hB hown
      by_cases hkm : k < m.size
      · by_cases hodd : m[k].toNat % 2 = 1
        · have hb : (bits BinOp.and IntKind.u8 (m[k].toNat : Int) 1 == 1) = true := by rw [odd_bit]; simpa using hodd
          have hf : recf a.data.toList m.data.toList k = swp a[k] := by rw [recf_odd _ _ _ (by rw [getD_ba m k hkm]; exact hodd), getD_ba a k hlt]
          clear hodd
          by_cases hc : 97 ≤ (a[k].toNat : Int) ∧ (a[k].toNat : Int) ≤ 122
          · obtain ⟨hc1, hc2⟩ := hc
            have HV := hide (show (a[k].toNat : Int) - 32 = ((recf a.data.toList m.data.toList k).toNat : Int) by rw [hf]; exact (swp_lo _ hc1 hc2).symm)
            clear hf
            go_wp2
            go_roundw
            case rel => exact ⟨k + 1, by omega, by go_num, fill_step HS.out HV.out, HB.out.setCell (Nat.le_refl _) _⟩
            case measure => simp [intOf]; omega
          · by_cases hd : 65 ≤ (a[k].toNat : Int) ∧ (a[k].toNat : Int) ≤ 90
            · obtain ⟨hc1, hc2⟩ := hd
              have HV := hide (show (a[k].toNat : Int) + 32 = ((recf a.data.toList m.data.toList k).toNat : Int) by rw [hf]; exact (swp_up _ hc1 hc2).symm)
              have hn : ¬ 97 ≤ (a[k].toNat : Int) := by omega
              clear hf hc
              go_wp2
              go_roundw
              case rel => exact ⟨k + 1, by omega, by go_num, fill_step HS.out HV.out, HB.out.setCell (Nat.le_refl _) _⟩
              case measure => simp [intOf]; omega
            · have HV := hide (show (a[k].toNat : Int) = ((recf a.data.toList m.data.toList k).toNat : Int) by rw [hf]; exact (swp_no _ hc hd).symm)
              have HC := hide hc
              have HD := hide hd
              clear hf hc hd
              go_wp2
              all_goals
                first
                | (exfalso; have := HC.out; have := HD.out; omega)
                | (go_roundw
                   case rel => exact ⟨k + 1, by omega, by go_num, fill_step HS.out HV.out, HB.out.setCell (Nat.le_refl _) _⟩
                   case measure => simp [intOf]; omega)
        · have hb : (bits BinOp.and IntKind.u8 (m[k].toNat : Int) 1 == 1) = false := by rw [odd_bit]; simpa using hodd
          have HV := hide (show (a[k].toNat : Int) = ((recf a.data.toList m.data.toList k).toNat : Int) by rw [recf_even _ _ _ (by rw [getD_ba m k hkm]; exact hodd), getD_ba a k hlt])
          clear hodd
          go_wp2
          go_roundw
          case rel => exact ⟨k + 1, by omega, by go_num, fill_step HS.out HV.out, HB.out.setCell (Nat.le_refl _) _⟩
          case measure => simp [intOf]; omega
      · have hv : (a[k].toNat : Int) = ((recf a.data.toList m.data.toList k).toNat : Int) := by
          rw [recf_even _ _ _ (by simp [List.getD_eq_getElem?_getD, List.getElem?_eq_none (show m.data.toList.length ≤ k by simp; omega)]), getD_ba a k hlt]
        have HV := hide hv
        clear hv
        go_wp2
        go_roundw
        case rel => exact ⟨k + 1, by omega, by go_num, fill_step HS.out HV.out, HB.out.setCell (Nat.le_refl _) _⟩
        case measure => simp [intOf]; omega
    · have hke : k = a.size := by omega
      subst hke
      have hcv := back (P := Try.prog) wr 28 9 5 w.heap.size a.size a.size _ Try.underlying28 Try.underlying5 Try.underlying9 hown
      clear hown
      go_wp2
      go_ret
      exact ⟨rfl, hB⟩

def flipf (a : List UInt8) (i : Nat) (x : UInt8) (j : Nat) : UInt8 := if j = i then a.getD j 0 ^^^ x else a.getD j 0
def idf (a : List UInt8) (j : Nat) : UInt8 := a.getD j 0

theorem flip_set (a : List UInt8) (n i : Nat) (x : UInt8) (v : Value) (hi : i < n) (hv : v = .int .u8 ((a.getD i 0 ^^^ x).toNat : Int)) : (filled (idf a) n n).set i v = filled (flipf a i x) n n := by
  subst hv
  apply List.ext_getElem
  · simp [filled]
  · intro j h1 h2
    simp [filled] at h1 h2 ⊢
    rw [List.getElem_set]
    by_cases e : i = j
    · subst e; simp [hi, flipf]
    · have e' : ¬ j = i := fun h => e h.symm
      simp [e, e', h1, flipf, idf]

set_option maxHeartbeats 1600000 in
theorem flip_any (a : ByteArray) (i : Nat) (x : UInt8) (X : Int) (w : World) (ha : a.size ≤ 1048576) (hi : i < a.size) (hx : bits BinOp.xor IntKind.u8 (a[i].toNat : Int) X = ((a[i] ^^^ x).toNat : Int)) :
    Calls Try.prog 11 #[.string a, .int .i64 i, .int .u8 X] w fun e w' => e = .returned (.string ⟨(tab (flipf a.data.toList i x) a.size).toArray⟩) ∧ Below w.heap.size w w' := by
  have HX := hide hx
  clear hx
  obtain ⟨i0, hi, hz0, hz1, hz2⟩ := info_parts info5
  go_enter Try.func11, Try.ntmps11
  go_wp2_with (at_make; refine wpList_make_full _ rfl _ _ 28 rfl w.heap.size 5 i0 (.int .u8 0) 1 Try.underlying28 hi hz0 hz1 .i64 .i64 _ _ a.size rfl rfl rfl rfl (by rw [hz2]; omega) (by unfold maxLen; omega) (Nat.le_refl _) ?_; intro w1 hown hgrow)
  have hB1 : Below w.heap.size w w1 := (Below.refl _ _).grown hgrow (Nat.le_refl _) (fun k h => by cases h)
  rw [made_zero (idf a.data.toList)] at hown
  clear hgrow hi hz0 hz1 hz2
  go_loopw [8] (fun i wr => ∃ k : Nat, k ≤ a.size ∧ i = .int .i64 k ∧ wr.ownsRow w.heap.size 5 1 (.slice (some ⟨w.heap.size, 0, none⟩) a.size a.size) a.size (filled (idf a.data.toList) a.size k) ∧ Below w.heap.size w wr) (fun i _ => a.size - (intOf i).toNat)
  case atStart => exact ⟨0, Nat.zero_le _, rfl, hown, hB1⟩
  case round =>
    clear hown hB1
    obtain ⟨k, hk, rfl, hown, hB⟩ := hrel
    by_cases hlt : k < a.size
    · have hcell := hown.cellAt k (by omega)
      rw [filled_get_any _ _ _ _ hlt, if_neg (by omega)] at hcell
      have hfr := hown.frozenAt k
      have hst := fun v => (hown.stored k v).1
      have HS := hide hst
      have HB := hide hB
      have HV := hide (show (a[k].toNat : Int) = ((idf a.data.toList k).toNat : Int) by unfold idf; rw [getD_ba a k hlt])
      clear hst hB hown
      go_wp2
      go_roundw
      case rel => exact ⟨k + 1, by omega, by go_num, fill_step HS.out HV.out, HB.out.setCell (Nat.le_refl _) _⟩
      case measure => simp [intOf]; omega
    · have hke : k = a.size := by omega
      subst hke
      have hcell := hown.cellAt i (by omega)
      rw [filled_get_any _ _ _ _ (by assumption), if_pos (by assumption)] at hcell
      have e1 : (idf a.data.toList i) = a[i] := by unfold idf; exact getD_ba a i (by assumption)
      rw [e1] at hcell
      have hfr := hown.frozenAt i
      have hst := (hown.stored i (.int .u8 (bits BinOp.xor IntKind.u8 (a[i].toNat : Int) X))).1
      rw [flip_set _ _ _ x _ (by assumption) (by rw [HX.out, getD_ba a i (by assumption)])] at hst
      have hcv := back (P := Try.prog) _ 28 9 5 w.heap.size a.size a.size _ Try.underlying28 Try.underlying5 Try.underlying9 hst
      clear hown hst e1
      go_wp2
      go_ret
      exact ⟨rfl, hB.setCell (Nat.le_refl _) _⟩

end Go.Proofs.Qxb6628318a
