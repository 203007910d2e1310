/-
  THE WALKS OF THIS SEAT's CALLEES: each Go function computes a plain function of lists of bytes.
-/
import Derived.Test.Qxb6628318aRows
import Derived.Test.Qxb6628318aPlain
import Derived.WalkKit
import Derived.WalkSpells
import Derived.Deep.QuietTactic
import Derived.BigQuiet
namespace Go.Proofs.Qxb6628318a
open Go.RowKit

theorem hide {p : Prop} (h : p) : Hid p := h
theorem ret_bool {a b : Bool} (h : a = b) : Ending.returned (.bool a) = .returned (.bool b) := by rw [h]
theorem ret_u8 {a b : Int} (h : a = b) : Ending.returned (.int .u8 a) = .returned (.int .u8 b) := by rw [h]

theorem low_yes (c : UInt8) (h1 : 65 ≤ (c.toNat : Int)) (h2 : (c.toNat : Int) ≤ 90) : ((low c).toNat : Int) = (c.toNat : Int) + 32 := by
  have h : 65 ≤ c.toNat ∧ c.toNat ≤ 90 := by omega
  unfold low
  rw [if_pos h, UInt8.toNat_add]
  have : (32 : UInt8).toNat = 32 := rfl
  omega
theorem low_no (c : UInt8) (h : ¬ (65 ≤ (c.toNat : Int) ∧ (c.toNat : Int) ≤ 90)) : ((low c).toNat : Int) = (c.toNat : Int) := by
  have h : ¬ (65 ≤ c.toNat ∧ c.toNat ≤ 90) := by omega
  unfold low
  rw [if_neg h]

set_option maxHeartbeats 400000 in
theorem lower_any (c : UInt8) (w : World) : Calls Try.prog 13 #[.int .u8 (c.toNat : Int)] w fun e w' => e = .returned (.int .u8 ((low c).toNat : Int)) ∧ w' = w := by
  have hc := c.toNat_lt
  by_cases h : 65 ≤ (c.toNat : Int) ∧ (c.toNat : Int) ≤ 90
  · obtain ⟨h1, h2⟩ := h
    go_enter Try.func13, Try.ntmps13
    go_wp2
    go_ret
    exact ⟨ret_u8 (by rw [low_yes c h1 h2]; omega), rfl⟩
  · have HN : Hid (¬ (65 ≤ (c.toNat : Int) ∧ (c.toNat : Int) ≤ 90)) := h
    go_enter Try.func13, Try.ntmps13
    go_wp2
    all_goals
      go_ret
      first | (exfalso; have := HN.out; omega) | exact ⟨ret_u8 (by rw [low_no c HN.out]), rfl⟩

theorem ne_low {a b : List UInt8} (k : Nat) (ha : k < a.length) (hb : k < b.length) (h : (((low a[k]).toNat : Int) != ((low b[k]).toNat : Int)) = true) : same a b = false := by
  refine same_false_at k ha hb ?_
  intro e
  rw [e] at h
  simp at h

theorem low_step {a b : ByteArray} {k : Nat} {hka : k < a.size} {hkb : k < b.size}
    (h : ∀ j (h1 : j < a.data.toList.length) (h2 : j < b.data.toList.length), j < k → low a.data.toList[j] = low b.data.toList[j])
    (he : (((low a[k]).toNat : Int) != ((low b[k]).toNat : Int)) = false) :
    ∀ j (h1 : j < a.data.toList.length) (h2 : j < b.data.toList.length), j < k + 1 → low a.data.toList[j] = low b.data.toList[j] := by
  intro j h1 h2 hj
  by_cases e : j = k
  · subst e
    have e' : ((low a[j]).toNat : Int) = ((low b[j]).toNat : Int) := by simpa using he
    have e2 : (low a[j]).toNat = (low b[j]).toNat := by omega
    exact UInt8.toNat_inj.1 e2
  · exact h j h1 h2 (by omega)

set_option maxHeartbeats 800000 in
theorem same_any (a b : ByteArray) (w : World) (ha : a.size ≤ maxLen) (_hb : b.size ≤ maxLen) :
    Calls Try.prog 12 #[.string a, .string b] w fun e w' => e = .returned (.bool (same a.data.toList b.data.toList)) ∧ ∃ n, w' = w.drewN n := by
  unfold maxLen at ha _hb
  by_cases hl : a.size = b.size
  · have HL : Hid (a.size = b.size) := hl
    have hl1 : (((a.size : Nat) : Int) != ((b.size : Nat) : Int)) = false := by simp [hl]
    clear hl
    go_enter Try.func12, Try.ntmps12
    go_wp2
    go_loopw [13] (fun i wr => ∃ k : Nat, k ≤ a.size ∧ i = .int .i64 k ∧ (∃ n, wr = w.drewN n) ∧ (∀ j (h1 : j < a.data.toList.length) (h2 : j < b.data.toList.length), j < k → low a.data.toList[j] = low b.data.toList[j])) (fun i _ => a.size - (intOf i).toNat)
    case atStart => exact ⟨0, Nat.zero_le _, rfl, ⟨0, rfl⟩, fun j _ _ h => absurd h (by omega)⟩
    case round =>
      obtain ⟨k, hk, rfl, hdr, hall⟩ := hrel
      have HA := hide hall
      have HD := hide hdr
      clear hall hdr
      by_cases hlt : k < a.size
      · have hltb : k < b.size := by have := HL.out; omega
        go_wp2
        go_quiet ((go_at_call 13; exact Calls.quiet_of_same (lower_any _ _)))
        go_wp2
        · have hne : (((low a[k]).toNat : Int) != ((low b[k]).toNat : Int)) = true := by assumption
          go_ret
          obtain ⟨n, hn⟩ := HD.out
          exact ⟨ret_bool (ne_low k (by simpa using hlt) (by simpa using hltb) hne).symm, n + nq, by rw [hn, World.drewN_drewN]⟩
        · have heq : (((low a[k]).toNat : Int) != ((low b[k]).toNat : Int)) = false := by assumption
          have HQ := hide heq
          clear heq
          go_roundw
          case rel =>
            obtain ⟨n, hn⟩ := HD.out
            exact ⟨k + 1, by omega, by go_num, ⟨n + nq, by rw [hn, World.drewN_drewN]⟩, fun j h1 h2 hj => low_step HA.out HQ.out j h1 h2 hj⟩
          case measure => simp [intOf]; omega
      · go_wp2
        go_ret
        exact ⟨ret_bool (same_true_of (by simpa using HL.out) (fun j h1 h2 => HA.out j h1 h2 (by simp at h1; omega))).symm, HD.out⟩
  · have hl1 : (((a.size : Nat) : Int) != ((b.size : Nat) : Int)) = true := by simp; omega
    have HN : Hid (¬ a.size = b.size) := hl
    clear hl
    go_enter Try.func12, Try.ntmps12
    go_wp2
    go_ret
    exact ⟨ret_bool (same_false_len (by simpa using HN.out)).symm, 0, rfl⟩

theorem zzsame_any (a b : ByteArray) (w : World) (ha : a.size ≤ maxLen) (hb : b.size ≤ maxLen) :
    Calls Try.prog 6 #[.string a, .string b] w fun e w' => e = .returned (.bool (same a.data.toList b.data.toList)) ∧ ∃ n, w' = w.drewN n := by
  go_enter Try.func6, Try.ntmps6
  go_wp2_with (go_at_call 12; refine (same_any _ _ _ ha hb).mono ?_; rintro e w' ⟨rfl, n, rfl⟩)
  go_ret
  exact ⟨rfl, n, rfl⟩

theorem add_at (g j : Nat) : (⟨g, 0, none⟩ : Addr).add j = ⟨g, j, none⟩ := by unfold Addr.add; split <;> simp_all

/-- the row of bytes that has been filled, made into a string -/
theorem back {P : Program} {base : Nat} (w : World) (src dst e : TypeId) (g n cap : Nat) (f : Nat → UInt8) (hs : P.underlying src = some (.slice e)) (he : P.underlying e = some (.int .u8)) (hd : P.underlying dst = some .string)
    (hown : w.ownsRow base e 1 (.slice (some ⟨g, 0, none⟩) n cap) n (filled f n n)) :
    (convert src dst (.slice (some ⟨g, 0, none⟩) n cap)).run P w = .ok (.string ⟨(tab f n).toArray⟩) w := by
  have h := run_convert_bytes_back (P := P) w src dst e ⟨g, 0, none⟩ cap (tab f n) hs he hd (fun j hj => by
    have hj' : j < n := by simpa [tab_length] using hj
    have hc := hown.cellAt j (by omega)
    rw [filled_get f n j hj'] at hc
    rw [add_at]
    exact hc)
  rw [tab_length] at h
  exact h

theorem info5 : (Try.prog.info? 5).map (fun i => (i.zero, i.size, i.bytes)) = some (some (.int .u8 0), 1, 1) := by kernel_rfl

theorem made_zero (f : Nat → UInt8) (n : Nat) : (madeCells (Value.int .u8 0).cells (n * 1)).toList = filled f n 0 := by
  rw [filled_zero, Nat.mul_one]
  exact toList_madeCells_one _ _

theorem getD_ba (a : ByteArray) (k : Nat) (h : k < a.size) : a.data.toList.getD k 0 = a[k] := by
  have h' : k < a.data.toList.length := by simpa using h
  rw [List.getD_eq_getElem?_getD, List.getElem?_eq_getElem h']
  rfl

theorem upp_yes (c : UInt8) (h1 : 97 ≤ (c.toNat : Int)) (h2 : (c.toNat : Int) ≤ 122) : ((upp c).toNat : Int) = (c.toNat : Int) - 32 := by
  have h : 97 ≤ c.toNat ∧ c.toNat ≤ 122 := by omega
  unfold upp
  rw [if_pos h, UInt8.toNat_sub]
  have : (32 : UInt8).toNat = 32 := rfl
  omega
theorem upp_no (c : UInt8) (h : ¬ (97 ≤ (c.toNat : Int) ∧ (c.toNat : Int) ≤ 122)) : ((upp c).toNat : Int) = (c.toNat : Int) := by
  have h : ¬ (97 ≤ c.toNat ∧ c.toNat ≤ 122) := by omega
  unfold upp
  rw [if_neg h]
theorem swp_lo (c : UInt8) (h1 : 97 ≤ (c.toNat : Int)) (h2 : (c.toNat : Int) ≤ 122) : ((swp c).toNat : Int) = (c.toNat : Int) - 32 := by
  have h : 97 ≤ c.toNat ∧ c.toNat ≤ 122 := by omega
  unfold swp
  rw [if_pos h, UInt8.toNat_sub]
  have : (32 : UInt8).toNat = 32 := rfl
  omega
theorem swp_up (c : UInt8) (h1 : 65 ≤ (c.toNat : Int)) (h2 : (c.toNat : Int) ≤ 90) : ((swp c).toNat : Int) = (c.toNat : Int) + 32 := by
  have h : 65 ≤ c.toNat ∧ c.toNat ≤ 90 := by omega
  have h' : ¬ (97 ≤ c.toNat ∧ c.toNat ≤ 122) := by omega
  unfold swp
  rw [if_neg h', if_pos h, UInt8.toNat_add]
  have : (32 : UInt8).toNat = 32 := rfl
  omega
theorem swp_no (c : UInt8) (h : ¬ (97 ≤ (c.toNat : Int) ∧ (c.toNat : Int) ≤ 122)) (h' : ¬ (65 ≤ (c.toNat : Int) ∧ (c.toNat : Int) ≤ 90)) : ((swp c).toNat : Int) = (c.toNat : Int) := by
  have h : ¬ (97 ≤ c.toNat ∧ c.toNat ≤ 122) := by omega
  have h' : ¬ (65 ≤ c.toNat ∧ c.toNat ≤ 90) := by omega
  unfold swp
  rw [if_neg h, if_neg h']

theorem fill_step {wr : World} {B g n cap k : Nat} {f : Nat → UInt8} {x : Int}
    (HS : ∀ v, (wr.setCell ⟨g, k, none⟩ v).ownsRow B 5 1 (.slice (some ⟨g, 0, none⟩) n cap) n ((filled f n k).set k v)) (hv : x = ((f k).toNat : Int)) :
    (wr.setCell ⟨g, k, none⟩ (.int .u8 x)).ownsRow B 5 1 (.slice (some ⟨g, 0, none⟩) n cap) n (filled f n (k + 1)) := by
  have := HS (.int .u8 x)
  rw [filled_set f n k _ (by rw [hv])] at this
  exact this

def uppf (a : List UInt8) (j : Nat) : UInt8 := upp (a.getD j 0)
def lowf (a : List UInt8) (j : Nat) : UInt8 := low (a.getD j 0)

set_option maxHeartbeats 800000 in
theorem upper_any (a : ByteArray) (w : World) (ha : a.size ≤ 1048576) :
    Calls Try.prog 9 #[.string a] w fun e w' => e = .returned (.string ⟨(tab (uppf a.data.toList) a.size).toArray⟩) ∧ Below w.heap.size w w' := by
  obtain ⟨i0, hi, hz0, hz1, hz2⟩ := info_parts info5
  go_enter Try.func9, Try.ntmps9
  go_wp2_with (at_make; refine wpList_make_full _ rfl _ _ 28 rfl w.heap.size 5 i0 (.int .u8 0) 1 Try.underlying28 hi hz0 hz1 .i64 .i64 _ _ a.size rfl rfl rfl rfl (by rw [hz2]; omega) (by unfold maxLen; omega) (Nat.le_refl _) ?_; intro w1 hown hgrow)
  have hB1 : Below w.heap.size w w1 := (Below.refl _ _).grown hgrow (Nat.le_refl _) (fun k h => by cases h)
  rw [made_zero (uppf a.data.toList)] at hown
  clear hgrow hi hz0 hz1 hz2
  go_loopw [4] (fun i wr => ∃ k : Nat, k ≤ a.size ∧ i = .int .i64 k ∧ wr.ownsRow w.heap.size 5 1 (.slice (some ⟨w.heap.size, 0, none⟩) a.size a.size) a.size (filled (uppf a.data.toList) a.size k) ∧ Below w.heap.size w wr) (fun i _ => a.size - (intOf i).toNat)
  case atStart => exact ⟨0, Nat.zero_le _, rfl, hown, hB1⟩
  case round =>
    clear hown hB1
    obtain ⟨k, hk, rfl, hown, hB⟩ := hrel
    by_cases hlt : k < a.size
    · have hcell := hown.cellAt k (by omega)
      rw [filled_get_any _ _ _ _ hlt, if_neg (by omega)] at hcell
      have hfr := hown.frozenAt k
      have hst := fun v => (hown.stored k v).1
      have HS := hide hst
      have HB := hide hB
      clear hst hB hown
      by_cases hc : 97 ≤ (a[k].toNat : Int) ∧ (a[k].toNat : Int) ≤ 122
      · obtain ⟨hc1, hc2⟩ := hc
        have hv : (a[k].toNat : Int) - 32 = ((uppf a.data.toList k).toNat : Int) := by unfold uppf; rw [getD_ba a k hlt]; exact (upp_yes _ hc1 hc2).symm
        have HV := hide hv
        clear hv
        go_wp2
        go_roundw
        case rel => exact ⟨k + 1, by omega, by go_num, fill_step HS.out HV.out, HB.out.setCell (Nat.le_refl _) _⟩
        case measure => simp [intOf]; omega
      · have hv : (a[k].toNat : Int) = ((uppf a.data.toList k).toNat : Int) := by unfold uppf; rw [getD_ba a k hlt]; exact (upp_no _ hc).symm
        have HV := hide hv
        have HC := hide hc
        clear hv hc
        go_wp2
        all_goals
          first
          | (exfalso; have := HC.out; omega)
          | (go_roundw
             case rel => exact ⟨k + 1, by omega, by go_num, fill_step HS.out HV.out, HB.out.setCell (Nat.le_refl _) _⟩
             case measure => simp [intOf]; omega)
    · have hke : k = a.size := by omega
      subst hke
      have hcv := back (P := Try.prog) wr 28 9 5 w.heap.size a.size a.size _ Try.underlying28 Try.underlying5 Try.underlying9 hown
      clear hown
      go_wp2
      go_ret
      exact ⟨rfl, hB⟩

set_option maxHeartbeats 800000 in
theorem lowerS_any (a : ByteArray) (w : World) (ha : a.size ≤ 1048576) :
    Calls Try.prog 10 #[.string a] w fun e w' => e = .returned (.string ⟨(tab (lowf a.data.toList) a.size).toArray⟩) ∧ Below w.heap.size w w' := by
  obtain ⟨i0, hi, hz0, hz1, hz2⟩ := info_parts info5
  go_enter Try.func10, Try.ntmps10
  go_wp2_with (at_make; refine wpList_make_full _ rfl _ _ 28 rfl w.heap.size 5 i0 (.int .u8 0) 1 Try.underlying28 hi hz0 hz1 .i64 .i64 _ _ a.size rfl rfl rfl rfl (by rw [hz2]; omega) (by unfold maxLen; omega) (Nat.le_refl _) ?_; intro w1 hown hgrow)
  have hB1 : Below w.heap.size w w1 := (Below.refl _ _).grown hgrow (Nat.le_refl _) (fun k h => by cases h)
  rw [made_zero (lowf a.data.toList)] at hown
  clear hgrow hi hz0 hz1 hz2
  go_loopw [4] (fun i wr => ∃ k : Nat, k ≤ a.size ∧ i = .int .i64 k ∧ wr.ownsRow w.heap.size 5 1 (.slice (some ⟨w.heap.size, 0, none⟩) a.size a.size) a.size (filled (lowf a.data.toList) a.size k) ∧ Below w.heap.size w wr) (fun i _ => a.size - (intOf i).toNat)
  case atStart => exact ⟨0, Nat.zero_le _, rfl, hown, hB1⟩
  case round =>
    clear hown hB1
    obtain ⟨k, hk, rfl, hown, hB⟩ := hrel
    by_cases hlt : k < a.size
    · have hcell := hown.cellAt k (by omega)
      rw [filled_get_any _ _ _ _ hlt, if_neg (by omega)] at hcell
      have hfr := hown.frozenAt k
      have hst := fun v => (hown.stored k v).1
      have HS := hide hst
      have HB := hide hB
      clear hst hB hown
      by_cases hc : 65 ≤ (a[k].toNat : Int) ∧ (a[k].toNat : Int) ≤ 90
      · obtain ⟨hc1, hc2⟩ := hc
        have hv : (a[k].toNat : Int) + 32 = ((lowf a.data.toList k).toNat : Int) := by unfold lowf; rw [getD_ba a k hlt]; exact (low_yes _ hc1 hc2).symm
        have HV := hide hv
        clear hv
        go_wp2
        go_roundw
        case rel => exact ⟨k + 1, by omega, by go_num, fill_step HS.out HV.out, HB.out.setCell (Nat.le_refl _) _⟩
        case measure => simp [intOf]; omega
      · have hv : (a[k].toNat : Int) = ((lowf a.data.toList k).toNat : Int) := by unfold lowf; rw [getD_ba a k hlt]; exact (low_no _ hc).symm
        have HV := hide hv
        have HC := hide hc
        clear hv hc
        go_wp2
        all_goals
          first
          | (exfalso; have := HC.out; omega)
          | (go_roundw
             case rel => exact ⟨k + 1, by omega, by go_num, fill_step HS.out HV.out, HB.out.setCell (Nat.le_refl _) _⟩
             case measure => simp [intOf]; omega)
    · have hke : k = a.size := by omega
      subst hke
      have hcv := back (P := Try.prog) wr 28 9 5 w.heap.size a.size a.size _ Try.underlying28 Try.underlying5 Try.underlying9 hown
      clear hown
      go_wp2
      go_ret
      exact ⟨rfl, hB⟩

end Go.Proofs.Qxb6628318a
