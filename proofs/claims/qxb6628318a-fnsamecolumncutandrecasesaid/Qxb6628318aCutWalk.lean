/-
  THE LAW FnSameColumnCutAndRecase, WALKED OUT OF ITS CALLEES' CONTRACTS (inside its bounds).
-/
import Derived.Test.Qxb6628318aWalks2
import Derived.Deep.RegionWith
namespace Go.Proofs.Qxb6628318a.fnSameColumnCutAndRecase
open Go.RowKit
set_option linter.unusedVariables false

theorem below_n (w : World) (n : Nat) : Below w.heap.size w (w.drewN n) := ⟨rfl, rfl, rfl, Nat.le_refl _, fun _ _ => rfl⟩

theorem bytes_yes (a b m : ByteArray) (k : Int) (w : World) (h : a.size + b.size + m.size ≤ 1048576) :
    Calls Try.prog 5 #[.string a, .string b, .string m, .int .i64 k] w fun e w' => e = .returned (.bool true) ∧ w = w' := by
  go_enter Try.func5, Try.ntmps5
  go_wp2
  go_ret
  exact ⟨rfl, rfl⟩

theorem bytes_no (a b m : ByteArray) (k : Int) (w : World) (w0 : a.size ≤ maxLen) (w1 : b.size ≤ maxLen) (w2 : m.size ≤ maxLen) (h : ¬ a.size + b.size + m.size ≤ 1048576) :
    Calls Try.prog 5 #[.string a, .string b, .string m, .int .i64 k] w fun e w' => e = .returned (.bool false) ∧ w = w' := by
  unfold maxLen at w0 w1 w2
  have HN := hide h
  clear h
  go_enter Try.func5, Try.ntmps5
  go_wp2
  all_goals
    go_ret
    first | exact ⟨rfl, rfl⟩ | (exfalso; have := HN.out; omega)

theorem zzsame_is (a b : ByteArray) (w : World) (ha : a.size ≤ maxLen) (hb : b.size ≤ maxLen) (v : Bool) (hv : same a.data.toList b.data.toList = v) :
    Calls Try.prog 6 #[.string a, .string b] w fun e w' => e = .returned (.bool v) ∧ ∃ n, w' = w.drewN n := by
  subst hv
  exact zzsame_any a b w ha hb

theorem rec_any (a m : ByteArray) (w : World) (ha : a.size ≤ 1048576) (hm : m.size ≤ 1048576) :
    Calls Try.prog 7 #[.string a, .string m] w fun e w' => ∃ r : ByteArray, e = .returned (.string r) ∧ r.data.toList.map low = a.data.toList.map low ∧ r.size = a.size ∧ Below w.heap.size w w' := by
  refine (recase_any a m w ha hm).mono fun e w' ⟨he, hB⟩ => ⟨_, he, ?_, ?_, hB⟩
  · apply List.ext_getElem
    · simp [tab]
    · intro j h1 h2
      have hj : j < a.size := by simpa using h2
      simp only [List.getElem_map]
      have e1 : (tab (recf a.data.toList m.data.toList) a.size)[j]'(by rw [tab_length]; exact hj) = recf a.data.toList m.data.toList j := tab_get _ _ _ _
      show low ((tab (recf a.data.toList m.data.toList) a.size)[j]'(by rw [tab_length]; exact hj)) = low a[j]
      rw [e1]
      unfold recf
      split
      · rw [getD_ba a j hj, low_swp]
      · rw [getD_ba a j hj]
  · show (tab (recf a.data.toList m.data.toList) a.size).toArray.size = a.size
    simp [tab_length]

theorem take_ext (a : ByteArray) (k : Nat) : (a.extract 0 k).data.toList = a.data.toList.take k := by simp
theorem drop_ext (a : ByteArray) (k : Nat) : (a.extract k a.size).data.toList = a.data.toList.drop k := by
  simp only [ByteArray.data_extract, Array.toList_extract, List.extract_eq_take_drop]
  exact List.take_of_length_le (by simp)

set_option maxHeartbeats 1600000 in
theorem main_walk (a b m : ByteArray) (k : Nat) (p1 p2 : Bool) (ha : a.size ≤ 262144) (hb : b.size ≤ 262144) (hm : m.size ≤ 262144) (hka : k ≤ a.size) (hkb : k ≤ b.size) (w : World)
    (h0 : same a.data.toList b.data.toList = (p1 && p2))
    (h1 : same (a.extract 0 k).data.toList (b.extract 0 k).data.toList = p1) (h2 : same (a.extract k a.size).data.toList (b.extract k b.size).data.toList = p2) :
    Calls Try.prog 3 #[.string a, .string b, .string m, .int .i64 k] w fun e w' => e = .returned (.bool true) ∧ Below w.heap.size w w' := by
  have H0 := hide h0
  have H1 := hide h1
  have H2 := hide h2
  clear h0 h1 h2
  have M : ∀ x : ByteArray, x.size ≤ 1048576 → x.size ≤ maxLen := fun x h => by unfold maxLen; omega
  have HM := hide M
  clear M
  have i1 : (k : Int) ≤ (a.size : Int) := by omega
  have i2 : (k : Int) ≤ (b.size : Int) := by omega
  cases p1 <;> cases p2
  all_goals
    go_enter Try.func3, Try.ntmps3
    go_wp2_with (first
      | (go_at_call 5; refine (bytes_yes a b m k _ (by omega)).mono ?_; rintro e w' ⟨rfl, rfl⟩)
      | (go_at_call 6; refine (zzsame_is a b _ (HM.out a (by omega)) (HM.out b (by omega)) _ H0.out).mono ?_; rintro e w1 ⟨rfl, hd1⟩))
    have HB1 : Hid (Below w.heap.size w w1) := by obtain ⟨n, hn⟩ := hd1; rw [hn]; exact below_n w n
    clear hd1
    go_quiet (first
      | (go_at_call_of 6 (a.extract 0 k); exact Calls.quiet_of (zzsame_is (a.extract 0 k) (b.extract 0 k) _ (HM.out _ (by simp; omega)) (HM.out _ (by simp; omega)) _ H1.out))
      | (go_at_call_of 6 (a.extract k a.size); exact Calls.quiet_of (zzsame_is (a.extract k a.size) (b.extract k b.size) _ (HM.out _ (by simp; omega)) (HM.out _ (by simp; omega)) _ H2.out)))
    have HB2 : Hid (Below w.heap.size w (w1.drewN nq)) := HB1.out.trans ((below_n w1 nq).mono HB1.out.size)
    have HZ : Hid (w.heap.size ≤ w1.heap.size) := HB1.out.size
    clear HB1
    go_wp2_with (go_at_call 7; refine (rec_any a m _ (by omega) (by omega)).mono ?_; rintro e w2 ⟨r, rfl, hr, hrs, hB2⟩; refine Hid.out ?_)
    refine hide ?_
    have HB3 : Hid (Below w.heap.size w w2) := HB2.out.trans (hB2.mono (by simpa using HZ.out))
    have HR1 : Hid (same a.data.toList r.data.toList = true) := by unfold same; exact decide_eq_true hr.symm
    have HR2 : Hid (same r.data.toList a.data.toList = true) := by unfold same; exact decide_eq_true hr
    have HR3 := hide hrs
    have hrs' : r.size ≤ 262144 := by omega
    clear HB2 HZ hB2 hr hrs
    go_wp2_with fail
    refine (zzsame_is a r _ (HM.out a (by omega)) (HM.out r (by omega)) true HR1.out).mono ?_
    rintro e w3 ⟨rfl, n3, rfl⟩
    go_wp2_with fail
    refine (zzsame_is r a _ (HM.out r (by omega)) (HM.out a (by omega)) true HR2.out).mono ?_
    rintro e w3 ⟨rfl, n4, rfl⟩
    go_wp2_with fail
    refine (zzsame_is a _ _ (HM.out a (by omega)) ?_ false ?_).mono ?_
    · exact HM.out _ (by simp [ByteArray.size_append, ByteArray.size_mk']; omega)
    · apply same_false_len; have := HR3.out; simp; omega
    rintro e w3 ⟨rfl, n5, rfl⟩
    go_wp2
    go_ret
    exact ⟨rfl, HB3.out.trans ((below_n w2 _).mono HB3.out.size)⟩

end Go.Proofs.Qxb6628318a.fnSameColumnCutAndRecase
