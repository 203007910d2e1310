/-
  THE LAW FnSameColumnCaseOnlyASCII, WALKED OUT OF ITS CALLEES' CONTRACTS.
-/
import Derived.Test.Qxb6628318aWalks2
import Derived.Deep.RegionWith
namespace Go.Proofs.Qxb6628318a.fnSameColumnCaseOnlyASCII
open Go.RowKit
set_option linter.unusedVariables false

theorem below_n (w : World) (n : Nat) : Below w.heap.size w (w.drewN n) := ⟨rfl, rfl, rfl, Nat.le_refl _, fun _ _ => rfl⟩

theorem bytes_yes (a b : ByteArray) (k : Int) (w : World) (h : a.size + b.size ≤ 1048576) :
    Calls Try.prog 8 #[.string a, .string b, .int .i64 k] w fun e w' => e = .returned (.bool true) ∧ w = w' := by
  go_enter Try.func8, Try.ntmps8
  go_wp2
  go_ret
  exact ⟨rfl, rfl⟩

theorem bytes_no (a b : ByteArray) (k : Int) (w : World) (w0 : a.size ≤ maxLen) (w1 : b.size ≤ maxLen) (h : ¬ a.size + b.size ≤ 1048576) :
    Calls Try.prog 8 #[.string a, .string b, .int .i64 k] w fun e w' => e = .returned (.bool false) ∧ w = w' := by
  unfold maxLen at w0 w1
  have HN := hide h
  clear h
  go_enter Try.func8, Try.ntmps8
  go_wp2
  all_goals
    go_ret
    first | exact ⟨rfl, rfl⟩ | (exfalso; have := HN.out; omega)

theorem zzsame_is (a b : ByteArray) (w : World) (ha : a.size ≤ 1048576) (hb : b.size ≤ 1048576) (v : Bool) (hv : same a.data.toList b.data.toList = v) :
    Calls Try.prog 6 #[.string a, .string b] w fun e w' => e = .returned (.bool v) ∧ Below w.heap.size w w' := by
  subst hv
  refine (zzsame_any a b w (by unfold maxLen; omega) (by unfold maxLen; omega)).mono ?_
  rintro e w' ⟨he, n, rfl⟩
  exact ⟨he, below_n w n⟩

theorem map_tab (f : Nat → UInt8) (a : ByteArray) (h : ∀ j (hj : j < a.size), low (f j) = low a[j]) : (tab f a.size).map low = a.data.toList.map low := by
  apply List.ext_getElem
  · simp [tab]
  · intro j h1 h2
    have hj : j < a.size := by simpa using h2
    simp only [List.getElem_map]
    rw [tab_get]
    exact h j hj

theorem size_tab (f : Nat → UInt8) (n : Nat) : (ByteArray.mk (tab f n).toArray).size = n := by
  show (tab f n).toArray.size = n
  simp [tab_length]

theorem upper_is (a : ByteArray) (w : World) (ha : a.size ≤ 1048576) :
    Calls Try.prog 9 #[.string a] w fun e w' => ∃ r : ByteArray, e = .returned (.string r) ∧ r.data.toList.map low = a.data.toList.map low ∧ r.size = a.size ∧ Below w.heap.size w w' := by
  refine (upper_any a w ha).mono fun e w' ⟨he, hB⟩ => ⟨_, he, ?_, size_tab _ _, hB⟩
  exact map_tab _ a fun j hj => by unfold uppf; rw [getD_ba a j hj, low_upp]

theorem lower_is (a : ByteArray) (w : World) (ha : a.size ≤ 1048576) :
    Calls Try.prog 10 #[.string a] w fun e w' => ∃ r : ByteArray, e = .returned (.string r) ∧ r.data.toList.map low = a.data.toList.map low ∧ r.size = a.size ∧ Below w.heap.size w w' := by
  refine (lowerS_any a w ha).mono fun e w' ⟨he, hB⟩ => ⟨_, he, ?_, size_tab _ _, hB⟩
  exact map_tab _ a fun j hj => by unfold lowf; rw [getD_ba a j hj, low_low]

theorem same_flip (a : ByteArray) (i : Nat) (x : UInt8) (hi : i < a.size) : same a.data.toList (tab (flipf a.data.toList i x) a.size) = decide (low a[i] = low (a[i] ^^^ x)) := by
  have hl : i < a.data.toList.length := by simpa using hi
  have ht : i < (tab (flipf a.data.toList i x) a.size).length := by rw [tab_length]; exact hi
  have e1 : flipf a.data.toList i x i = a[i] ^^^ x := by unfold flipf; rw [if_pos rfl, getD_ba a i hi]
  by_cases h : low a[i] = low (a[i] ^^^ x)
  · rw [decide_eq_true h]
    apply same_true_of
    · rw [tab_length]; simp
    · intro j h1 h2
      have hj : j < a.size := by simpa using h1
      rw [tab_get]
      by_cases e : j = i
      · subst e; rw [e1]; exact h
      · unfold flipf; rw [if_neg e, getD_ba a j hj]; rfl
  · rw [decide_eq_false h]
    refine same_false_at i hl ht ?_
    rw [tab_get, e1]
    exact h

theorem flip_hi (a : ByteArray) (i : Nat) (w : World) (ha : a.size ≤ 1048576) (hi : i < a.size) :
    Calls Try.prog 11 #[.string a, .int .i64 i, .int .u8 128] w fun e w' => ∃ r : ByteArray, e = .returned (.string r) ∧ same a.data.toList r.data.toList = false ∧ same r.data.toList a.data.toList = false ∧ r.size = a.size ∧ Below w.heap.size w w' := by
  have h : same a.data.toList (tab (flipf a.data.toList i 128) a.size) = false := by
    rw [same_flip a i 128 hi]
    exact decide_eq_false fun e => low_hi _ e.symm
  refine (flip_any a i 128 128 w ha hi (xor_hi _)).mono fun e w' ⟨he, hB⟩ => ⟨_, he, h, ?_, size_tab _ _, hB⟩
  rw [same_comm]
  exact h

theorem flip_case (a : ByteArray) (i : Nat) (w : World) (ha : a.size ≤ 1048576) (hi : i < a.size) :
    Calls Try.prog 11 #[.string a, .int .i64 i, .int .u8 32] w fun e w' => ∃ r : ByteArray, e = .returned (.string r) ∧ same a.data.toList r.data.toList = isLet a[i] ∧ r.size = a.size ∧ Below w.heap.size w w' := by
  refine (flip_any a i 32 32 w ha hi (xor_case _)).mono fun e w' ⟨he, hB⟩ => ⟨_, he, ?_, size_tab _ _, hB⟩
  exact (same_flip a i 32 hi).trans (low_bit _)

theorem step {w w1 w2 : World} (h1 : Hid (Below w.heap.size w w1)) (h2 : Below w1.heap.size w1 w2) : Hid (Below w.heap.size w w2) :=
  hide (h1.out.trans (h2.mono h1.out.size))

theorem letter_cases (c : UInt8) (C : Prop)
    (h1 : 97 ≤ (c.toNat : Int) → (c.toNat : Int) ≤ 122 → isLet c = true → C)
    (h2 : (c.toNat : Int) < 97 → 65 ≤ (c.toNat : Int) → (c.toNat : Int) ≤ 90 → isLet c = true → C)
    (h3 : 97 ≤ (c.toNat : Int) → 122 < (c.toNat : Int) → isLet c = false → C)
    (h4 : (c.toNat : Int) < 97 → 90 < (c.toNat : Int) → isLet c = false → C)
    (h5 : (c.toNat : Int) < 97 → (c.toNat : Int) < 65 → isLet c = false → C) : C := by
  by_cases a1 : 97 ≤ (c.toNat : Int)
  · by_cases a2 : (c.toNat : Int) ≤ 122
    · exact h1 a1 a2 (decide_eq_true (by omega))
    · exact h3 a1 (by omega) (decide_eq_false (by omega))
  · by_cases a3 : 65 ≤ (c.toNat : Int)
    · by_cases a4 : (c.toNat : Int) ≤ 90
      · exact h2 (by omega) a3 a4 (decide_eq_true (by omega))
      · exact h4 (by omega) (by omega) (decide_eq_false (by omega))
    · exact h5 (by omega) (by omega) (decide_eq_false (by omega))

set_option maxHeartbeats 1600000 in
theorem out_walk (a b : ByteArray) (i : Int) (v : Bool) (ha : a.size ≤ 524288) (hb : b.size ≤ 524288) (hs : a.size + b.size ≤ 1048576) (hi : i < 0 ∨ a.size ≤ i) (w : World) (h0 : same a.data.toList b.data.toList = v) :
    Calls Try.prog 4 #[.string a, .string b, .int .i64 i] w fun e w' => e = .returned (.bool true) ∧ Below w.heap.size w w' := by
  have H0 := hide h0
  have HI := hide hi
  clear h0 hi
  have HB0 : Hid (Below w.heap.size w w) := hide (Below.refl _ _)
  go_enter Try.func4, Try.ntmps4
  go_wp2_with (go_at_call 8; refine (bytes_yes a b _ _ (by omega)).mono ?_; rintro e w' ⟨rfl, rfl⟩)
  refine (zzsame_is a b _ (by omega) (by omega) v H0.out).mono ?_
  rintro e w1 ⟨rfl, hB⟩
  replace HB0 := step HB0 hB
  clear hB
  go_wp2_with fail
  refine (zzsame_is b a _ (by omega) (by omega) v (by rw [same_comm]; exact H0.out)).mono ?_
  rintro e w2 ⟨rfl, hB⟩
  replace HB0 := step HB0 hB
  clear hB
  go_wp2_with fail
  refine (upper_is a _ (by omega)).mono ?_
  rintro e w3 ⟨u, rfl, hu, hus, hB⟩
  replace HB0 := step HB0 hB
  have HU := hide hu
  have hus' : u.size ≤ 524288 := by omega
  clear hB hu hus
  go_wp2_with fail
  refine (lower_is b _ (by omega)).mono ?_
  rintro e w4 ⟨l, rfl, hl, hls, hB⟩
  replace HB0 := step HB0 hB
  have HL := hide hl
  have hls' : l.size ≤ 524288 := by omega
  clear hB hl hls
  go_wp2_with fail
  refine (zzsame_is u l _ (by omega) (by omega) v (by rw [same_of_map HU.out HL.out]; exact H0.out)).mono ?_
  rintro e w5 ⟨rfl, hB⟩
  replace HB0 := step HB0 hB
  clear hB HU HL hus' hls'
  go_wp2_with fail
  refine (upper_is a _ (by omega)).mono ?_
  rintro e w6 ⟨u2, rfl, hu, hus, hB⟩
  replace HB0 := step HB0 hB
  have HU := hide hu
  have hus' : u2.size ≤ 524288 := by omega
  clear hB hu hus
  go_wp2_with fail
  refine (lower_is a _ (by omega)).mono ?_
  rintro e w7 ⟨l2, rfl, hl, hls, hB⟩
  replace HB0 := step HB0 hB
  have HL := hide hl
  have hls' : l2.size ≤ 524288 := by omega
  clear hB hl hls
  go_wp2_with fail
  refine (zzsame_is u2 l2 _ (by omega) (by omega) true (by unfold same; rw [HU.out, HL.out]; simp)).mono ?_
  rintro e w8 ⟨rfl, hB⟩
  replace HB0 := step HB0 hB
  clear hB HU HL hus' hls'
  go_wp2_with fail
  all_goals first | (go_ret; exact ⟨rfl, HB0.out⟩) | (exfalso; have := HI.out; omega)

set_option maxHeartbeats 3200000 in
theorem in_walk (a b : ByteArray) (i : Nat) (v : Bool) (ha : a.size ≤ 524288) (hb : b.size ≤ 524288) (hs : a.size + b.size ≤ 1048576) (hi : i < a.size) (w : World) (h0 : same a.data.toList b.data.toList = v) :
    Calls Try.prog 4 #[.string a, .string b, .int .i64 i] w fun e w' => e = .returned (.bool true) ∧ Below w.heap.size w w' := by
  have H0 := hide h0
  clear h0
  have HB0 : Hid (Below w.heap.size w w) := hide (Below.refl _ _)
  go_enter Try.func4, Try.ntmps4
  go_wp2_with (go_at_call 8; refine (bytes_yes a b _ _ (by omega)).mono ?_; rintro e w' ⟨rfl, rfl⟩)
  refine (zzsame_is a b _ (by omega) (by omega) v H0.out).mono ?_
  rintro e w1 ⟨rfl, hB⟩
  replace HB0 := step HB0 hB
  clear hB
  go_wp2_with fail
  refine (zzsame_is b a _ (by omega) (by omega) v (by rw [same_comm]; exact H0.out)).mono ?_
  rintro e w2 ⟨rfl, hB⟩
  replace HB0 := step HB0 hB
  clear hB
  go_wp2_with fail
  refine (upper_is a _ (by omega)).mono ?_
  rintro e w3 ⟨u, rfl, hu, hus, hB⟩
  replace HB0 := step HB0 hB
  have HU := hide hu
  have hus' : u.size ≤ 524288 := by omega
  clear hB hu hus
  go_wp2_with fail
  refine (lower_is b _ (by omega)).mono ?_
  rintro e w4 ⟨l, rfl, hl, hls, hB⟩
  replace HB0 := step HB0 hB
  have HL := hide hl
  have hls' : l.size ≤ 524288 := by omega
  clear hB hl hls
  go_wp2_with fail
  refine (zzsame_is u l _ (by omega) (by omega) v (by rw [same_of_map HU.out HL.out]; exact H0.out)).mono ?_
  rintro e w5 ⟨rfl, hB⟩
  replace HB0 := step HB0 hB
  clear hB HU HL hus' hls'
  go_wp2_with fail
  refine (upper_is a _ (by omega)).mono ?_
  rintro e w6 ⟨u2, rfl, hu, hus, hB⟩
  replace HB0 := step HB0 hB
  have HU := hide hu
  have hus' : u2.size ≤ 524288 := by omega
  clear hB hu hus
  go_wp2_with fail
  refine (lower_is a _ (by omega)).mono ?_
  rintro e w7 ⟨l2, rfl, hl, hls, hB⟩
  replace HB0 := step HB0 hB
  have HL := hide hl
  have hls' : l2.size ≤ 524288 := by omega
  clear hB hl hls
  go_wp2_with fail
  refine (zzsame_is u2 l2 _ (by omega) (by omega) true (by unfold same; rw [HU.out, HL.out]; simp)).mono ?_
  rintro e w8 ⟨rfl, hB⟩
  replace HB0 := step HB0 hB
  clear hB HU HL hus' hls'
  go_wp2_with fail
  refine (flip_hi a i _ (by omega) (by omega)).mono ?_
  rintro e w9 ⟨r, rfl, h1, h2, hrs, hB⟩
  replace HB0 := step HB0 hB
  have H1 := hide h1
  have H2 := hide h2
  have hrs' : r.size ≤ 524288 := by omega
  clear hB h1 h2 hrs
  go_wp2_with fail
  refine (zzsame_is a r _ (by omega) (by omega) false H1.out).mono ?_
  rintro e w10 ⟨rfl, hB⟩
  replace HB0 := step HB0 hB
  clear hB
  go_wp2_with fail
  refine (zzsame_is r a _ (by omega) (by omega) false H2.out).mono ?_
  rintro e w11 ⟨rfl, hB⟩
  replace HB0 := step HB0 hB
  clear hB H1 H2 hrs'
  refine letter_cases a[i] _ ?_ ?_ ?_ ?_ ?_
  · intro c1 c2 ht
    have HT := hide ht
    clear ht
    go_wp2_with fail
    refine (flip_case a i _ (by omega) (by omega)).mono ?_
    rintro e w12 ⟨r2, rfl, h1, hrs, hB⟩
    replace HB0 := step HB0 hB
    have H1 := hide h1
    have hrs' : r2.size ≤ 524288 := by omega
    clear hB h1 hrs
    go_wp2_with fail
    refine (zzsame_is a r2 _ (by omega) (by omega) true (H1.out.trans HT.out)).mono ?_
    rintro e w13 ⟨rfl, hB⟩
    replace HB0 := step HB0 hB
    clear hB
    go_wp2
    go_ret
    exact ⟨rfl, HB0.out⟩
  · intro c1 c2 c3 ht
    have HT := hide ht
    clear ht
    go_wp2_with fail
    refine (flip_case a i _ (by omega) (by omega)).mono ?_
    rintro e w12 ⟨r2, rfl, h1, hrs, hB⟩
    replace HB0 := step HB0 hB
    have H1 := hide h1
    have hrs' : r2.size ≤ 524288 := by omega
    clear hB h1 hrs
    go_wp2_with fail
    refine (zzsame_is a r2 _ (by omega) (by omega) true (H1.out.trans HT.out)).mono ?_
    rintro e w13 ⟨rfl, hB⟩
    replace HB0 := step HB0 hB
    clear hB
    go_wp2
    go_ret
    exact ⟨rfl, HB0.out⟩
  · intro c1 c2 ht
    have HT := hide ht
    clear ht
    go_wp2_with fail
    refine (flip_case a i _ (by omega) (by omega)).mono ?_
    rintro e w12 ⟨r2, rfl, h1, hrs, hB⟩
    replace HB0 := step HB0 hB
    have H1 := hide h1
    have hrs' : r2.size ≤ 524288 := by omega
    clear hB h1 hrs
    go_wp2_with fail
    refine (zzsame_is a r2 _ (by omega) (by omega) false (H1.out.trans HT.out)).mono ?_
    rintro e w13 ⟨rfl, hB⟩
    replace HB0 := step HB0 hB
    clear hB
    go_wp2
    go_ret
    exact ⟨rfl, HB0.out⟩
  · intro c1 c2 ht
    have HT := hide ht
    clear ht
    go_wp2_with fail
    refine (flip_case a i _ (by omega) (by omega)).mono ?_
    rintro e w12 ⟨r2, rfl, h1, hrs, hB⟩
    replace HB0 := step HB0 hB
    have H1 := hide h1
    have hrs' : r2.size ≤ 524288 := by omega
    clear hB h1 hrs
    go_wp2_with fail
    refine (zzsame_is a r2 _ (by omega) (by omega) false (H1.out.trans HT.out)).mono ?_
    rintro e w13 ⟨rfl, hB⟩
    replace HB0 := step HB0 hB
    clear hB
    go_wp2
    go_ret
    exact ⟨rfl, HB0.out⟩
  · intro c1 c2 ht
    have HT := hide ht
    clear ht
    go_wp2_with fail
    refine (flip_case a i _ (by omega) (by omega)).mono ?_
    rintro e w12 ⟨r2, rfl, h1, hrs, hB⟩
    replace HB0 := step HB0 hB
    have H1 := hide h1
    have hrs' : r2.size ≤ 524288 := by omega
    clear hB h1 hrs
    go_wp2_with fail
    refine (zzsame_is a r2 _ (by omega) (by omega) false (H1.out.trans HT.out)).mono ?_
    rintro e w13 ⟨rfl, hB⟩
    replace HB0 := step HB0 hB
    clear hB
    go_wp2
    go_ret
    exact ⟨rfl, HB0.out⟩

end Go.Proofs.Qxb6628318a.fnSameColumnCaseOnlyASCII
