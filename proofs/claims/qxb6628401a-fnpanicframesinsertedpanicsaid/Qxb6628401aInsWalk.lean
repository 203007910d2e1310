/-
  THE LAW FnPanicFramesInsertedPanic, WALKED OUT OF ITS CALLEES' CONTRACTS.
-/
import Derived.Test.Qxb6628401aCall
import Derived.Test.Qxb6628401aBytes
import Derived.Test.Qxb6628401aLaws
import Derived.Test.Qxb6628401aCutBase
import Derived.Deep.RegionWith
namespace Go.Proofs.Qxb6628401a
open Go.RowKit

set_option maxRecDepth 100000 in
set_option maxHeartbeats 3200000 in
theorem ins_main (ao : Option Addr) (n cap : Nat) (k li : Int) (fi ab : ByteArray) (L : List Fr) (w : World) (hcap : n ≤ cap) (hcap2 : cap ≤ maxLen) (hl : L.length = n) (hr : Rd w ao L) :
    Calls Try.prog 4 #[.slice ao n cap, .int .i64 k, .string fi, .string ab, .int .i64 li] w fun e w' => e = .returned (.bool true) ∧ Below w.heap.size w w' := by
  have HR := hide hr
  have HL := hide hl
  have HM : Hid (n ≤ maxLen) := Nat.le_trans hcap hcap2
  unfold maxLen at hcap2
  clear hr hl
  go_enter Try.func4, Try.ntmps4
  go_wp2_with (go_at_call 12; refine (bytes2 ao n cap k li fi ab L _ HM.out HL.out HR.out).mono ?_; rintro e w' ⟨⟨v, rfl, hv⟩, rfl⟩; refine Hid.out ?_)
  refine hide ?_
  cases v
  · clear hv
    go_wp2
    go_ret
    exact ⟨rfl, Below.refl _ _⟩
  obtain ⟨hn, hsm, hfi, hab⟩ := hv rfl
  have HS := hide hsm
  clear hv hsm
  go_wp2_with (go_at_call 6; refine (tooBig ao n cap _ L _ hn (by omega) (by omega) HL.out HR.out HS.out).mono ?_; rintro e w' ⟨⟨v, rfl, hv⟩, rfl⟩; refine Hid.out ?_)
  refine hide ?_
  cases v
  · have hbd := hv rfl
    clear hv HS
    have hn2 : n ≤ 26214 := by omega
    clear hbd
    by_cases hk : 0 ≤ k ∧ k ≤ (n : Int)
    · obtain ⟨hk0, hk1⟩ := hk
      obtain ⟨q, rfl⟩ := Int.eq_ofNat_of_zero_le hk0
      clear hk0
      have hq1 : ¬ n < q := by omega
      have hq0 : ¬ (q : Int) < 0 := by omega
      go_wp2_with fail
      go_loopw [11] (fun i wr => ∃ j : Nat, j ≤ q ∧ i = .int .i64 j ∧ Below w.heap.size w wr ∧ ∀ i g, i < j → L[i]? = some g → isPn g = false) (fun i _ => q - (intOf i).toNat)
      case atStart => exact ⟨0, Nat.zero_le _, rfl, Below.refl _ _, fun i g h => absurd h (by omega)⟩
      case round =>
        obtain ⟨j, hj, rfl, hB, hno⟩ := hrel
        have HB := hide hB
        have HNO := hide hno
        clear hB hno
        by_cases hlt : j < q
        · have hkl : j < L.length := by have := HL.out; omega
          obtain ⟨b1, o1, rfl, hat⟩ := HR.out.at j hkl
          obtain ⟨f, hf⟩ : ∃ f, L[j] = f := ⟨_, rfl⟩
          obtain ⟨a0, a1, a2, a3, a4⟩ := hat.keep HB.out
          rw [hf] at a0 a1 a2 a3 a4
          have HF : Hid (L[j]? = some f) := by show _ = _; rw [List.getElem?_eq_getElem hkl, hf]
          clear hf hkl hat
          cases hp : isPn f
          · have HP := hide hp
            clear hp
            go_wp2_with (go_at_call 9; refine (isPn_is f _ false HP.out).mono ?_; rintro e w2 ⟨rfl, hB2⟩)
            have HB' := step HB hB2
            go_roundw
            case rel => exact ⟨j + 1, by omega, by go_num, HB'.out, no_next HNO.out HF.out HP.out⟩
            case measure => simp [intOf]; omega
          · have HP := hide hp
            clear hp
            go_wp2_with (go_at_call 9; refine (isPn_is f _ true HP.out).mono ?_; rintro e w2 ⟨rfl, hB2⟩)
            have HB' := step HB hB2
            go_ret
            exact ⟨rfl, HB'.out⟩
        · have hjq : j = q := by omega
          subst hjq
          clear hlt hj
          have HRr : Hid (Rd wr ao L) := HR.out.keep HB.out
          clear HR
          have hct := cut_to el22 sz22 ao n cap j (by omega)
          obtain ⟨so, hcf, hrd⟩ := cut_from el22 sz22 ao n cap j (j : Int) rfl (by omega) hcap
          obtain ⟨N, hN⟩ : ∃ N, n - j = N := ⟨_, rfl⟩
          obtain ⟨C, hC⟩ : ∃ C, cap - j = C := ⟨_, rfl⟩
          rw [hN, hC] at hcf
          have hNC : N ≤ C := by omega
          have hN2 : N ≤ 26214 := by omega
          have HN := hide hN
          have HD := hide hrd
          have HLd : Hid ((L.drop j).length = N) := by show _ = _; rw [List.length_drop, HL.out]; exact hN
          clear hrd hN hC
          go_wp2_with fail
          have HBa : Hid (Below wr.heap.size wr ((wr.alloc (gObj fi ab li)).alloc (gObj fi ab li)).drew) := (((Below.refl _ wr).alloc (Nat.le_refl _) _).alloc (by simp) _).drew
          have HR1 : Hid (Rd ((wr.alloc (gObj fi ab li)).alloc (gObj fi ab li)).drew ao (L.take j)) := (HRr.out.keep HBa.out).take j
          have HR2 : Hid (Rd ((wr.alloc (gObj fi ab li)).alloc (gObj fi ab li)).drew (some ⟨wr.heap.size + 1, 0, none⟩) [gFr fi ab li]) := rd_one (gFr fi ab li) (heap_alloc2_new _ _ _)
          have HG0 : Hid (At ((wr.alloc (gObj fi ab li)).alloc (gObj fi ab li)).drew wr.heap.size 0 (gFr fi ab li)) := at_of_block (gFr fi ab li) (heap_alloc2_old _ _ _)
          have HLt : Hid ((L.take j).length = j) := by show _ = _; rw [List.length_take, HL.out]; omega
          go_region_with (first
            | (go_at_call_of 10 (Value.slice ao j cap); refine (join_any ao _ j 1 cap 1 (L.take j) [gFr fi ab li] _ (by omega) (by omega) HLt.out rfl HR1.out HR2.out).mono ?_; rintro e wa ⟨ga, rfl, hra, hba⟩)
            | (go_at_call_of 10 (Value.slice so N C); refine (join_any _ so (j + 1) N (j + 1) C (L.take j ++ [gFr fi ab li]) (L.drop j) _ (by omega) (by omega) (by rw [List.length_append, HLt.out]; rfl) HLd.out hra (HD.out wa L HL.out (HRr.out.keep (HBa.out.trans (hba.mono HBa.out.size))))).mono ?_; rintro e wb ⟨gb, rfl, hrb, hbb⟩))
          have HBb : Hid (Below wr.heap.size wr wb) := HBa.out.trans ((hba.trans (hbb.mono hba.size)).mono HBa.out.size)
          have HBw : Hid (Below w.heap.size w wb) := HB.out.trans (HBb.out.mono HB.out.size)
          have HGb : Hid (At wb wr.heap.size 0 (gFr fi ab li)) := HG0.out.keep (hba.trans (hbb.mono hba.size))
          have HRs : Hid (Rd wb so (L.drop j)) := HD.out wb L HL.out (HRr.out.keep HBb.out)
          have HRb := hide hrb
          have HE : Hid (pf (L.take j ++ [gFr fi ab li] ++ L.drop j) = (L.drop j).dropWhile isRt) := pf_insert (by rw [HL.out]; omega) HNO.out (gFr_pn fi ab li)
          have HEl : Hid ((L.take j ++ [gFr fi ab li] ++ L.drop j).length = j + 1 + N) := by show _ = _; rw [List.length_append, List.length_append, HLt.out, HLd.out]; rfl
          clear hra hba hrb hbb HBa HR1 HR2 HG0 HLt HD HRr HBb HB HNO hct
          go_wp2_with fail
          refine (call_any _ (j + 1 + N) (j + 1 + N) _ _ (by omega) HEl.out HRb.out).mono ?_
          rintro e w5 ⟨gr, m, rfl, hm, hrr, hb5⟩
          rw [HE.out] at hm hrr
          have hmN : m ≤ N := by rw [← hm, ← HLd.out]; exact dw_len _
          obtain ⟨so2, hcf2, hrd2⟩ := cut_from el22 sz22 so N C (N - m) ((N : Int) - (m : Int)) (by omega) (by omega) hNC
          rw [show N - (N - m) = m by omega] at hcf2
          have HR2 : Hid (Rd w5 so2 ((L.drop j).dropWhile isRt)) := by
            have h := hrd2 w5 (L.drop j) HLd.out (HRs.out.keep hb5)
            have e := dw_drop (L.drop j)
            rw [HLd.out, hm] at e
            rw [e] at h
            exact h
          have HRs5 : Hid (Rd w5 so (L.drop j)) := HRs.out.keep hb5
          have HG5 : Hid (At w5 wr.heap.size 0 (gFr fi ab li)) := HGb.out.keep hb5
          have HBw5 := step HBw hb5
          have HMm := hide hm
          have HRr5 := hide hrr
          clear hm hrr hb5 hrd2 HRs HGb HBw HRb HE HEl
          go_wp2_with fail
          refine (same_true (some ⟨gr, 0, none⟩) so2 m m (C - (N - m)) _ _ (by omega) HMm.out HRr5.out HR2.out).mono ?_
          rintro e w6 ⟨rfl, hd6⟩
          have hB6 : Below w5.heap.size w5 w6 := by obtain ⟨d, hd⟩ := hd6; rw [hd]; exact below_n w5 d
          have HRs6 : Hid (Rd w6 so (L.drop j)) := HRs5.out.keep hB6
          have HRr6 : Hid (Rd w6 (some ⟨gr, 0, none⟩) ((L.drop j).dropWhile isRt)) := HRr5.out.keep hB6
          have HG6 : Hid (At w6 wr.heap.size 0 (gFr fi ab li)) := HG5.out.keep hB6
          have HBw6 := step HBw5 hB6
          clear hB6 hd6 HRs5 HRr5 HG5 HBw5 HR2 hcf2 hcf
          go_wp2_with fail
          go_loop [17] (fun i => ∃ a : Nat, a ≤ N - m ∧ i = .int .i64 a) (fun i => N - m - (intOf i).toNat)
          case atStart => exact ⟨0, Nat.zero_le _, rfl⟩
          case round =>
            obtain ⟨a, ha, rfl⟩ := hrel
            by_cases hlt : a < N - m
            · have hkl : a < (L.drop j).length := by have := HLd.out; omega
              obtain ⟨b1, o1, rfl, a0, a1, a2, a3, a4⟩ := HRs6.out.at a hkl
              have hrt : isRt (L.drop j)[a] = true := dw_front (L.drop j) a _ (by rw [HLd.out, HMm.out]; exact hlt) (List.getElem?_eq_getElem hkl)
              obtain ⟨f, hf⟩ : ∃ f, (L.drop j)[a] = f := ⟨_, rfl⟩
              rw [hf] at a1 hrt
              have h1 := rt_form hrt
              clear hf hkl a0 a2 a3 a4 hrt
              have i1 : (a : Int) < (N : Int) - (m : Int) := by omega
              have i2 : (a : Int) < (N : Int) := by omega
              go_wp2
              go_round
              case rel => exact ⟨a + 1, by omega, by go_num⟩
              case measure => simp [intOf]; omega
            · have i1 : ¬ (a : Int) < (N : Int) - (m : Int) := by omega
              have g0 : w6.cell? ⟨wr.heap.size, 0, none⟩ = some (.string ⟨#[103, 111, 112, 97, 110, 105, 99]⟩) := HG6.out.1
              have g1 : w6.cell? ⟨wr.heap.size, 1, none⟩ = some (.string ⟨#[114, 117, 110, 116, 105, 109, 101]⟩) := HG6.out.2.1
              have g2 : w6.cell? ⟨wr.heap.size, 2, none⟩ = some (.string fi) := HG6.out.2.2.1
              have g3 : w6.cell? ⟨wr.heap.size, 3, none⟩ = some (.string ab) := HG6.out.2.2.2.1
              have g4 : w6.cell? ⟨wr.heap.size, 4, none⟩ = some (.int .i64 li) := HG6.out.2.2.2.2
              have HBj : Hid (Below w6.heap.size w6 (w6.alloc (gObj fi ab li))) := (Below.refl _ w6).alloc (Nat.le_refl _) _
              have HJ1 : Hid (Rd (w6.alloc (gObj fi ab li)) (some ⟨w6.heap.size, 0, none⟩) [gFr fi ab li]) := rd_one (gFr fi ab li) (heap_alloc_new _ _)
              have HJ2 : Hid (Rd (w6.alloc (gObj fi ab li)) so (L.drop j)) := HRs6.out.keep HBj.out
              have HBw7 := step HBw6 HBj.out
              have HRr7 : Hid (Rd (w6.alloc (gObj fi ab li)) (some ⟨gr, 0, none⟩) ((L.drop j).dropWhile isRt)) := HRr6.out.keep HBj.out
              clear HG6 HBw6 HBj HRs6 ha hlt
              by_cases hm0 : m = 0
              · subst hm0
                go_wp2_with fail
                refine (join_any (some ⟨w6.heap.size, 0, none⟩) so 1 N 1 C [gFr fi ab li] (L.drop j) _ (by omega) (by omega) rfl HLd.out HJ1.out HJ2.out).mono ?_
                rintro e w8 ⟨gc, rfl, hrc, hb8⟩
                have HC8 := hide hrc
                have HBw8 := step HBw7 hb8
                have HRr8 : Hid (Rd w8 (some ⟨gr, 0, none⟩) ((L.drop j).dropWhile isRt)) := HRr7.out.keep hb8
                clear hrc hb8 HBw7 HRr7 HJ1 HJ2
                go_wp2_with fail
                refine (call_any _ (1 + N) (1 + N) ([gFr fi ab li] ++ L.drop j) _ (by omega) (by rw [List.length_append, HLd.out]; rfl) HC8.out).mono ?_
                rintro e w9 ⟨gd, m2, rfl, hm2, hrd, hb9⟩
                have e9 : pf ([gFr fi ab li] ++ L.drop j) = (L.drop j).dropWhile isRt := pf_cons (gFr_pn fi ab li) _
                rw [e9] at hm2 hrd
                obtain rfl : 0 = m2 := HMm.out.symm.trans hm2
                have HD9 := hide hrd
                have HBw9 := step HBw8 hb9
                have HRr9 : Hid (Rd w9 (some ⟨gr, 0, none⟩) ((L.drop j).dropWhile isRt)) := HRr8.out.keep hb9
                clear hm2 hrd hb9 HBw8 HRr8 HC8 e9
                go_wp2_with fail
                refine (same_true (some ⟨gr, 0, none⟩) (some ⟨gd, 0, none⟩) 0 0 0 _ _ (by omega) HMm.out HRr9.out HD9.out).mono ?_
                rintro e w10 ⟨rfl, d10, rfl⟩
                go_wp2
                go_ret
                exact ⟨rfl, (step HBw9 (below_n _ _)).out⟩
              · have hkl : 0 < ((L.drop j).dropWhile isRt).length := by rw [HMm.out]; omega
                obtain ⟨bb, oo, hbo, a0, a1, a2, a3, a4⟩ := HRr6.out.at 0 hkl
                have hrt : isRt ((L.drop j).dropWhile isRt)[0] = false := dw_head (L.drop j) _ (List.getElem?_eq_getElem hkl)
                obtain ⟨f, hf⟩ : ∃ f, ((L.drop j).dropWhile isRt)[0] = f := ⟨_, rfl⟩
                rw [hf] at a1 hrt
                have h1 := rt_form hrt
                have c1 : w6.cell? ⟨gr, 1, none⟩ = some (.string f.mo) := by
                  simp only [Option.some.injEq, Addr.mk.injEq, and_true] at hbo
                  obtain ⟨rfl, rfl⟩ := hbo
                  simpa using a1
                have i3 : (0 : Int) < (m : Int) := by omega
                clear a0 a1 a2 a3 a4 hbo hf hrt hkl
                go_wp2_with fail
                refine (join_any (some ⟨w6.heap.size, 0, none⟩) so 1 N 1 C [gFr fi ab li] (L.drop j) _ (by omega) (by omega) rfl HLd.out HJ1.out HJ2.out).mono ?_
                rintro e w8 ⟨gc, rfl, hrc, hb8⟩
                have HC8 := hide hrc
                have HBw8 := step HBw7 hb8
                have HRr8 : Hid (Rd w8 (some ⟨gr, 0, none⟩) ((L.drop j).dropWhile isRt)) := HRr7.out.keep hb8
                clear hrc hb8 HBw7 HRr7 HJ1 HJ2
                go_wp2_with fail
                refine (call_any _ (1 + N) (1 + N) ([gFr fi ab li] ++ L.drop j) _ (by omega) (by rw [List.length_append, HLd.out]; rfl) HC8.out).mono ?_
                rintro e w9 ⟨gd, m2, rfl, hm2, hrd, hb9⟩
                have e9 : pf ([gFr fi ab li] ++ L.drop j) = (L.drop j).dropWhile isRt := pf_cons (gFr_pn fi ab li) _
                rw [e9] at hm2 hrd
                obtain rfl : m = m2 := HMm.out.symm.trans hm2
                have HD9 := hide hrd
                have HBw9 := step HBw8 hb9
                have HRr9 : Hid (Rd w9 (some ⟨gr, 0, none⟩) ((L.drop j).dropWhile isRt)) := HRr8.out.keep hb9
                clear hm2 hrd hb9 HBw8 HRr8 HC8 e9
                go_wp2_with fail
                refine (same_true (some ⟨gr, 0, none⟩) (some ⟨gd, 0, none⟩) m m m _ _ (by omega) HMm.out HRr9.out HD9.out).mono ?_
                rintro e w10 ⟨rfl, d10, rfl⟩
                go_wp2
                go_ret
                exact ⟨rfl, (step HBw9 (below_n _ _)).out⟩
    · have HK := hide hk
      clear hk
      go_wp2_with fail
      all_goals first | (go_ret; exact ⟨rfl, Below.refl _ _⟩) | (exfalso; have := HK.out; omega)
  · clear hv
    go_wp2
    go_ret
    exact ⟨rfl, Below.refl _ _⟩

end Go.Proofs.Qxb6628401a
