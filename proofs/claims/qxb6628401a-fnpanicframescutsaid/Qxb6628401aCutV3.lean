/-
  THE LAW FnPanicFramesCut, WALKED OUT OF ITS CALLEES' CONTRACTS: a panic in the front, something of it left.
-/
import Derived.Test.Qxb6628401aCall
import Derived.Test.Qxb6628401aBytes
import Derived.Test.Qxb6628401aLaws
import Derived.Test.Qxb6628401aCutBase
namespace Go.Proofs.Qxb6628401a
open Go.RowKit

set_option maxRecDepth 100000 in
set_option maxHeartbeats 6400000 in
theorem cut_v3 (ao : Option Addr) (n cap q : Nat) (L : List Fr) (w : World) (hcap : n ≤ cap) (hcap2 : cap ≤ maxLen) (hl : L.length = n) (hr : Rd w ao L) (hq : q ≤ n) (hP0 : (L.take q).any isPn = true) (hS0 : pf (L.take q) ≠ []) :
    Calls Try.prog 3 #[.slice ao n cap, .int .i64 q] w fun e w' => e = .returned (.bool true) ∧ Below w.heap.size w w' := by
  have HR := hide hr
  have HL := hide hl
  have HM : Hid (n ≤ maxLen) := Nat.le_trans hcap hcap2
  have HTD : Hid (L.take q ++ L.drop q = L) := List.take_append_drop q L
  have HP0 := hide hP0
  have HS0 := hide hS0
  have HA : Hid (L.any isPn = true) := by show _ = _; rw [← HTD.out, List.any_append, hP0]; rfl
  clear hP0 hS0
  unfold maxLen at hcap2
  clear hr hl
  go_enter Try.func3, Try.ntmps3
  go_wp2_with (go_at_call 5; refine (bytes1 ao n cap _ L _ HM.out HL.out HR.out).mono ?_; rintro e w' ⟨⟨v, rfl, hv⟩, rfl⟩; refine Hid.out ?_)
  refine hide ?_
  cases v
  · clear hv
    go_wp2
    go_ret
    exact ⟨rfl, Below.refl _ _⟩
  obtain ⟨hn, hsm⟩ := hv rfl
  have HS := hide hsm
  clear hv hsm
  go_wp2_with (go_at_call 6; refine (tooBig ao n cap 0 L _ hn (by omega) (by omega) HL.out HR.out HS.out).mono ?_; rintro e w' ⟨⟨v, rfl, hv⟩, rfl⟩; refine Hid.out ?_)
  refine hide ?_
  cases v
  case true =>
    clear hv
    go_wp2
    go_ret
    exact ⟨rfl, Below.refl _ _⟩
  have hbd := hv rfl
  clear hv HS
  have hn2 : n ≤ 26214 := by omega
  clear hbd
  have hq1 : ¬ n < q := by omega
  have hq0 : ¬ (q : Int) < 0 := by omega
  go_wp2_with fail
  refine (call_any ao n cap L _ (by omega) HL.out HR.out).mono ?_
  rintro e w1 ⟨gr, m, rfl, hm, hrr, hb1⟩
  have hmn : m ≤ n := by rw [← hm, ← HL.out]; exact pf_len L
  have HMm := hide hm
  have HB1 := hide hb1
  have HR1 : Hid (Rd w1 ao L) := HR.out.keep hb1
  have HRr1 := hide hrr
  have HSf : Hid (pf L = L.drop (n - m)) := by show _ = _; have := pf_suffix L; rw [HL.out, hm] at this; exact this
  clear hm hb1 hrr HR
  go_wp2_with fail
  refine (suffix_true (some ⟨gr, 0, none⟩) ao m n m cap (pf L) L _ (by omega) hmn hcap HMm.out HL.out HSf.out HRr1.out HR1.out).mono ?_
  rintro e w2 ⟨rfl, hd2⟩
  have hB2 : Below w1.heap.size w1 w2 := by obtain ⟨d, hd⟩ := hd2; rw [hd]; exact below_n w1 d
  have HB2 := step HB1 hB2
  have HR2 : Hid (Rd w2 ao L) := HR1.out.keep hB2
  have HRr2 : Hid (Rd w2 (some ⟨gr, 0, none⟩) (pf L)) := HRr1.out.keep hB2
  clear hB2 hd2 HB1 HR1 HRr1 HSf
  go_wp2_with fail
  go_loopw [6, 7] (fun hs i wr => ∃ k : Nat, k ≤ n ∧ hs = .bool false ∧ i = .int .i64 k ∧ Below w2.heap.size w2 wr ∧ ∀ i g, i < k → L[i]? = some g → isPn g = false) (fun _ i _ => n - (intOf i).toNat)
  case atStart => exact ⟨0, Nat.zero_le _, rfl, rfl, Below.refl _ _, fun i g h => absurd h (by omega)⟩
  case round =>
    obtain ⟨k, hk, rfl, rfl, hB, hno⟩ := hrel
    have HB := hide hB
    have HNO := hide hno
    clear hB hno
    by_cases hlt : k < n
    · have hkl : k < L.length := by have := HL.out; omega
      obtain ⟨b1, o1, hfo, hat⟩ := HR2.out.at k hkl
      obtain ⟨f, hf⟩ : ∃ f, L[k] = f := ⟨_, rfl⟩
      obtain ⟨a0, a1, a2, a3, a4⟩ := hat.keep HB.out
      rw [hf] at a0 a1 a2 a3 a4
      have HF : Hid (L[k]? = some f) := by show _ = _; rw [List.getElem?_eq_getElem hkl, hf]
      clear hf hkl hat
      have j0 : (k : Int) < (n : Int) := by omega
      cases hp : isPn f
      · have HP := hide hp
        clear hp
        subst hfo
        go_wp2_with (go_at_call 9; refine (isPn_is f _ false HP.out).mono ?_; rintro e wy ⟨rfl, hBy⟩)
        have HB' := step HB hBy
        go_roundw
        case rel => exact ⟨k + 1, by omega, rfl, by go_num, HB'.out, no_next HNO.out HF.out HP.out⟩
        case measure => simp [intOf]; omega
      · have HP := hide hp
        clear hp
        have HFO := hide hfo
        subst hfo
        go_wp2_with (go_at_call 9; refine (isPn_is f _ true HP.out).mono ?_; rintro e wz ⟨rfl, hBz⟩; refine Hid.out ?_)
        refine hide ?_
        have HBz : Hid (Below w2.heap.size w2 wz) := step HB hBz
        clear hBz HB a0 a1 a2 a3 a4 HP HF HNO hlt hk j0 HFO
        have HBw := step HB2 HBz.out
        have HRl : Hid (Rd wz (some ⟨b1, o1, none⟩) L) := HR2.out.keep HBz.out
        have HRr : Hid (Rd wz (some ⟨gr, 0, none⟩) (pf L)) := HRr2.out.keep HBz.out
        clear HBz HB2 HR2 HRr2
        have hct := cut_to el22 sz22 (some ⟨b1, o1, none⟩) n cap q (by omega)
        obtain ⟨so, hcf, hrd⟩ := cut_from el22 sz22 (some ⟨b1, o1, none⟩) n cap q (q : Int) rfl (by omega) hcap
        obtain ⟨N, hN⟩ : ∃ N, n - q = N := ⟨_, rfl⟩
        obtain ⟨C, hC⟩ : ∃ C, cap - q = C := ⟨_, rfl⟩
        rw [hN, hC] at hcf
        have hNC : N ≤ C := by omega
        have hN2 : N ≤ 26214 := by omega
        have HN := hide hN
        have HLd : Hid ((L.drop q).length = N) := by show _ = _; rw [List.length_drop, HL.out]; exact hN
        have HLt : Hid ((L.take q).length = q) := by show _ = _; rw [List.length_take, HL.out]; omega
        have HRs : Hid (Rd wz so (L.drop q)) := hrd wz L HL.out HRl.out
        have HRp : Hid (Rd wz (some ⟨b1, o1, none⟩) (L.take q)) := HRl.out.take q
        clear hrd hN hC
        have hml : m < n := by rw [← HMm.out, ← HL.out]; exact pf_lt HA.out
        by_cases hm0 : m = 0
        · subst hm0
          go_wp2_with fail
          refine (call_any (some ⟨b1, o1, none⟩) q cap (L.take q) _ (by omega) HLt.out HRp.out).mono ?_
          rintro e wp ⟨gp, mp, rfl, hmp, hrp, hbp⟩
          have HRl1 : Hid (Rd wp (some ⟨b1, o1, none⟩) L) := HRl.out.keep hbp
          have HRr1 : Hid (Rd wp (some ⟨gr, 0, none⟩) (pf L)) := HRr.out.keep hbp
          have HRs1 : Hid (Rd wp so (L.drop q)) := HRs.out.keep hbp
          have HBp := step HBw hbp
          have HMp := hide hmp
          have HRp1 := hide hrp
          clear hbp hmp hrp HRl HRr HRs HBw HRp
          go_wp2_with fail
          refine (call_any so N C (L.drop q) _ (by omega) HLd.out HRs1.out).mono ?_
          rintro e ws ⟨gs, ms, rfl, hms, hrs, hbs⟩
          have HRl2 : Hid (Rd ws (some ⟨b1, o1, none⟩) L) := HRl1.out.keep hbs
          have HRr2 : Hid (Rd ws (some ⟨gr, 0, none⟩) (pf L)) := HRr1.out.keep hbs
          have HRs2 : Hid (Rd ws so (L.drop q)) := HRs1.out.keep hbs
          have HRp2 : Hid (Rd ws (some ⟨gp, 0, none⟩) (pf (L.take q))) := HRp1.out.keep hbs
          have HBs := step HBp hbs
          have HMs := hide hms
          have HRS := hide hrs
          clear hbs hms hrs HRl1 HRr1 HRs1 HRp1 HBp
          have hmpq : mp < q := by have h := pf_lt HP0.out; rw [HMp.out, HLt.out] at h; exact h
          have hmp0 : 0 < mp := by rw [← HMp.out]; exact List.length_pos_iff.2 HS0.out
          have HE : Hid (pf L = pf (L.take q) ++ L.drop q) := cut_law3 HP0.out HS0.out
          have i5 : ((mp : Int) == (q : Int)) = false := by simp; omega
          have i6 : (0 : Int) < (mp : Int) := by omega
          have hml2 : mp + N = 0 := by rw [← HMm.out, HE.out, List.length_append, HMp.out, HLd.out]
          have HML := hide hml2
          clear hml2
          go_wp2_with fail
          refine (join_any (some ⟨gp, 0, none⟩) so mp N mp C (pf (L.take q)) (L.drop q) _ (by omega) (by omega) HMp.out HLd.out HRp2.out HRs2.out).mono ?_
          rintro e wj ⟨gj, rfl, hrj, hbj⟩
          rw [HML.out]
          rw [← HE.out] at hrj
          have HRj := hide hrj
          have HBj := step HBs hbj
          have HRr3 : Hid (Rd wj (some ⟨gr, 0, none⟩) (pf L)) := HRr2.out.keep hbj
          clear hrj hbj
          go_wp2_with fail
          refine (same_true (some ⟨gr, 0, none⟩) (some ⟨gj, 0, none⟩) 0 0 0 (pf L) _ (by omega) HMm.out HRr3.out HRj.out).mono ?_
          rintro e wf ⟨rfl, df, rfl⟩
          go_wp2
          go_ret
          exact ⟨rfl, (step HBj (below_n _ _)).out⟩
        · have hkl : 0 < (pf L).length := by rw [HMm.out]; omega
          obtain ⟨bb, oo, hbo, a0, a1, a2, a3, a4⟩ := HRr.out.at 0 hkl
          have hrt : isRt (pf L)[0] = false := pf_head HA.out _ (List.getElem?_eq_getElem hkl)
          obtain ⟨f0, hf0⟩ : ∃ f, (pf L)[0] = f := ⟨_, rfl⟩
          rw [hf0] at a1 hrt
          have h1 := rt_form hrt
          have c1 : wz.cell? ⟨gr, 1, none⟩ = some (.string f0.mo) := by
            simp only [Option.some.injEq, Addr.mk.injEq, and_true] at hbo
            obtain ⟨rfl, rfl⟩ := hbo
            simpa using a1
          have i3 : (0 : Int) < (m : Int) := by omega
          clear a0 a1 a2 a3 a4 hbo hf0 hrt hkl
          go_wp2_with fail
          refine (call_any (some ⟨b1, o1, none⟩) q cap (L.take q) _ (by omega) HLt.out HRp.out).mono ?_
          rintro e wp ⟨gp, mp, rfl, hmp, hrp, hbp⟩
          have HRl1 : Hid (Rd wp (some ⟨b1, o1, none⟩) L) := HRl.out.keep hbp
          have HRr1 : Hid (Rd wp (some ⟨gr, 0, none⟩) (pf L)) := HRr.out.keep hbp
          have HRs1 : Hid (Rd wp so (L.drop q)) := HRs.out.keep hbp
          have HBp := step HBw hbp
          have HMp := hide hmp
          have HRp1 := hide hrp
          clear hbp hmp hrp HRl HRr HRs HBw HRp
          go_wp2_with fail
          refine (call_any so N C (L.drop q) _ (by omega) HLd.out HRs1.out).mono ?_
          rintro e ws ⟨gs, ms, rfl, hms, hrs, hbs⟩
          have HRl2 : Hid (Rd ws (some ⟨b1, o1, none⟩) L) := HRl1.out.keep hbs
          have HRr2 : Hid (Rd ws (some ⟨gr, 0, none⟩) (pf L)) := HRr1.out.keep hbs
          have HRs2 : Hid (Rd ws so (L.drop q)) := HRs1.out.keep hbs
          have HRp2 : Hid (Rd ws (some ⟨gp, 0, none⟩) (pf (L.take q))) := HRp1.out.keep hbs
          have HBs := step HBp hbs
          have HMs := hide hms
          have HRS := hide hrs
          clear hbs hms hrs HRl1 HRr1 HRs1 HRp1 HBp
          have hmpq : mp < q := by have h := pf_lt HP0.out; rw [HMp.out, HLt.out] at h; exact h
          have hmp0 : 0 < mp := by rw [← HMp.out]; exact List.length_pos_iff.2 HS0.out
          have HE : Hid (pf L = pf (L.take q) ++ L.drop q) := cut_law3 HP0.out HS0.out
          have i5 : ((mp : Int) == (q : Int)) = false := by simp; omega
          have i6 : (0 : Int) < (mp : Int) := by omega
          have hml2 : mp + N = m := by rw [← HMm.out, HE.out, List.length_append, HMp.out, HLd.out]
          have HML := hide hml2
          clear hml2
          go_wp2_with fail
          refine (join_any (some ⟨gp, 0, none⟩) so mp N mp C (pf (L.take q)) (L.drop q) _ (by omega) (by omega) HMp.out HLd.out HRp2.out HRs2.out).mono ?_
          rintro e wj ⟨gj, rfl, hrj, hbj⟩
          rw [HML.out]
          rw [← HE.out] at hrj
          have HRj := hide hrj
          have HBj := step HBs hbj
          have HRr3 : Hid (Rd wj (some ⟨gr, 0, none⟩) (pf L)) := HRr2.out.keep hbj
          clear hrj hbj
          go_wp2_with fail
          refine (same_true (some ⟨gr, 0, none⟩) (some ⟨gj, 0, none⟩) m m m (pf L) _ (by omega) HMm.out HRr3.out HRj.out).mono ?_
          rintro e wf ⟨rfl, df, rfl⟩
          go_wp2
          go_ret
          exact ⟨rfl, (step HBj (below_n _ _)).out⟩

    · exfalso
      have h := pf_none_any (fun i g hg => HNO.out i g (by have := (List.getElem?_eq_some_iff.1 hg).1; have := HL.out; omega) hg)
      rw [HA.out] at h
      cases h

end Go.Proofs.Qxb6628401a
