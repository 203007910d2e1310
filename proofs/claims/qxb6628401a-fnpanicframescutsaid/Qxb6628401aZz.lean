/-
  THE WALK OF ZZpanicFrames.
-/
import Derived.Test.Qxb6628401aPanic
import Derived.Test.Qxb6628401aJoin
namespace Go.Proofs.Qxb6628401a
open Go.RowKit

theorem info36 : (Try.prog.info? 36).map (fun i => (i.zero, i.size, i.bytes)) = some (some (.agg #[.string ⟨#[]⟩, .string ⟨#[]⟩, .string ⟨#[]⟩, .string ⟨#[]⟩, .int .i64 0]), 5, 72) := by kernel_rfl
theorem info9 : (Try.prog.info? 9).map (fun i => (i.zero, i.size, i.bytes)) = some (some (.string ⟨#[]⟩), 1, 16) := by kernel_rfl
theorem info3 : (Try.prog.info? 3).map (fun i => (i.zero, i.size, i.bytes)) = some (some (.int .i64 0), 1, 8) := by kernel_rfl

/-- a column of the frames L lies in block g -/
def Col (w : World) (g : Nat) (L : List Fr) (p : Fr → Value) : Prop := ∀ i f, L[i]? = some f → w.cell? ⟨g, i, none⟩ = some (p f)

theorem Col.keep {w w' : World} {g : Nat} {L : List Fr} {p : Fr → Value} (h : Col w g L p) (hb : Below w.heap.size w w') : Col w' g L p := by
  intro i f hf
  have := h i f hf
  rw [hb.cell (p := ⟨g, i, none⟩) (lt_of_cell this)]
  exact this

theorem Upto.drew {w : World} {b t n k : Nat} {g : Nat → Value} (h : Upto w b t n k g) : Upto w.drew b t n k g := h

theorem after_len : ∀ L : List Fr, (after L).length ≤ L.length
  | [] => Nat.le_refl _
  | f :: t => by
    have := after_len t
    unfold after
    split
    · simp
    · simp; omega

theorem pf_len (L : List Fr) : (pf L).length ≤ L.length := by
  unfold pf
  split
  · exact Nat.le_trans (List.dropWhile_sublist _).length_le (after_len L)
  · exact Nat.le_refl _

theorem Upto.alloc {w : World} {b t n k : Nat} {g : Nat → Value} (h : Upto w b t n k g) (o : Obj) : Upto (w.alloc o) b t n k g := by
  obtain ⟨f, hr, hf⟩ := h
  exact ⟨f, hr.alloc o, hf⟩
theorem Upto.fresh (w : World) (z : Value) (n t : Nat) (g : Nat → Value) : Upto (w.alloc (.cells (madeCells #[z] n) t)) w.heap.size t n 0 g :=
  ⟨_, World.rowIs_made w z n t, fun j hj => absurd hj (by omega)⟩

def colF (L : List Fr) (p : Fr → Value) (i : Nat) : Value := p (L.getD i Fr.zero)
theorem colF_at {L : List Fr} {i : Nat} {f : Fr} (p : Fr → Value) (h : L[i]? = some f) : colF L p i = p f := by
  unfold colF
  rw [List.getD_eq_getElem?_getD, h]
  rfl

/-- five columns, each filled up to k -/
structure Five (w : World) (H m k : Nat) (L : List Fr) : Prop where
  u0 : Upto w H 9 m k (colF L fun f => .string f.fn)
  u1 : Upto w (H + 1) 9 m k (colF L fun f => .string f.mo)
  u2 : Upto w (H + 1 + 1) 9 m k (colF L fun f => .string f.fi)
  u3 : Upto w (H + 1 + 1 + 1) 9 m k (colF L fun f => .string f.ab)
  u4 : Upto w (H + 1 + 1 + 1 + 1) 3 m k (colF L fun f => .int .i64 f.li)

theorem size_alloc (w : World) (o : Obj) : (w.alloc o).heap.size = w.heap.size + 1 := by simp

theorem Five.made (w : World) (z y : Value) (m : Nat) (L : List Fr) :
    Five (((((w.alloc (.cells (madeCells #[z] m) 9)).alloc (.cells (madeCells #[z] m) 9)).alloc (.cells (madeCells #[z] m) 9)).alloc (.cells (madeCells #[z] m) 9)).alloc (.cells (madeCells #[y] m) 3)) w.heap.size m 0 L := by
  have a0 := Upto.fresh w z m 9 (colF L fun f => .string f.fn)
  have a1 := Upto.fresh (w.alloc (.cells (madeCells #[z] m) 9)) z m 9 (colF L fun f => .string f.mo)
  have a2 := Upto.fresh ((w.alloc (.cells (madeCells #[z] m) 9)).alloc (.cells (madeCells #[z] m) 9)) z m 9 (colF L fun f => .string f.fi)
  have a3 := Upto.fresh (((w.alloc (.cells (madeCells #[z] m) 9)).alloc (.cells (madeCells #[z] m) 9)).alloc (.cells (madeCells #[z] m) 9)) z m 9 (colF L fun f => .string f.ab)
  have a4 := Upto.fresh ((((w.alloc (.cells (madeCells #[z] m) 9)).alloc (.cells (madeCells #[z] m) 9)).alloc (.cells (madeCells #[z] m) 9)).alloc (.cells (madeCells #[z] m) 9)) y m 3 (colF L fun f => .int .i64 f.li)
  simp only [size_alloc] at a1 a2 a3 a4
  exact ⟨(((a0.alloc _).alloc _).alloc _).alloc _, ((a1.alloc _).alloc _).alloc _, (a2.alloc _).alloc _, a3.alloc _, a4⟩

theorem Five.push {w : World} {H m k : Nat} {L : List Fr} {f : Fr} (h : Five w H m k L) (hf : L[k]? = some f) :
    Five (((((w.setCell ⟨H, k, none⟩ (.string f.fn)).setCell ⟨H + 1, k, none⟩ (.string f.mo)).setCell ⟨H + 1 + 1, k, none⟩ (.string f.fi)).setCell ⟨H + 1 + 1 + 1, k, none⟩ (.string f.ab)).setCell ⟨H + 1 + 1 + 1 + 1, k, none⟩ (.int .i64 f.li)) H m (k + 1) L := by
  refine ⟨?_, ?_, ?_, ?_, ?_⟩
  · exact ((((h.u0.push (colF_at _ hf).symm).other (by show H ≠ H + 1; omega) _).other (by show H ≠ H + 1 + 1; omega) _).other (by show H ≠ H + 1 + 1 + 1; omega) _).other (by show H ≠ H + 1 + 1 + 1 + 1; omega) _
  · exact ((((h.u1.other (by show H + 1 ≠ H; omega) _).push (colF_at _ hf).symm).other (by show H + 1 ≠ H + 1 + 1; omega) _).other (by show H + 1 ≠ H + 1 + 1 + 1; omega) _).other (by show H + 1 ≠ H + 1 + 1 + 1 + 1; omega) _
  · exact ((((h.u2.other (by show H + 1 + 1 ≠ H; omega) _).other (by show H + 1 + 1 ≠ H + 1; omega) _).push (colF_at _ hf).symm).other (by show H + 1 + 1 ≠ H + 1 + 1 + 1; omega) _).other (by show H + 1 + 1 ≠ H + 1 + 1 + 1 + 1; omega) _
  · exact ((((h.u3.other (by show H + 1 + 1 + 1 ≠ H; omega) _).other (by show H + 1 + 1 + 1 ≠ H + 1; omega) _).other (by show H + 1 + 1 + 1 ≠ H + 1 + 1; omega) _).push (colF_at _ hf).symm).other (by show H + 1 + 1 + 1 ≠ H + 1 + 1 + 1 + 1; omega) _
  · exact ((((h.u4.other (by show H + 1 + 1 + 1 + 1 ≠ H; omega) _).other (by show H + 1 + 1 + 1 + 1 ≠ H + 1; omega) _).other (by show H + 1 + 1 + 1 + 1 ≠ H + 1 + 1; omega) _).other (by show H + 1 + 1 + 1 + 1 ≠ H + 1 + 1 + 1; omega) _).push (colF_at (fun f => Value.int .i64 f.li) hf).symm

theorem Upto.col {w : World} {b t n : Nat} {L : List Fr} {p : Fr → Value} (h : Upto w b t n n (colF L p)) (hl : L.length = n) : Col w b L p := by
  intro i f hf
  have hlt := (List.getElem?_eq_some_iff.1 hf).1
  rw [h.cell (by omega) (by omega), colF_at p hf]

theorem below_five {w wr : World} {H : Nat} (h : Below w.heap.size w wr) (hH : w.heap.size ≤ H) (k : Nat) (v0 v1 v2 v3 v4 : Value) :
    Below w.heap.size w (((((wr.setCell ⟨H, k, none⟩ v0).setCell ⟨H + 1, k, none⟩ v1).setCell ⟨H + 1 + 1, k, none⟩ v2).setCell ⟨H + 1 + 1 + 1, k, none⟩ v3).setCell ⟨H + 1 + 1 + 1 + 1, k, none⟩ v4) :=
  ((((h.setCell (by exact hH) _).setCell (by show w.heap.size ≤ H + 1; omega) _).setCell (by show w.heap.size ≤ H + 1 + 1; omega) _).setCell (by show w.heap.size ≤ H + 1 + 1 + 1; omega) _).setCell (by show w.heap.size ≤ H + 1 + 1 + 1 + 1; omega) _

theorem below_five_alloc {w wr : World} (h : Below w.heap.size w wr) (o0 o1 o2 o3 o4 : Obj) : Below w.heap.size w (((((wr.alloc o0).alloc o1).alloc o2).alloc o3).alloc o4) := by
  have h0 := h.alloc h.size o0
  have h1 := h0.alloc h0.size o1
  have h2 := h1.alloc h1.size o2
  have h3 := h2.alloc h2.size o3
  exact h3.alloc h3.size o4

set_option maxRecDepth 100000 in
set_option maxHeartbeats 3200000 in
theorem zz_any (g0 g1 g2 g3 g4 n : Nat) (L : List Fr) (w : World) (hn : n ≤ 1048576) (hl : L.length = n)
    (c0 : Col w g0 L (fun f => .string f.fn)) (c1 : Col w g1 L (fun f => .string f.mo)) (c2 : Col w g2 L (fun f => .string f.fi)) (c3 : Col w g3 L (fun f => .string f.ab)) (c4 : Col w g4 L (fun f => .int .i64 f.li)) :
    Calls Try.prog 13 #[.slice (some ⟨g0, 0, none⟩) n n, .slice (some ⟨g1, 0, none⟩) n n, .slice (some ⟨g2, 0, none⟩) n n, .slice (some ⟨g3, 0, none⟩) n n, .slice (some ⟨g4, 0, none⟩) n n] w
      fun e w' => ∃ h0 h1 h2 h3 h4 m, e = .returned (.tuple #[.slice (some ⟨h0, 0, none⟩) m m, .slice (some ⟨h1, 0, none⟩) m m, .slice (some ⟨h2, 0, none⟩) m m, .slice (some ⟨h3, 0, none⟩) m m, .slice (some ⟨h4, 0, none⟩) m m]) ∧ (pf L).length = m ∧
        Col w' h0 (pf L) (fun f => .string f.fn) ∧ Col w' h1 (pf L) (fun f => .string f.mo) ∧ Col w' h2 (pf L) (fun f => .string f.fi) ∧ Col w' h3 (pf L) (fun f => .string f.ab) ∧ Col w' h4 (pf L) (fun f => .int .i64 f.li) ∧ Below w.heap.size w w' := by
  obtain ⟨i0, hi, hz0, hz1, hz2⟩ := info_parts info36
  have C0 := hide c0
  have C1 := hide c1
  have C2 := hide c2
  have C3 := hide c3
  have C4 := hide c4
  have HL := hide hl
  clear c0 c1 c2 c3 c4 hl
  go_enter Try.func13, Try.ntmps13
  go_wp2_with (at_make; refine wpList_make_full _ rfl _ _ 35 rfl w.heap.size 36 i0 _ 5 Try.underlying35 hi hz0 hz1 .i64 .i64 _ _ n rfl rfl (by omega) (by omega) (by rw [hz2]; omega) (by unfold maxLen; omega) (Nat.le_refl _) ?_; intro w1 hown hgrow)
  have HB1 : Hid (Below w.heap.size w w1) := (Below.refl _ _).grown hgrow (Nat.le_refl _) (fun k h => by cases h)
  have HU : Hid (Upto w1 w.heap.size 36 (n * 5) 0 (frow L)) := Upto.made hown
  clear hown hgrow hi hz0 hz1 hz2
  go_loopw [16] (fun i wr => ∃ k : Nat, k ≤ n ∧ i = .int .i64 k ∧ Upto wr w.heap.size 36 (n * 5) (k * 5) (frow L) ∧ Below w.heap.size w wr) (fun i _ => n - (intOf i).toNat)
  case atStart => exact ⟨0, Nat.zero_le _, rfl, by rw [Nat.zero_mul]; exact HU.out, HB1.out⟩
  case round =>
    clear HU HB1
    obtain ⟨k, hk, rfl, hU, hBel⟩ := hrel
    have HU := hide hU
    have HBel := hide hBel
    clear hU hBel
    by_cases hlt : k < n
    · have hkl : k < L.length := by have := HL.out; omega
      obtain ⟨f, hf⟩ : ∃ f, L[k]? = some f := ⟨_, List.getElem?_eq_getElem hkl⟩
      have HF := hide hf
      have d0 := C0.out.keep HBel.out k f hf
      have d1 := C1.out.keep HBel.out k f hf
      have d2 := C2.out.keep HBel.out k f hf
      have d3 := C3.out.keep HBel.out k f hf
      have d4 := C4.out.keep HBel.out k f hf
      clear hf hkl
      obtain ⟨v0, t0⟩ := HU.out.there (i := k * 5) (by omega)
      obtain ⟨v1, t1⟩ := HU.out.there (i := k * 5 + 1) (by omega)
      obtain ⟨v2, t2⟩ := HU.out.there (i := k * 5 + 2) (by omega)
      obtain ⟨v3, t3⟩ := HU.out.there (i := k * 5 + 3) (by omega)
      obtain ⟨v4, t4⟩ := HU.out.there (i := k * 5 + 4) (by omega)
      have f0 := HU.out.free (k * 5)
      have f1 := HU.out.free (k * 5 + 1)
      have f2 := HU.out.free (k * 5 + 2)
      have f3 := HU.out.free (k * 5 + 3)
      have f4 := HU.out.free (k * 5 + 4)
      have j0 : (k : Int) < (n : Int) := by omega
      go_wp2
      go_region
      go_wp2
      go_roundw
      case rel => exact ⟨k + 1, by omega, by go_num, Upto.drew (HU.out.push5 HF.out), (below5 HBel.out (Nat.le_refl _) _ _ _ _ _ _ _ _ _ _).drew⟩
      case measure => simp [intOf]; omega
    · have hkn : k = n := by omega
      subst hkn
      have HR : Hid (Rd wr (some ⟨w.heap.size, 0, none⟩) L) := Upto.rd (t := 36) (n := k * 5) (by rw [HL.out]; exact HU.out) (by rw [HL.out]; omega)
      clear HU hlt hk C0 C1 C2 C3 C4
      go_wp2_with (go_at_call 14; refine (panic_any _ k k L _ (by omega) (by omega) (by omega) HL.out HR.out).mono ?_; rintro e w2 ⟨⟨ro, m, d, rfl, hm, hmd, hrd⟩, hB2⟩; refine Hid.out ?_)
      refine hide ?_
      have hm2 : m ≤ 1048576 := by rw [← hm]; exact Nat.le_trans (pf_len L) (by rw [HL.out]; exact hn)
      have HB2 : Hid (Below w.heap.size w w2) := HBel.out.trans (hB2.mono HBel.out.size)
      have HM := hide hm
      have HRd := hide hrd
      clear HBel hB2 hm hrd HR
      have mk9 := run_make_row' (P := Try.prog) 31 9 (.string ⟨#[]⟩) 16 Try.underlying31 info9 rfl .i64 .i64 m (by omega) (by omega)
      have mk3 := run_make_row' (P := Try.prog) 32 3 (.int .i64 0) 8 Try.underlying32 info3 rfl .i64 .i64 m (by omega) (by omega)
      go_wp2
      have HB3 : Hid (w.heap.size ≤ w2.heap.size) := HB2.out.size
      clear mk9 mk3
      go_loopw [23] (fun i wr => ∃ j : Nat, j ≤ m ∧ i = .int .i64 j ∧ Five wr w2.heap.size m j (pf L) ∧ Below w2.heap.size w2 wr) (fun i _ => m - (intOf i).toNat)
      case atStart => exact ⟨0, Nat.zero_le _, rfl, Five.made _ _ _ _ _, below_five_alloc (Below.refl _ _) _ _ _ _ _⟩
      case round =>
        obtain ⟨j, hj, rfl, h5, hBel⟩ := hrel
        have H5 := hide h5
        have HBel := hide hBel
        clear h5 hBel
        by_cases hlt : j < m
        · have hkl : j < (pf L).length := by have := HM.out; omega
          obtain ⟨b1, o1, rfl, hat⟩ := HRd.out.at j hkl
          have hb1 : b1 < w2.heap.size := lt_of_cell hat.1
          obtain ⟨a0, a1, a2, a3, a4⟩ := hat.keep HBel.out
          obtain ⟨f, hf⟩ : ∃ f, (pf L)[j] = f := ⟨_, rfl⟩
          rw [hf] at a0 a1 a2 a3 a4
          have HF : Hid ((pf L)[j]? = some f) := by show _ = _; rw [List.getElem?_eq_getElem hkl, hf]
          obtain ⟨v0, t0⟩ := H5.out.u0.there (i := j) hlt
          obtain ⟨v1, t1⟩ := H5.out.u1.there (i := j) hlt
          obtain ⟨v2, t2⟩ := H5.out.u2.there (i := j) hlt
          obtain ⟨v3, t3⟩ := H5.out.u3.there (i := j) hlt
          obtain ⟨v4, t4⟩ := H5.out.u4.there (i := j) hlt
          have f0 := H5.out.u0.free j
          have f1 := H5.out.u1.free j
          have f2 := H5.out.u2.free j
          have f3 := H5.out.u3.free j
          have f4 := H5.out.u4.free j
          clear hf hkl hat
          have n0 : ¬ b1 = w2.heap.size := by omega
          have n1 : ¬ b1 = w2.heap.size + 1 := by omega
          have n2 : ¬ b1 = w2.heap.size + 1 + 1 := by omega
          have n3 : ¬ b1 = w2.heap.size + 1 + 1 + 1 := by omega
          go_wp2
          go_roundw
          case rel => exact ⟨j + 1, by omega, by go_num, H5.out.push HF.out, below_five HBel.out (Nat.le_refl _) _ _ _ _ _ _⟩
          case measure => simp [intOf]; omega
        · have hjn : j = m := by omega
          subst hjn
          go_wp2
          refine bodyPost_ret (v := .tuple #[.slice (some ⟨w2.heap.size, 0, none⟩) j j, .slice (some ⟨w2.heap.size + 1, 0, none⟩) j j, .slice (some ⟨w2.heap.size + 1 + 1, 0, none⟩) j j, .slice (some ⟨w2.heap.size + 1 + 1 + 1, 0, none⟩) j j, .slice (some ⟨w2.heap.size + 1 + 1 + 1 + 1, 0, none⟩) j j]) (by simp [results, Try.results13, go_sem]) rfl ?_
          exact ⟨_, _, _, _, _, j, rfl, HM.out, H5.out.u0.col HM.out, H5.out.u1.col HM.out, H5.out.u2.col HM.out, H5.out.u3.col HM.out, H5.out.u4.col HM.out, HB2.out.trans (HBel.out.mono HB3.out)⟩

end Go.Proofs.Qxb6628401a
