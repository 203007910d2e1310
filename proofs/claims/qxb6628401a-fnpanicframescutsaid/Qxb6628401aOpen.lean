/-
  A SLICE OF FRAMES THAT CAME IN, OPENED: it reads as a list of frames.
-/
import Derived.Test.Qxb6628401aPlain
import Derived.Test.Qxb6628401aRows
import Derived.Deep.Slices
namespace Go.Proofs.Qxb6628401a
open Go.RowKit Go.Deep

theorem cells28 : Try.prog.cellsOf 28 = 5 := by kernel_rfl
theorem cells9 : Try.prog.cellsOf 9 = 1 := by kernel_rfl
theorem cells3 : Try.prog.cellsOf 3 = 1 := by kernel_rfl

theorem open_frames {H : Type} {enc : TypeId × Value → H} {w : World} {base : Nat} {spare : Nat → Bool} {held : Bool} {fuel : Nat} {ao : Option Addr} {len cap : Nat} {x : DataW H × List MemPlace} (hspare : ∀ b, spare b = true)
    (h : DataW.trod enc Try.prog w base spare held fuel 22 [.slice ao len cap] = some x) : ∃ L : List Fr, L.length = len ∧ len ≤ cap ∧ cap ≤ maxLen ∧ Rd w ao L := by
  rcases open_slice Try.underlying22 h with ⟨hcs, _⟩ | ⟨a, len', cap', m, n, D, Pl, hcs, _, hl, hm, hmm, _, hx⟩
  · simp only [List.cons.injEq, Value.slice.injEq, and_true] at hcs
    obtain ⟨rfl, rfl, rfl⟩ := hcs
    exact ⟨[], rfl, Nat.le_refl _, by unfold maxLen; omega, fun i f hf => by simp at hf⟩
  · simp only [List.cons.injEq, Value.slice.injEq, and_true] at hcs
    obtain ⟨rfl, rfl, rfl⟩ := hcs
    rw [hspare, if_pos rfl] at hmm
    subst hmm
    rw [cells28] at hx
    have each : ∀ i, i < len → ∃ f : Fr, w.cell? (a.add (i * 5)) = some (.string f.fn) ∧ w.cell? (a.add (i * 5 + 1)) = some (.string f.mo) ∧ w.cell? (a.add (i * 5 + 2)) = some (.string f.fi) ∧ w.cell? (a.add (i * 5 + 3)) = some (.string f.ab) ∧ w.cell? (a.add (i * 5 + 4)) = some (.int .i64 f.li) := by
      intro i hi
      obtain ⟨cs', h1, h2⟩ := hx i (by omega)
      obtain ⟨_, hlen, hcell⟩ := World.cells?_some h1
      obtain ⟨xs, k, hk, hxy, _, hxl, hf⟩ := DataW.trod_struct Try.underlying28 h2
      match xs, hxl, cs', hlen with
      | [y0, y1, y2, y3, y4], _, [v0, v1, v2, v3, v4], _ =>
        have g0 := hf 0 _ rfl
        have g1 := hf 1 _ rfl
        have g2 := hf 2 _ rfl
        have g3 := hf 3 _ rfl
        have g4 := hf 4 _ rfl
        simp [cells9, cells3] at g0 g1 g2 g3 g4
        obtain ⟨s0, e0, _, _⟩ := DataW.trod_string Try.underlying9 g0
        obtain ⟨s1, e1, _, _⟩ := DataW.trod_string Try.underlying9 g1
        obtain ⟨s2, e2, _, _⟩ := DataW.trod_string Try.underlying9 g2
        obtain ⟨s3, e3, _, _⟩ := DataW.trod_string Try.underlying9 g3
        obtain ⟨z4, e4, _, _⟩ := DataW.trod_int Try.underlying3 g4
        simp at e0 e1 e2 e3 e4
        subst e0 e1 e2 e3 e4
        have c0 := hcell 0 (by omega)
        have c1 := hcell 1 (by omega)
        have c2 := hcell 2 (by omega)
        have c3 := hcell 3 (by omega)
        have c4 := hcell 4 (by omega)
        rw [add_add] at c0 c1 c2 c3 c4
        exact ⟨⟨s0, s1, s2, s3, z4⟩, by simpa using c0, by simpa using c1, by simpa using c2, by simpa using c3, by simpa using c4⟩
    have pick : ∃ F : Nat → Fr, ∀ i, i < len → w.cell? (a.add (i * 5)) = some (.string (F i).fn) ∧ w.cell? (a.add (i * 5 + 1)) = some (.string (F i).mo) ∧ w.cell? (a.add (i * 5 + 2)) = some (.string (F i).fi) ∧ w.cell? (a.add (i * 5 + 3)) = some (.string (F i).ab) ∧ w.cell? (a.add (i * 5 + 4)) = some (.int .i64 (F i).li) := by
      refine ⟨fun i => if hi : i < len then Classical.choose (each i hi) else Fr.zero, fun i hi => ?_⟩
      simp only [dif_pos hi]
      exact Classical.choose_spec (each i hi)
    obtain ⟨F, hF⟩ := pick
    refine ⟨(List.range len).map F, by simp, hl, hm, ?_⟩
    intro i f hf
    have hi : i < len := by
      have := (List.getElem?_eq_some_iff.1 hf).1
      simpa using this
    have hfi : f = F i := by
      rw [List.getElem?_map, List.getElem?_range hi] at hf
      simpa using hf.symm
    subst hfi
    obtain ⟨b, o, spot⟩ := a
    have hspot : spot = none := by
      have := World.cell?_spot (hF 0 (by omega)).1
      simpa [Addr.add] using this
    subst hspot
    have plain : ∀ r, (⟨b, o, none⟩ : Addr).add r = ⟨b, o + r, none⟩ := fun r => by unfold Addr.add; split <;> simp_all
    obtain ⟨c0, c1, c2, c3, c4⟩ := hF i hi
    rw [plain] at c0 c1 c2 c3 c4
    exact ⟨b, o, rfl, c0, by rw [Nat.add_assoc]; exact c1, by rw [Nat.add_assoc]; exact c2, by rw [Nat.add_assoc]; exact c3, by rw [Nat.add_assoc]; exact c4⟩

end Go.Proofs.Qxb6628401a
