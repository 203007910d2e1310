/-
  SMALL THINGS THAT BOTH LAWS SHARE: the inserted frame, a frame in a block of its own.
-/
import Derived.Test.Qxb6628401aWalks
import Derived.Test.Qxb6628401aPanic
namespace Go.Proofs.Qxb6628401a
open Go.RowKit

theorem step {w w1 w2 : World} (h1 : Hid (Below w.heap.size w w1)) (h2 : Below w1.heap.size w1 w2) : Hid (Below w.heap.size w w2) :=
  hide (h1.out.trans (h2.mono h1.out.size))

/-- the inserted frame -/
def gFr (fi ab : ByteArray) (li : Int) : Fr := ⟨⟨#[103, 111, 112, 97, 110, 105, 99]⟩, ⟨#[114, 117, 110, 116, 105, 109, 101]⟩, fi, ab, li⟩
theorem rt_lit : ((⟨#[114, 117, 110, 116, 105, 109, 101]⟩ : ByteArray).toList == [114, 117, 110, 116, 105, 109, 101]) = true := by decide +kernel
theorem gp_lit : ((⟨#[103, 111, 112, 97, 110, 105, 99]⟩ : ByteArray).toList == [103, 111, 112, 97, 110, 105, 99]) = true := by decide +kernel
def gObj (fi ab : ByteArray) (li : Int) : Obj := .cells #[.string ⟨#[103, 111, 112, 97, 110, 105, 99]⟩, .string ⟨#[114, 117, 110, 116, 105, 109, 101]⟩, .string fi, .string ab, .int .i64 li] 28
theorem gFr_pn (fi ab : ByteArray) (li : Int) : isPn (gFr fi ab li) = true := by
  have h1 : isRt (gFr fi ab li) = true := rt_lit
  have h2 : isGp (gFr fi ab li) = true := gp_lit
  unfold isPn
  rw [h1, h2]
  rfl

theorem isPn_is (f : Fr) (w : World) (v : Bool) (hv : isPn f = v) : Calls Try.prog 9 #[.agg #[.string f.fn, .string f.mo, .string f.fi, .string f.ab, .int .i64 f.li]] w fun e w' => e = .returned (.bool v) ∧ Below w.heap.size w w' := by
  subst hv
  exact isPn_any f w

theorem at_of_block {W : World} {b : Nat} (f : Fr) {t : TypeId} {fr : Nat × Nat} (h : W.heap[b]? = some (.cells #[.string f.fn, .string f.mo, .string f.fi, .string f.ab, .int .i64 f.li] t fr)) : At W b 0 f := by
  unfold At
  simp [World.cell?, h]

/-- a frame in a block of its own -/
theorem rd_one {W : World} {b : Nat} (f : Fr) {t : TypeId} {fr : Nat × Nat} (h : W.heap[b]? = some (.cells #[.string f.fn, .string f.mo, .string f.fi, .string f.ab, .int .i64 f.li] t fr)) : Rd W (some ⟨b, 0, none⟩) [f] := by
  intro i g hg
  match i, hg with
  | 0, hg =>
    simp at hg
    subst hg
    refine ⟨b, 0, rfl, ?_⟩
    unfold At
    simp [World.cell?, h]

theorem pf_none_any {L : List Fr} (h : ∀ (i : Nat) f, L[i]? = some f → isPn f = false) : L.any isPn = false := by
  cases e : L.any isPn
  · rfl
  · obtain ⟨f, hf, hp⟩ := List.any_eq_true.1 e
    obtain ⟨i, hi⟩ := List.getElem?_of_mem hf
    rw [h i f hi] at hp
    cases hp

end Go.Proofs.Qxb6628401a
