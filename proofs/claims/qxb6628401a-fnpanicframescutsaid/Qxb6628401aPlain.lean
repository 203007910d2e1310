/-
  THE PLAIN MATHEMATICS OF THIS SEAT: frames, and what panicFrames makes of a list of them; how a slice of frames lies in memory. Nothing of the program.
-/
import Derived.WalkKit
import Derived.Deep.OwnRows
import Derived.Deep.Draws
namespace Go.Proofs.Qxb6628401a
open Go.RowKit

structure Fr where
  fn : ByteArray
  mo : ByteArray
  fi : ByteArray
  ab : ByteArray
  li : Int

def Fr.zero : Fr := ⟨ByteArray.empty, ByteArray.empty, ByteArray.empty, ByteArray.empty, 0⟩

/-- the five cells of a frame -/
def At (w : World) (b o : Nat) (f : Fr) : Prop :=
  w.cell? ⟨b, o, none⟩ = some (.string f.fn) ∧ w.cell? ⟨b, o + 1, none⟩ = some (.string f.mo) ∧ w.cell? ⟨b, o + 2, none⟩ = some (.string f.fi) ∧ w.cell? ⟨b, o + 3, none⟩ = some (.string f.ab) ∧ w.cell? ⟨b, o + 4, none⟩ = some (.int .i64 f.li)

/-- a slice at ao reads as the frames L -/
def Rd (w : World) (ao : Option Addr) (L : List Fr) : Prop := ∀ i f, L[i]? = some f → ∃ b o, ao = some ⟨b, o, none⟩ ∧ At w b (o + i * 5) f

theorem lt_of_cell {w : World} {p : Addr} {v : Value} (h : w.cell? p = some v) : p.block < w.heap.size := by
  rcases Nat.lt_or_ge p.block w.heap.size with h' | h'
  · exact h'
  · have : w.heap[p.block]? = none := Array.getElem?_eq_none h'
    simp [World.cell?, this] at h

theorem At.keep {w w' : World} {b o : Nat} {f : Fr} (h : At w b o f) (hb : Below w.heap.size w w') : At w' b o f := by
  have hlt : b < w.heap.size := lt_of_cell h.1
  unfold At at h ⊢
  rw [hb.cell (p := ⟨b, o, none⟩) hlt, hb.cell (p := ⟨b, o + 1, none⟩) hlt, hb.cell (p := ⟨b, o + 2, none⟩) hlt, hb.cell (p := ⟨b, o + 3, none⟩) hlt, hb.cell (p := ⟨b, o + 4, none⟩) hlt]
  exact h

theorem Rd.keep {w w' : World} {ao : Option Addr} {L : List Fr} (h : Rd w ao L) (hb : Below w.heap.size w w') : Rd w' ao L := by
  intro i f hf
  obtain ⟨b, o, rfl, ha⟩ := h i f hf
  exact ⟨b, o, rfl, ha.keep hb⟩

theorem Rd.at {w : World} {ao : Option Addr} {L : List Fr} (h : Rd w ao L) (i : Nat) (hi : i < L.length) : ∃ b o, ao = some ⟨b, o, none⟩ ∧ At w b (o + i * 5) L[i] :=
  h i _ (List.getElem?_eq_getElem hi)

/-! ### what the program says of frames -/

/-- of module runtime -/
def isRt (f : Fr) : Bool := f.mo.toList == [114, 117, 110, 116, 105, 109, 101]
/-- its function is gopanic -/
def isGp (f : Fr) : Bool := f.fn.toList == [103, 111, 112, 97, 110, 105, 99]
/-- runtime.gopanic -/
def isPn (f : Fr) : Bool := isRt f && isGp f

/-- what stands behind the first gopanic frame -/
def after : List Fr → List Fr
  | [] => []
  | f :: t => if isPn f then t else after t

/-- what panicFrames answers -/
def pf (L : List Fr) : List Fr := if L.any isPn then (after L).dropWhile isRt else L

/-! ### rows that a call fills from the left -/

/-- block b is a row of n cells of type t, none frozen; the first k hold g -/
def Upto (w : World) (b t n k : Nat) (g : Nat → Value) : Prop := ∃ f, w.rowIs b t n f ∧ ∀ j, j < k → f j = g j

section
variable {w w' : World} {b t n k : Nat} {g : Nat → Value}
theorem Upto.cell (h : Upto w b t n k g) {i : Nat} (hi : i < k) (hn : i < n) : w.cell? ⟨b, i, none⟩ = some (g i) := by
  obtain ⟨f, hr, hf⟩ := h
  rw [hr.cell hn, hf i hi]
theorem Upto.there (h : Upto w b t n k g) {i : Nat} (hn : i < n) : ∃ v, w.cell? ⟨b, i, none⟩ = some v := by
  obtain ⟨f, hr, hf⟩ := h
  exact ⟨_, hr.cell hn⟩
theorem Upto.free (h : Upto w b t n k g) (i : Nat) : w.frozen? ⟨b, i, none⟩ = false := by
  obtain ⟨f, hr, hf⟩ := h
  exact hr.frozen i
theorem Upto.lt (h : Upto w b t n k g) : b < w.heap.size := by
  obtain ⟨f, hr, hf⟩ := h
  exact hr.lt
theorem Upto.push (h : Upto w b t n k g) {v : Value} (hv : v = g k) : Upto (w.setCell ⟨b, k, none⟩ v) b t n (k + 1) g := by
  obtain ⟨f, hr, hf⟩ := h
  refine ⟨_, hr.set k v, fun j hj => ?_⟩
  by_cases e : j = k
  · subst e; simp [hv]
  · simp only [if_neg e]; exact hf j (by omega)
theorem Upto.other (h : Upto w b t n k g) {a : Addr} (ha : b ≠ a.block) (v : Value) : Upto (w.setCell a v) b t n k g := by
  obtain ⟨f, hr, hf⟩ := h
  exact ⟨f, hr.setOther ha v, hf⟩
theorem Upto.keep (h : Upto w b t n k g) (hb : Below w.heap.size w w') : Upto w' b t n k g := by
  have hlt := h.lt
  obtain ⟨f, hr, hf⟩ := h
  exact ⟨f, hr.of_block (hb.block b hlt), hf⟩
theorem Upto.drewN (h : Upto w b t n k g) (m : Nat) : Upto (w.drewN m) b t n k g := h
end

/-- cell r of a frame -/
def Fr.cell (f : Fr) : Nat → Value
  | 0 => .string f.fn
  | 1 => .string f.mo
  | 2 => .string f.fi
  | 3 => .string f.ab
  | _ => .int .i64 f.li

/-- the cells of the frames L, one behind the other -/
def frow (L : List Fr) (j : Nat) : Value := (L.getD (j / 5) Fr.zero).cell (j % 5)

theorem frow_at {L : List Fr} {i : Nat} {f : Fr} (h : L[i]? = some f) (r : Nat) (hr : r < 5) : frow L (i * 5 + r) = f.cell r := by
  unfold frow
  have e1 : (i * 5 + r) / 5 = i := by omega
  have e2 : (i * 5 + r) % 5 = r := by omega
  rw [e1, e2, List.getD_eq_getElem?_getD, h]
  rfl

/-- a whole frame stored behind the first k -/
theorem Upto.push5 {w : World} {b t n k : Nat} {L : List Fr} {f : Fr} (h : Upto w b t n (k * 5) (frow L)) (hf : L[k]? = some f) :
    Upto (((((w.setCell ⟨b, k * 5, none⟩ (.string f.fn)).setCell ⟨b, k * 5 + 1, none⟩ (.string f.mo)).setCell ⟨b, k * 5 + 2, none⟩ (.string f.fi)).setCell ⟨b, k * 5 + 3, none⟩ (.string f.ab)).setCell ⟨b, k * 5 + 4, none⟩ (.int .i64 f.li)) b t n ((k + 1) * 5) (frow L) := by
  have h1 := h.push (v := .string f.fn) (by rw [← Nat.add_zero (k * 5), frow_at hf 0 (by omega)]; rfl)
  have h2 := h1.push (v := .string f.mo) (by rw [frow_at hf 1 (by omega)]; rfl)
  have h3 := h2.push (v := .string f.fi) (by rw [frow_at hf 2 (by omega)]; rfl)
  have h4 := h3.push (v := .string f.ab) (by rw [frow_at hf 3 (by omega)]; rfl)
  have h5 := h4.push (v := .int .i64 f.li) (by rw [frow_at hf 4 (by omega)]; rfl)
  have e : (k + 1) * 5 = k * 5 + 1 + 1 + 1 + 1 + 1 := by omega
  rw [e]
  exact h5

/-- a row that is full reads as its frames -/
theorem Upto.rd {w : World} {b t n : Nat} {L : List Fr} (h : Upto w b t n (L.length * 5) (frow L)) (hn : L.length * 5 ≤ n) : Rd w (some ⟨b, 0, none⟩) L := by
  intro i f hf
  have hlt := (List.getElem?_eq_some_iff.1 hf).1
  refine ⟨b, 0, rfl, ?_⟩
  have c : ∀ r, r < 5 → w.cell? ⟨b, i * 5 + r, none⟩ = some (f.cell r) := fun r hr => by
    rw [h.cell (by omega) (by omega), frow_at hf r hr]
  unfold At
  rw [Nat.zero_add]
  exact ⟨c 0 (by omega), c 1 (by omega), c 2 (by omega), c 3 (by omega), c 4 (by omega)⟩

/-- what make lays -/
theorem Upto.made {w : World} {base e g n size : Nat} {xs : List Value} {gf : Nat → Value} (h : w.ownsRow base e size (.slice (some ⟨g, 0, none⟩) n n) n xs) : Upto w g e (n * size) 0 gf := by
  rcases h.2 with ⟨h', _⟩ | ⟨g', cap', cur, h', _, hg, _, _, hcs, _⟩
  · simp at h'
  · simp only [Value.slice.injEq, Option.some.injEq, Addr.mk.injEq, and_true, true_and] at h'
    obtain ⟨rfl, rfl⟩ := h'
    refine ⟨fun i => cur[i]?.getD undef, ⟨cur, hg, hcs, fun i hi => ?_⟩, fun j hj => absurd hj (by omega)⟩
    have : i < cur.size := by omega
    simp [this]

end Go.Proofs.Qxb6628401a
