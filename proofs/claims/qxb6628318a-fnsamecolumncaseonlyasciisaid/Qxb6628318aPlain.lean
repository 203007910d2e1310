/-
  THE PLAIN MATHEMATICS OF THIS SEAT: lists of bytes, their lower case, cells that a loop fills one by one. Nothing of the program.
-/
import Derived.WalkKit
namespace Go.Proofs.Qxb6628318a

/-- An ASCII capital in lower case; any other byte itself. -/
def low (c : UInt8) : UInt8 := if 65 ≤ c.toNat ∧ c.toNat ≤ 90 then c + 32 else c
/-- An ASCII small letter in upper case; any other byte itself. -/
def upp (c : UInt8) : UInt8 := if 97 ≤ c.toNat ∧ c.toNat ≤ 122 then c - 32 else c
/-- The case of an ASCII letter turned. -/
def swp (c : UInt8) : UInt8 := if 97 ≤ c.toNat ∧ c.toNat ≤ 122 then c - 32 else if 65 ≤ c.toNat ∧ c.toNat ≤ 90 then c + 32 else c
/-- Is it an ASCII letter? -/
def isLet (c : UInt8) : Bool := decide ((97 ≤ c.toNat ∧ c.toNat ≤ 122) ∨ (65 ≤ c.toNat ∧ c.toNat ≤ 90))

theorem all_u8 {p : UInt8 → Prop} (h : ∀ n : Fin 256, p (UInt8.ofNat n.val)) (c : UInt8) : p c := by
  have := h ⟨c.toNat, c.toNat_lt⟩
  simpa using this

theorem low_upp (c : UInt8) : low (upp c) = low c := all_u8 (p := fun c => low (upp c) = low c) (by decide +kernel) c
theorem low_low (c : UInt8) : low (low c) = low c := all_u8 (p := fun c => low (low c) = low c) (by decide +kernel) c
theorem low_swp (c : UInt8) : low (swp c) = low c := all_u8 (p := fun c => low (swp c) = low c) (by decide +kernel) c
theorem low_hi (c : UInt8) : ¬ low (c ^^^ 128) = low c := all_u8 (p := fun c => ¬ low (c ^^^ 128) = low c) (by decide +kernel) c
theorem low_bit (c : UInt8) : decide (low c = low (c ^^^ 32)) = isLet c := all_u8 (p := fun c => decide (low c = low (c ^^^ 32)) = isLet c) (by decide +kernel) c

/-- Do the two name one column? -/
def same (a b : List UInt8) : Bool := decide (a.map low = b.map low)

theorem same_comm (a b : List UInt8) : same a b = same b a := by
  unfold same; exact decide_eq_decide.2 ⟨Eq.symm, Eq.symm⟩

theorem same_len {a b : List UInt8} (h : same a b = true) : a.length = b.length := by
  have := congrArg List.length (of_decide_eq_true h)
  simpa using this

theorem same_of_map {a b c d : List UInt8} (h1 : a.map low = c.map low) (h2 : b.map low = d.map low) : same a b = same c d := by
  unfold same; rw [h1, h2]

theorem same_cut (a b : List UInt8) (k : Nat) :
    same a b = (same (a.take k) (b.take k) && same (a.drop k) (b.drop k)) := by
  unfold same
  rw [Bool.eq_iff_iff]
  simp only [decide_eq_true_eq, Bool.and_eq_true]
  constructor
  · intro h
    exact ⟨by rw [List.map_take, List.map_take, h], by rw [List.map_drop, List.map_drop, h]⟩
  · rintro ⟨h1, h2⟩
    have e1 : a.map low = (a.take k).map low ++ (a.drop k).map low := by rw [← List.map_append, List.take_append_drop]
    have e2 : b.map low = (b.take k).map low ++ (b.drop k).map low := by rw [← List.map_append, List.take_append_drop]
    rw [e1, e2, h1, h2]

theorem same_false_len {a b : List UInt8} (h : a.length ≠ b.length) : same a b = false := by
  cases e : same a b with
  | false => rfl
  | true => exact absurd (same_len e) h

/-- one place where they part -/
theorem same_false_at {a b : List UInt8} (k : Nat) (ha : k < a.length) (hb : k < b.length) (h : low a[k] ≠ low b[k]) : same a b = false := by
  cases e : same a b with
  | false => rfl
  | true =>
    have e' : a.map low = b.map low := of_decide_eq_true e
    have : (a.map low)[k]? = (b.map low)[k]? := by rw [e']
    simp [ha, hb] at this
    exact absurd this h

/-- all places alike -/
theorem same_true_of {a b : List UInt8} (hl : a.length = b.length) (h : ∀ j (ha : j < a.length) (hb : j < b.length), low a[j] = low b[j]) : same a b = true := by
  apply decide_eq_true
  apply List.ext_getElem
  · simpa using hl
  · intro i h1 h2
    simp at h1 h2
    simpa using h i h1 h2

/-- The list whose place j holds f j. -/
def tab (f : Nat → UInt8) (n : Nat) : List UInt8 := (List.range n).map f
theorem tab_length (f : Nat → UInt8) (n : Nat) : (tab f n).length = n := by simp [tab]
theorem tab_get (f : Nat → UInt8) (n j : Nat) (h : j < (tab f n).length) : (tab f n)[j] = f j := by simp [tab]

/-- the cells of a row of n bytes of which the first k are filled by f and the rest hold nought -/
def filled (f : Nat → UInt8) (n k : Nat) : List Value := (List.range n).map fun j => if j < k then Value.int .u8 (f j).toNat else Value.int .u8 0

theorem filled_length (f : Nat → UInt8) (n k : Nat) : (filled f n k).length = n := by simp [filled]
theorem filled_zero (f : Nat → UInt8) (n : Nat) : filled f n 0 = List.replicate n (Value.int .u8 0) := by
  simp [filled, List.map_const']
theorem filled_set (f : Nat → UInt8) (n k : Nat) (v : Value) (hv : v = .int .u8 (f k).toNat) : (filled f n k).set k v = filled f n (k + 1) := by
  subst hv
  apply List.ext_getElem
  · simp [filled]
  · intro i h1 h2
    simp [filled] at h1 h2 ⊢
    rw [List.getElem_set]
    by_cases e : k = i
    · subst e; simp
    · simp [e]
      have : i < k + 1 ↔ i < k := by omega
      simp [this]
theorem filled_get (f : Nat → UInt8) (n j : Nat) (h : j < n) : (filled f n n)[j]? = some (.int .u8 ((tab f n)[j]'(by simp [tab]; exact h)).toNat) := by
  simp [filled, tab, h]
theorem filled_get_any (f : Nat → UInt8) (n k j : Nat) (h : j < n) : (filled f n k)[j]? = some (if j < k then Value.int .u8 (f j).toNat else Value.int .u8 0) := by
  simp [filled, h]

end Go.Proofs.Qxb6628318a
