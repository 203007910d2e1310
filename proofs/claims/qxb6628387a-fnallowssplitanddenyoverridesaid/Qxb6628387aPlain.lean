/-
  THE PLAIN MATHEMATICS OF THIS SEAT: sets of capabilities as sixteen bits. Nothing of the program.
-/
import Derived.WalkKit
namespace Go.Proofs.Qxb6628387a

/-- What 'Allows' answers. -/
def allows (x y : Int) : Bool := (bits .and .u16 x 256 != 0) || ((y != 0) && (bits .and .u16 x 128 == 0) && (bits .and .u16 x y == y))

theorem wrap_small (n : Nat) (h : n < 65536) : IntKind.u16.wrap (n : Int) = (n : Int) := by
  simp [IntKind.wrap, IntKind.bits, IntKind.signed]
  omega

theorem and_bv (x y : BitVec 16) : bits .and .u16 (x.toNat : Int) (y.toNat : Int) = ((x &&& y).toNat : Int) := by
  show IntKind.u16.wrap ((BitVec.ofInt 16 (x.toNat : Int) &&& BitVec.ofInt 16 (y.toNat : Int)).toNat : Nat) = _
  simp only [BitVec.ofInt_natCast, BitVec.ofNat_toNat, BitVec.setWidth_eq]
  exact wrap_small _ (x &&& y).isLt
theorem or_bv (x y : BitVec 16) : bits .or .u16 (x.toNat : Int) (y.toNat : Int) = ((x ||| y).toNat : Int) := by
  show IntKind.u16.wrap ((BitVec.ofInt 16 (x.toNat : Int) ||| BitVec.ofInt 16 (y.toNat : Int)).toNat : Nat) = _
  simp only [BitVec.ofInt_natCast, BitVec.ofNat_toNat, BitVec.setWidth_eq]
  exact wrap_small _ (x ||| y).isLt

theorem bv_of (x : Int) (h0 : 0 ≤ x) (h1 : x ≤ 65535) : ∃ b : BitVec 16, x = (b.toNat : Int) := by
  obtain ⟨n, rfl⟩ := Int.eq_ofNat_of_zero_le h0
  exact ⟨BitVec.ofNat 16 n, by rw [BitVec.toNat_ofNat, Nat.mod_eq_of_lt (by omega)]⟩

theorem nat_eq (x y : BitVec 16) : ((x.toNat : Int) == (y.toNat : Int)) = decide (x = y) := by
  rw [Bool.eq_iff_iff]
  simp only [beq_iff_eq, decide_eq_true_eq]
  exact ⟨fun h => BitVec.eq_of_toNat_eq (by omega), fun h => by rw [h]⟩

theorem lit256 : (256 : Int) = ((256#16).toNat : Int) := rfl
theorem lit128 : (128 : Int) = ((128#16).toNat : Int) := rfl
theorem lit0 : (0 : Int) = ((0#16).toNat : Int) := rfl

def allowsB (x y : BitVec 16) : Bool := !decide (x &&& 256#16 = 0#16) || (!decide (y = 0#16) && decide (x &&& 128#16 = 0#16) && decide (x &&& y = y))

theorem allows_bv (x y : BitVec 16) : allows (x.toNat : Int) (y.toNat : Int) = allowsB x y := by
  unfold allows allowsB
  rw [lit256, lit128, lit0, and_bv, and_bv, and_bv]
  simp only [bne, nat_eq]

theorem and_split (c a b : BitVec 16) : (c &&& (a ||| b) = a ||| b) ↔ (c &&& a = a) ∧ (c &&& b = b) := by
  constructor
  · intro h
    have key : ∀ x : BitVec 16, (a ||| b) &&& x = x → c &&& x = x := by
      intro x hx
      calc c &&& x = c &&& ((a ||| b) &&& x) := by rw [hx]
        _ = (c &&& (a ||| b)) &&& x := by rw [BitVec.and_assoc]
        _ = (a ||| b) &&& x := by rw [h]
        _ = x := hx
    constructor
    · apply key; ext i; simp; intro h; simp [h]
    · apply key; ext i; simp; intro h; simp [h]
  · rintro ⟨h1, h2⟩
    have : c &&& (a ||| b) = (c &&& a) ||| (c &&& b) := by ext i; simp; cases c[i] <;> simp
    rw [this, h1, h2]

theorem or_zero {a b : BitVec 16} (h : a ||| b = 0#16) : a = 0#16 := by
  apply BitVec.eq_of_getElem_eq
  intro i hi
  have := congrArg (fun z : BitVec 16 => z[i]) h
  simp at this
  simp [this.1]

theorem split_law (c a b : BitVec 16) (ha : a ≠ 0#16) (hb : b ≠ 0#16) : allowsB c (a ||| b) = (allowsB c a && allowsB c b) := by
  unfold allowsB
  have hab : ¬ (a ||| b = 0#16) := fun h => ha (or_zero h)
  have h1 : decide (c &&& (a ||| b) = a ||| b) = (decide (c &&& a = a) && decide (c &&& b = b)) := by
    rw [Bool.eq_iff_iff]
    simp only [decide_eq_true_eq, Bool.and_eq_true]
    exact and_split c a b
  rw [h1, decide_eq_false hab, decide_eq_false ha, decide_eq_false hb]
  cases decide (c &&& 256#16 = 0#16) <;> cases decide (c &&& 128#16 = 0#16) <;> cases decide (c &&& a = a) <;> cases decide (c &&& b = b) <;> rfl

theorem distrib (x y z : BitVec 16) : (x ||| y) &&& z = (x &&& z) ||| (y &&& z) := by
  ext i; simp; cases z[i] <;> simp

theorem deny_law (c y : BitVec 16) : allowsB (c ||| 128#16) y = !decide (c &&& 256#16 = 0#16) := by
  unfold allowsB
  have h1 : (c ||| 128#16) &&& 256#16 = c &&& 256#16 := by
    rw [distrib]
    have e : 128#16 &&& 256#16 = 0#16 := by decide
    rw [e, BitVec.or_zero]
  have h2 : ¬ ((c ||| 128#16) &&& 128#16 = 0#16) := by
    intro h
    have := congrArg (fun z : BitVec 16 => z.getLsbD 7) h
    simp at this
  rw [h1, decide_eq_false h2]
  cases decide (c &&& 256#16 = 0#16) <;> simp

theorem root_law (c y : BitVec 16) : allowsB (c ||| 256#16) y = true := by
  unfold allowsB
  have h2 : ¬ ((c ||| 256#16) &&& 256#16 = 0#16) := by
    intro h
    have := congrArg (fun z : BitVec 16 => z.getLsbD 8) h
    simp at this
  rw [decide_eq_false h2]
  rfl

/-! the same, said of the numbers -/

theorem split_int (c a b : Int) (c0 : 0 ≤ c) (c1 : c ≤ 65535) (a0 : 0 ≤ a) (a1 : a ≤ 65535) (b0 : 0 ≤ b) (b1 : b ≤ 65535) (ha : a ≠ 0) (hb : b ≠ 0) : allows c (bits .or .u16 a b) = (allows c a && allows c b) := by
  obtain ⟨c, rfl⟩ := bv_of c c0 c1
  obtain ⟨a, rfl⟩ := bv_of a a0 a1
  obtain ⟨b, rfl⟩ := bv_of b b0 b1
  rw [or_bv, allows_bv, allows_bv, allows_bv]
  exact split_law c a b (fun h => ha (by rw [h]; rfl)) (fun h => hb (by rw [h]; rfl))

theorem deny_int (c a b : Int) (c0 : 0 ≤ c) (c1 : c ≤ 65535) (a0 : 0 ≤ a) (a1 : a ≤ 65535) (b0 : 0 ≤ b) (b1 : b ≤ 65535) : allows (bits .or .u16 c 128) (bits .or .u16 a b) = (bits .and .u16 c 256 != 0) := by
  obtain ⟨c, rfl⟩ := bv_of c c0 c1
  obtain ⟨a, rfl⟩ := bv_of a a0 a1
  obtain ⟨b, rfl⟩ := bv_of b b0 b1
  rw [lit128, lit256, lit0, or_bv, or_bv, allows_bv, and_bv, deny_law]
  simp only [bne, nat_eq]

theorem root_int (c a : Int) (c0 : 0 ≤ c) (c1 : c ≤ 65535) (a0 : 0 ≤ a) (a1 : a ≤ 65535) : allows (bits .or .u16 c 256) a = true := by
  obtain ⟨c, rfl⟩ := bv_of c c0 c1
  obtain ⟨a, rfl⟩ := bv_of a a0 a1
  rw [lit256, or_bv, allows_bv]
  exact root_law c a

end Go.Proofs.Qxb6628387a
