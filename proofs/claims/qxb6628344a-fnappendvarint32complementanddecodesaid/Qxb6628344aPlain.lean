/-
  THE PLAIN MATHEMATICS OF THIS SEAT: the signed LEB128 form of a number, how long it is, what it reads back as, and that of its complement; the bitwise operations that the Go text uses, as arithmetic. Nothing of the program.
-/
import Derived.WalkKit
namespace Go.Proofs.Qxb6628344a

/-- Is v, of which c is the lowest group, written out by this one byte? -/
def fin (v : Int) : Bool := (decide (v / 128 = 0) && decide (v % 128 < 64)) || (decide (v / 128 = -1) && decide (64 ≤ v % 128))

/-- The bytes of v, at most f of them. -/
def leb : Nat → Int → List Int
  | 0, _ => []
  | f + 1, v => if fin v then [v % 128] else (v % 128 + 128) :: leb f (v / 128)

def bd : Nat → Int | 0 => 1 | n + 1 => 128 * bd n
/-- v fits into g + 1 groups -/
def fits (g : Nat) (v : Int) : Prop := -(64 * bd g) ≤ v ∧ v < 64 * bd g

theorem bd_pos (g : Nat) : 1 ≤ bd g := by
  induction g with
  | zero => exact Int.le_refl _
  | succ n ih => unfold bd; omega

theorem fin_iff (v : Int) : fin v = true ↔ -64 ≤ v ∧ v < 64 := by
  unfold fin
  simp only [Bool.or_eq_true, Bool.and_eq_true, decide_eq_true_eq]
  omega
theorem fin_false (v : Int) : fin v = false ↔ ¬ (-64 ≤ v ∧ v < 64) := by
  rw [← fin_iff]; simp

theorem fits_zero {v : Int} (h : fits 0 v) : fin v = true := by
  rw [fin_iff]; unfold fits bd at h; omega
theorem fits_step {g : Nat} {v : Int} (h : fits (g + 1) v) : fits g (v / 128) := by
  unfold fits at h ⊢
  have e : bd (g + 1) = 128 * bd g := rfl
  rw [e] at h
  omega
theorem fits_four {v : Int} (h0 : -2147483648 ≤ v) (h1 : v ≤ 2147483647) : fits 4 v := by
  have e : bd 4 = 268435456 := by decide
  unfold fits
  rw [e]
  omega

theorem leb_fin {f : Nat} {v : Int} (h : fin v = true) : leb (f + 1) v = [v % 128] := by simp [leb, h]
theorem leb_more {f : Nat} {v : Int} (h : fin v = false) : leb (f + 1) v = (v % 128 + 128) :: leb f (v / 128) := by simp [leb, h]

theorem leb_pos (f : Nat) (v : Int) : 1 ≤ (leb (f + 1) v).length := by
  cases h : fin v
  · rw [leb_more h]; simp
  · rw [leb_fin h]; simp

theorem leb_len_le (f : Nat) (v : Int) : (leb f v).length ≤ f := by
  induction f generalizing v with
  | zero => simp [leb]
  | succ f ih =>
    cases h : fin v
    · rw [leb_more h]; have := ih (v / 128); simp; omega
    · rw [leb_fin h]; simp

theorem leb_u8 (f : Nat) (v : Int) : ∀ x ∈ leb f v, 0 ≤ x ∧ x < 256 := by
  induction f generalizing v with
  | zero => simp [leb]
  | succ f ih =>
    intro x hx
    cases h : fin v
    · rw [leb_more h] at hx
      rcases List.mem_cons.1 hx with rfl | hx
      · omega
      · exact ih _ x hx
    · rw [leb_fin h] at hx
      simp at hx
      omega

/-- The least number of bytes. -/
def minLen (v : Int) : Nat := if -64 ≤ v ∧ v < 64 then 1 else if -8192 ≤ v ∧ v < 8192 then 2 else if -1048576 ≤ v ∧ v < 1048576 then 3 else if -134217728 ≤ v ∧ v < 134217728 then 4 else 5

theorem leb_len (v : Int) (h0 : -2147483648 ≤ v) (h1 : v ≤ 2147483647) : (leb 5 v).length = minLen v := by
  unfold minLen
  by_cases a1 : -64 ≤ v ∧ v < 64
  · rw [if_pos a1, leb_fin ((fin_iff _).2 a1)]; rfl
  · rw [if_neg a1, leb_more ((fin_false _).2 a1)]
    by_cases a2 : -8192 ≤ v ∧ v < 8192
    · rw [if_pos a2, leb_fin ((fin_iff _).2 (by omega))]; rfl
    · rw [if_neg a2, leb_more ((fin_false _).2 (by omega))]
      by_cases a3 : -1048576 ≤ v ∧ v < 1048576
      · rw [if_pos a3, leb_fin ((fin_iff _).2 (by omega))]; rfl
      · rw [if_neg a3, leb_more ((fin_false _).2 (by omega))]
        by_cases a4 : -134217728 ≤ v ∧ v < 134217728
        · rw [if_pos a4, leb_fin ((fin_iff _).2 (by omega))]; rfl
        · rw [if_neg a4, leb_more ((fin_false _).2 (by omega)), leb_fin ((fin_iff _).2 (by omega))]; rfl

/-- The other seven bits of a byte turned. -/
def flip7 (c : Int) : Int := if c < 128 then 127 - c else 383 - c

theorem leb_flip (f : Nat) (v : Int) : leb f (-1 - v) = (leb f v).map flip7 := by
  induction f generalizing v with
  | zero => rfl
  | succ f ih =>
    cases h : fin v
    · have h' : fin (-1 - v) = false := by rw [fin_false] at h ⊢; omega
      rw [leb_more h, leb_more h', List.map_cons, ← ih]
      have e1 : (-1 - v) / 128 = -1 - v / 128 := by omega
      rw [e1]
      congr 1
      unfold flip7
      rw [if_neg (by omega)]
      omega
    · have h' : fin (-1 - v) = true := by rw [fin_iff] at h ⊢; omega
      rw [leb_fin h, leb_fin h', List.map_cons, List.map_nil]
      congr 1
      unfold flip7
      rw [if_pos (by omega)]
      omega

theorem i32_and127 (n : Int) : bits .and .i32 n 127 = n % 128 := by
  have h127 : (BitVec.ofInt 32 127).toNat = 2 ^ 7 - 1 := by decide
  have key : (BitVec.ofInt 32 n &&& BitVec.ofInt 32 127).toNat = (n % ((2 ^ 32 : Nat) : Int)).toNat % 2 ^ 7 := by
    rw [BitVec.toNat_and, BitVec.toNat_ofInt, h127, Nat.and_two_pow_sub_one_eq_mod]
  show IntKind.i32.wrap ((BitVec.ofInt 32 n &&& BitVec.ofInt 32 127).toNat : Nat) = n % 128
  rw [key, IntKind.wrap_i32]
  omega

theorem i32_not (n : Int) (h0 : -2147483648 ≤ n) (h1 : n ≤ 2147483647) : bits .xor .i32 (-1) n = -1 - n := by
  have hm : (BitVec.ofInt 32 (-1)) = BitVec.allOnes 32 := by decide
  have key : (BitVec.ofInt 32 (-1) ^^^ BitVec.ofInt 32 n).toNat = 2 ^ 32 - 1 - (n % ((2 ^ 32 : Nat) : Int)).toNat := by
    rw [hm, BitVec.allOnes_xor, BitVec.toNat_not, BitVec.toNat_ofInt]
  show IntKind.i32.wrap ((BitVec.ofInt 32 (-1) ^^^ BitVec.ofInt 32 n).toNat : Nat) = -1 - n
  rw [key, IntKind.wrap_i32]
  omega

theorem all_byte {p : Int → Prop} (h : ∀ n : Fin 256, p (n.val : Int)) (c : Int) (h0 : 0 ≤ c) (h1 : c < 256) : p c := by
  obtain ⟨k, rfl⟩ := Int.eq_ofNat_of_zero_le h0
  exact h ⟨k, by omega⟩

theorem u8_and64 (c : Int) (h0 : 0 ≤ c) (h1 : c < 256) : bits .and .u8 c 64 = if 64 ≤ c % 128 then 64 else 0 :=
  all_byte (p := fun c => bits .and .u8 c 64 = if 64 ≤ c % 128 then 64 else 0) (by decide +kernel) c h0 h1
theorem u8_and128 (c : Int) (h0 : 0 ≤ c) (h1 : c < 256) : bits .and .u8 c 128 = if 128 ≤ c then 128 else 0 :=
  all_byte (p := fun c => bits .and .u8 c 128 = if 128 ≤ c then 128 else 0) (by decide +kernel) c h0 h1
theorem u8_and127 (c : Int) (h0 : 0 ≤ c) (h1 : c < 256) : bits .and .u8 c 127 = c % 128 :=
  all_byte (p := fun c => bits .and .u8 c 127 = c % 128) (by decide +kernel) c h0 h1
theorem u8_or128 (c : Int) (h0 : 0 ≤ c) (h1 : c < 128) : bits .or .u8 c 128 = c + 128 := u8_or128_right c h0 h1
theorem u8_xor127 (c : Int) (h0 : 0 ≤ c) (h1 : c < 256) : bits .xor .u8 c 127 = flip7 c :=
  all_byte (p := fun c => bits .xor .u8 c 127 = flip7 c) (by decide +kernel) c h0 h1

theorem wraps_i64 (n : Int) (h0 : 0 ≤ n) (h1 : n < 2 ^ 62) : IntKind.i64.wrap n = n := by rw [IntKind.wrap_i64]; omega
/-- an 'or' of parts that do not overlap -/
theorem i64_or (i : Nat) (x y : Int) (hi : i ≤ 40) (hx0 : 0 ≤ x) (hx : x < 2 ^ i) (hy0 : 0 ≤ y) (hy : y % 2 ^ i = 0) (hy1 : y < 2 ^ 62) : bits .or .i64 x y = x + y := by
  have hc : bits .or .i64 x y = bits .or .i64 y x := by simp only [bits, BitVec.or_comm]
  have hx1 : x < 2 ^ 62 := Int.lt_of_lt_of_le hx (by
    have : (2 : Nat) ^ i ≤ 2 ^ 62 := Nat.pow_le_pow_right (by decide) (by omega)
    exact_mod_cast this)
  rw [hc, bits_join .i64 62 (by decide) wraps_i64 i y x hy0 hy hy1 hx0 hx hx1]
  omega

end Go.Proofs.Qxb6628344a
