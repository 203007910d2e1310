/-
  THE WALKS OF THIS SEAT.
-/
import Derived.Test.Qxb6628387aRows
import Derived.Test.Qxb6628387aPlain
import Derived.WalkKit
import Derived.WalkSpells
namespace Go.Proofs.Qxb6628387a
open Go.RowKit

theorem hide {p : Prop} (h : p) : Hid p := h
theorem ret_bool {a b : Bool} (h : a = b) : Ending.returned (.bool a) = .returned (.bool b) := by rw [h]

theorem allows_any (x y : Int) (w : World) : Calls Try.prog 4 #[.int .u16 x, .int .u16 y] w fun e w' => e = .returned (.bool (allows x y)) ∧ w = w' := by
  obtain ⟨p, hp⟩ : ∃ p, (bits .and .u16 x 256 != 0) = p := ⟨_, rfl⟩
  obtain ⟨q, hq⟩ : ∃ q, (y != 0) = q := ⟨_, rfl⟩
  obtain ⟨r, hr⟩ : ∃ r, (bits .and .u16 x 128 == 0) = r := ⟨_, rfl⟩
  obtain ⟨s, hs⟩ : ∃ s, (bits .and .u16 x y == y) = s := ⟨_, rfl⟩
  have HA : Hid (allows x y = (p || (q && r && s))) := by show _ = _; unfold allows; rw [hp, hq, hr, hs]
  cases p <;> cases q <;> cases r
  all_goals
    go_enter Try.func4, Try.ntmps4
    go_wp2
    go_ret
    exact ⟨ret_bool (by rw [HA.out]; rfl), rfl⟩

theorem allows_is (x y : Int) (w : World) (v : Bool) (hv : allows x y = v) : Calls Try.prog 4 #[.int .u16 x, .int .u16 y] w fun e w' => e = .returned (.bool v) ∧ w = w' := by
  subst hv
  exact allows_any x y w

set_option maxHeartbeats 800000 in
theorem main_walk (c a b : Int) (w : World) (c0 : 0 ≤ c) (c1 : c ≤ 65535) (a0 : 0 ≤ a) (a1 : a ≤ 65535) (b0 : 0 ≤ b) (b1 : b ≤ 65535) (ha : (a == 0) = false) (hb : (b == 0) = false) :
    Calls Try.prog 3 #[.int .u16 c, .int .u16 a, .int .u16 b] w fun e w' => e = .returned (.bool true) ∧ w = w' := by
  obtain ⟨p, hp⟩ : ∃ p, allows c a = p := ⟨_, rfl⟩
  obtain ⟨q, hq⟩ : ∃ q, allows c b = q := ⟨_, rfl⟩
  have HP := hide hp
  have HQ := hide hq
  have HS : Hid (allows c (bits .or .u16 a b) = (p && q)) := by
    show _ = _
    rw [← hp, ← hq]
    exact split_int c a b c0 c1 a0 a1 b0 b1 (by simpa using ha) (by simpa using hb)
  have HD := hide (deny_int c a b c0 c1 a0 a1 b0 b1)
  have HR := hide (root_int c a c0 c1 a0 a1)
  clear hp hq
  cases p
  · go_enter Try.func3, Try.ntmps3
    go_wp2_with fail
    refine (allows_is _ _ _ false HS.out).mono ?_
    rintro e w' ⟨rfl, rfl⟩
    go_wp2_with fail
    refine (allows_is _ _ _ false HP.out).mono ?_
    rintro e w' ⟨rfl, rfl⟩
    go_wp2_with fail
    refine (allows_is _ _ _ _ HD.out).mono ?_
    rintro e w' ⟨rfl, rfl⟩
    go_wp2_with fail
    refine (allows_is _ _ _ true HR.out).mono ?_
    rintro e w' ⟨rfl, rfl⟩
    go_wp2
    go_ret
    exact ⟨rfl, rfl⟩
  · cases q
    all_goals
      go_enter Try.func3, Try.ntmps3
      go_wp2_with fail
      refine (allows_is _ _ _ _ HS.out).mono ?_
      rintro e w' ⟨rfl, rfl⟩
      go_wp2_with fail
      refine (allows_is _ _ _ true HP.out).mono ?_
      rintro e w' ⟨rfl, rfl⟩
      go_wp2_with fail
      refine (allows_is _ _ _ _ HQ.out).mono ?_
      rintro e w' ⟨rfl, rfl⟩
      go_wp2_with fail
      refine (allows_is _ _ _ _ HD.out).mono ?_
      rintro e w' ⟨rfl, rfl⟩
      go_wp2_with fail
      refine (allows_is _ _ _ true HR.out).mono ?_
      rintro e w' ⟨rfl, rfl⟩
      go_wp2
      go_ret
      exact ⟨rfl, rfl⟩

end Go.Proofs.Qxb6628387a
