/-
  THE LAW FnPanicFramesCut: a cut out of range; and all cases together.
-/
import Derived.Test.Qxb6628401aCutV1
import Derived.Test.Qxb6628401aCutV2
import Derived.Test.Qxb6628401aCutV3
import Derived.Test.Qxb6628401aCutV4
namespace Go.Proofs.Qxb6628401a
open Go.RowKit

set_option maxRecDepth 100000 in
set_option maxHeartbeats 1600000 in
theorem cut_out (ao : Option Addr) (n cap : Nat) (c : Int) (L : List Fr) (w : World) (hcap : n ≤ cap) (hcap2 : cap ≤ maxLen) (hl : L.length = n) (hr : Rd w ao L) (hc : ¬ (0 ≤ c ∧ c ≤ (n : Int))) :
    Calls Try.prog 3 #[.slice ao n cap, .int .i64 c] w fun e w' => e = .returned (.bool true) ∧ Below w.heap.size w w' := by
  have HR := hide hr
  have HL := hide hl
  have HM : Hid (n ≤ maxLen) := Nat.le_trans hcap hcap2
  have HK := hide hc
  clear hr hl hc hcap2
  go_enter Try.func3, Try.ntmps3
  go_wp2_with (go_at_call 5; refine (bytes1 ao n cap _ L _ HM.out HL.out HR.out).mono ?_; rintro e w' ⟨⟨v, rfl, hv⟩, rfl⟩; refine Hid.out ?_)
  refine hide ?_
  cases v
  · clear hv
    go_wp2
    go_ret
    exact ⟨rfl, Below.refl _ _⟩
  obtain ⟨hn, hsm⟩ := hv rfl
  have HS := hide hsm
  clear hv hsm
  go_wp2_with (go_at_call 6; refine (tooBig ao n cap 0 L _ hn (by omega) (by omega) HL.out HR.out HS.out).mono ?_; rintro e w' ⟨⟨v, rfl, hv⟩, rfl⟩; refine Hid.out ?_)
  refine hide ?_
  cases v
  case true =>
    clear hv
    go_wp2
    go_ret
    exact ⟨rfl, Below.refl _ _⟩
  clear hv HS
  go_wp2_with fail
  all_goals first | (go_ret; exact ⟨rfl, Below.refl _ _⟩) | (exfalso; have := HK.out; omega)

theorem cut_main (ao : Option Addr) (n cap : Nat) (c : Int) (L : List Fr) (w : World) (hcap : n ≤ cap) (hcap2 : cap ≤ maxLen) (hl : L.length = n) (hr : Rd w ao L) :
    Calls Try.prog 3 #[.slice ao n cap, .int .i64 c] w fun e w' => e = .returned (.bool true) ∧ Below w.heap.size w w' := by
  by_cases hc : 0 ≤ c ∧ c ≤ (n : Int)
  · obtain ⟨q, rfl⟩ := Int.eq_ofNat_of_zero_le hc.1
    have hq : q ≤ n := by omega
    cases hP : (L.take q).any isPn
    · cases hS : (L.drop q).any isPn
      · exact cut_v2 ao n cap q L w hcap hcap2 hl hr hq hP hS
      · exact cut_v1 ao n cap q L w hcap hcap2 hl hr hq hP hS
    · by_cases hp : pf (L.take q) = []
      · exact cut_v4 ao n cap q L w hcap hcap2 hl hr hq hP hp
      · exact cut_v3 ao n cap q L w hcap hcap2 hl hr hq hP hp
  · exact cut_out ao n cap c L w hcap hcap2 hl hr hc

end Go.Proofs.Qxb6628401a
