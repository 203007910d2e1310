/-
  MORE WALKS OF THIS SEAT's CALLEES: zzCloneBytesB1, the bounds.
-/
import Derived.Test.Qxb6628344aWalks2
import Derived.Laws.CopyOwn
namespace Go.Proofs.Qxb6628344a
open Go.RowKit

theorem size5 : (Try.prog.info? 5).map (·.size) = some 1 := by kernel_rfl

/-- What is known of the slice that came in. -/
def Src (w : World) (a : Option Addr) (len cap : Nat) (zs : List Int) : Prop :=
  zs.length = len ∧ ((a = none ∧ len = 0 ∧ cap = 0) ∨ ∃ x, a = some x ∧ ∀ i, i < len → w.cell? (x.add i) = some (.int .u8 (zs.getD i 0)))

theorem B8_get {zs : List Int} {j : Nat} {v : Value} (h : (B8 zs)[j]? = some v) : j < zs.length ∧ v = .int .u8 (zs.getD j 0) := by
  unfold B8 at h
  rw [List.getElem?_map] at h
  cases e : zs[j]? with
  | none => rw [e] at h; simp at h
  | some x =>
    rw [e] at h
    simp at h
    refine ⟨(List.getElem?_eq_some_iff.1 e).1, ?_⟩
    rw [← h, List.getD_eq_getElem?_getD, e]
    rfl

theorem B8_length (zs : List Int) : (B8 zs).length = zs.length := by simp [B8]
theorem B8_one (zs : List Int) : ∀ v ∈ B8 zs, v.oneCell' = true := by
  intro v hv
  simp [B8] at hv
  obtain ⟨x, -, rfl⟩ := hv
  rfl

theorem own_block {w : World} {base e g n : Nat} {xs : List Value} (h : w.ownsRow base e 1 (.slice (some ⟨g, 0, none⟩) n n) n xs) : ∃ cur, w.heap[g]? = some (.cells cur e (0, 0)) ∧ cur.size = n := by
  rcases h.2 with ⟨h', _⟩ | ⟨g', cap', cur, h', _, hg, _, _, hcs, _⟩
  · simp at h'
  · simp only [Value.slice.injEq, Option.some.injEq, Addr.mk.injEq, and_true, true_and] at h'
    obtain ⟨rfl, rfl⟩ := h'
    exact ⟨cur, hg, by simpa using hcs⟩

theorem own_of_block {w : World} {base e g n : Nat} {L xs : List Value} (h : w.heap[g]? = some (.cells L.toArray e (0, 0))) (hL : L = xs) (hn : xs.length = n) (hb : base ≤ g) (hm : n ≤ maxLen) : w.ownsRow base e 1 (.slice (some ⟨g, 0, none⟩) n n) n xs := by
  subst hL
  exact ⟨by omega, .inr ⟨g, n, _, rfl, hb, h, Nat.le_refl _, hm, by simpa using hn, by simpa using List.take_of_length_le (by omega)⟩⟩

theorem add_block (x : Addr) (j : Nat) : (x.add j).block = x.block := by unfold Addr.add; split <;> rfl

set_option maxHeartbeats 800000 in
theorem clone_some (x : Addr) (len cap : Nat) (zs : List Int) (w : World) (hl : zs.length = len) (hlen : len ≤ 1048576) (hx : len ≠ 0 → x.block < w.heap.size)
    (hc : ∀ i, i < len → w.cell? (x.add i) = some (.int .u8 (zs.getD i 0))) :
    Calls Try.prog 6 #[.slice (some x) len cap] w fun e w' => e = .returned (.slice (some ⟨w.heap.size, 0, none⟩) len len) ∧ w'.ownsRow w.heap.size 5 1 (.slice (some ⟨w.heap.size, 0, none⟩) len len) len (B8 zs) ∧ Below w.heap.size w w' := by
  obtain ⟨i0, hi, hz0, hz1, hz2⟩ := info_parts info5
  have hnil := fun w' => Lib.run_eql_slice_nil (P := Try.prog) w' 22 5 (some x) len cap 0 0 Try.underlying22
  simp only [Option.isNone_some] at hnil
  go_enter Try.func6, Try.ntmps6
  go_wp2_with (at_make; refine wpList_make_full _ rfl _ _ 22 rfl w.heap.size 5 i0 (.int .u8 0) 1 Try.underlying22 hi hz0 hz1 .i64 .i64 _ _ len rfl rfl rfl rfl (by rw [hz2]; omega) (by unfold maxLen; omega) (Nat.le_refl _) ?_; intro w1 hown hgrow; refine Hid.out ?_)
  refine hide ?_
  have hB1 : Below w.heap.size w w1 := (Below.refl _ _).grown hgrow (Nat.le_refl _) (fun k h => by cases h)
  obtain ⟨cur, hg, hcs⟩ := own_block hown
  have HG := hide hg
  have HB := hide hB1
  have hcl : (B8 zs).length = Nat.min len len := by rw [B8_length, hl]; simp
  have HC : Hid (∀ j v, (B8 zs)[j]? = some v → w1.cell? (x.add j) = some v) := by
    intro j v hv
    obtain ⟨h1, rfl⟩ := B8_get hv
    rw [hB1.cell (by rw [add_block]; exact hx (by omega))]
    exact hc j (by omega)
  have HL := hide hcl
  have HLL := hide hl
  clear hg hown hgrow hB1 hi hz0 hz1 hz2 hc hcl hl
  go_wp2_with (refine wpList_copy_splice rfl (.tmp 9) (.tmp 10) 22 22 rfl 5 Try.underlying22 size5 (some ⟨w.heap.size, 0, none⟩) (some x) len len len cap rfl rfl w.heap.size 0 cur.toList 5 (by simpa using HG.out) (B8 zs) HL.out ?_ ?_ (B8_one zs) w.heap.size w HB.out (Nat.le_refl _) ?_)
  · intro _
    first | exact HC.out | exact ⟨rfl, x, rfl, HC.out⟩
  · rw [B8_length, HLL.out]; simp; omega
  · intro w2 hg2 hB2
    have HG2 := hide hg2
    clear hg2
    go_wp2
    go_ret
    refine ⟨rfl, ?_, hB2⟩
    have e : splice cur.toList 0 (B8 zs) = B8 zs := by
      unfold splice
      rw [List.take_zero, List.nil_append, List.drop_of_length_le (by rw [B8_length, HLL.out, Array.length_toList]; omega), List.append_nil]
    refine own_of_block HG2.out.out e (by rw [B8_length, HLL.out]) (Nat.le_refl _) (by unfold maxLen; omega)

theorem clone_nil (w : World) : Calls Try.prog 6 #[.slice none 0 0] w fun e w' => e = .returned (.slice none 0 0) ∧ w = w' := by
  have hnil := fun w' => Lib.run_eql_slice_nil (P := Try.prog) w' 22 5 none 0 0 0 0 Try.underlying22
  simp only [Option.isNone_none] at hnil
  go_enter Try.func6, Try.ntmps6
  go_wp2
  go_ret
  exact ⟨rfl, rfl⟩

/-- A clone: a slice of the call's own that holds the same bytes. -/
theorem clone_any (a : Option Addr) (len cap : Nat) (zs : List Int) (w : World) (hs : Src w a len cap zs) (hlen : len ≤ 1048576) (hx : ∀ x, a = some x → len ≠ 0 → x.block < w.heap.size) :
    Calls Try.prog 6 #[.slice a len cap] w fun e w' => ∃ ao c, e = .returned (.slice ao len c) ∧ w'.ownsRow w.heap.size 5 1 (.slice ao len c) len (B8 zs) ∧ Below w.heap.size w w' := by
  obtain ⟨hl, ⟨rfl, rfl, rfl⟩ | ⟨x, rfl, hc⟩⟩ := hs
  · refine (clone_nil w).mono ?_
    rintro e w' ⟨rfl, rfl⟩
    obtain rfl : zs = [] := List.eq_nil_of_length_eq_zero hl
    exact ⟨none, 0, rfl, World.ownsRow_nil _ _ _ _, Below.refl _ _⟩
  · refine (clone_some x len cap zs w hl hlen (hx x rfl) hc).mono ?_
    rintro e w' ⟨rfl, ho, hb⟩
    exact ⟨_, _, rfl, ho, hb⟩

theorem bytes1 (a : Option Addr) (len cap : Nat) (v : Int) (w : World) (b : Bool) (hb : decide (len ≤ 1048576) = b) (hm : len ≤ maxLen) :
    Calls Try.prog 5 #[.slice a len cap, .int .i32 v] w fun e w' => e = .returned (.bool b) ∧ w = w' := by
  unfold maxLen at hm
  cases b
  · have h := of_decide_eq_false hb
    clear hb
    go_enter Try.func5, Try.ntmps5
    go_wp2
    go_ret
    exact ⟨rfl, rfl⟩
  · have h := of_decide_eq_true hb
    clear hb
    go_enter Try.func5, Try.ntmps5
    go_wp2
    go_ret
    exact ⟨rfl, rfl⟩

theorem bytes2 (a : Option Addr) (len cap : Nat) (v u : Int) (w : World) (b : Bool) (hb : decide (len ≤ 1048576) = b) (hm : len ≤ maxLen) :
    Calls Try.prog 10 #[.slice a len cap, .int .i32 v, .int .i32 u] w fun e w' => e = .returned (.bool b) ∧ w = w' := by
  unfold maxLen at hm
  cases b
  · have h := of_decide_eq_false hb
    clear hb
    go_enter Try.func10, Try.ntmps10
    go_wp2
    go_ret
    exact ⟨rfl, rfl⟩
  · have h := of_decide_eq_true hb
    clear hb
    go_enter Try.func10, Try.ntmps10
    go_wp2
    go_ret
    exact ⟨rfl, rfl⟩

end Go.Proofs.Qxb6628344a
