/-
  THE WALKS OF THIS SEAT's CALLEES.
-/
import Derived.Test.Qxb6628344aRows
import Derived.Test.Qxb6628344aPlain
import Derived.WalkKit
import Derived.WalkSpells
namespace Go.Proofs.Qxb6628344a
open Go.RowKit

theorem hide {p : Prop} (h : p) : Hid p := h
theorem info5 : (Try.prog.info? 5).map (fun i => (i.zero, i.size, i.bytes)) = some (some (.int .u8 0), 1, 1) := by kernel_rfl

def B8 (l : List Int) : List Value := l.map (Value.int .u8)

theorem B8_snoc (ys : List Int) (c : Int) : B8 (ys ++ [c]) = B8 ys ++ [Value.int .u8 c] := by simp [B8]

theorem done_step {w1 : World} {base n f : Nat} {v0 vv c : Int} {ys : List Int} {xs : List Value} {v' : Value} (hE : leb 5 v0 = ys ++ leb (f + 1) vv) (hfin : fin vv = true) (hc : vv % 128 = c)
    (hown : w1.ownsRow base 5 1 v' (n + ys.length + 1) (xs ++ (B8 ys ++ [Value.int .u8 c]))) :
    ∃ g cap, v' = .slice (some ⟨g, 0, none⟩) (n + (leb 5 v0).length) cap ∧ w1.ownsRow base 5 1 (.slice (some ⟨g, 0, none⟩) (n + (leb 5 v0).length) cap) (n + (leb 5 v0).length) (xs ++ B8 (leb 5 v0)) := by
  rw [leb_fin hfin, hc] at hE
  have hl : (leb 5 v0).length = ys.length + 1 := by rw [hE]; simp
  rw [← B8_snoc, ← hE, Nat.add_assoc, ← hl] at hown
  rcases hown.2 with ⟨-, h0⟩ | ⟨g, cap, cur, rfl, -⟩
  · omega
  · exact ⟨g, cap, rfl, hown⟩

theorem more_step {w1 : World} {base n f : Nat} {v0 vv c : Int} {ys : List Int} {xs : List Value} {v' : Value} (hF : fits f vv) (hL : ys.length + f = 4) (hE : leb 5 v0 = ys ++ leb (f + 1) vv) (hfin : fin vv = false) (hc : vv % 128 = c)
    (hown : w1.ownsRow base 5 1 v' (n + ys.length + 1) (xs ++ (B8 ys ++ [Value.int .u8 (c + 128)]))) :
    ∃ (f' : Nat) (zs : List Int), fits f' (vv / 128) ∧ zs.length + f' = 4 ∧ leb 5 v0 = zs ++ leb (f' + 1) (vv / 128) ∧ w1.ownsRow base 5 1 v' (n + zs.length) (xs ++ B8 zs) := by
  cases f with
  | zero => rw [fits_zero hF] at hfin; simp at hfin
  | succ f =>
    refine ⟨f, ys ++ [c + 128], fits_step hF, by simp; omega, ?_, ?_⟩
    · rw [hE, leb_more hfin, hc]; simp
    · rw [B8_snoc]
      have : n + (ys ++ [c + 128]).length = n + ys.length + 1 := by simp; omega
      rw [this]
      exact hown

theorem less_step {vv q : Int} (hfin : fin vv = false) (hq : vv / 128 = q) : q.natAbs < vv.natAbs := by
  rw [fin_false] at hfin
  omega

theorem news_one (w : World) (x : Int) : ∀ (j : Nat) (u : Value), [Value.int .u8 x][j]? = some u → (w.alloc (Obj.cells #[Value.int .u8 x] 5)).cell? ((⟨w.heap.size, 0, none⟩ : Addr).add j) = some u := by
  intro j u hj
  match j, hj with
  | 0, hj => simp at hj; subst hj; simp [Addr.add]

theorem news_cell (x : Int) : ∀ (u : Value), u ∈ [Value.int .u8 x] → u.oneCell' = true := by
  intro u hu; simp at hu; subst hu; rfl

set_option maxHeartbeats 1600000 in
theorem app_any (base n : Nat) (v0 : Int) (b : Value) (xs : List Value) (w : World) (hown : w.ownsRow base 5 1 b n xs) (hbase : base ≤ w.heap.size) (hn : n ≤ 1048700) (h0 : -2147483648 ≤ v0) (h1 : v0 ≤ 2147483647) :
    Calls Try.prog 7 #[b, .int .i32 v0] w fun e w' => ∃ g cap, e = .returned (.slice (some ⟨g, 0, none⟩) (n + (leb 5 v0).length) cap) ∧
      w'.ownsRow base 5 1 (.slice (some ⟨g, 0, none⟩) (n + (leb 5 v0).length) cap) (n + (leb 5 v0).length) (xs ++ B8 (leb 5 v0)) ∧ Below base w w' := by
  obtain ⟨i0, hi, hz0, hz1, hz2⟩ := info_parts info5
  go_enter Try.func7, Try.ntmps7
  go_wp2
  go_loopw [0, 1] (fun bv v wr => ∃ (f : Nat) (vv : Int) (ys : List Int), v = .int .i32 vv ∧ fits f vv ∧ ys.length + f = 4 ∧ leb 5 v0 = ys ++ leb (f + 1) vv ∧ wr.ownsRow base 5 1 bv (n + ys.length) (xs ++ B8 ys) ∧ Below base w wr) (fun _ v _ => (intOf v).natAbs)
  case atStart => exact ⟨4, v0, [], rfl, fits_four h0 h1, rfl, rfl, by simpa [B8] using hown, Below.refl _ _⟩
  case round =>
    clear hown
    rename_i bv
    obtain ⟨f, vv, ys, rfl, hfit, hlen, hleb, hown, hB⟩ := hrel
    have HF := hide hfit
    have HL := hide hlen
    have HE := hide hleb
    have HO := hide hown
    have HB := hide hB
    have HI := hide hi
    have HZ0 := hide hz0
    have HZ1 := hide hz1
    have HZ2 := hide hz2
    clear hfit hlen hleb hown hB hi hz0 hz1 hz2
    obtain ⟨c, hc⟩ : ∃ c, vv % 128 = c := ⟨_, rfl⟩
    obtain ⟨q, hq⟩ : ∃ q, vv / 128 = q := ⟨_, rfl⟩
    have c0 : 0 ≤ c := by omega
    have c1 : c < 128 := by omega
    have HC := hide hc
    have HQ := hide hq
    have e1 : bits .and .i32 vv 127 = c := by rw [i32_and127]; exact hc
    have e2 : c % 256 = c := by omega
    have e3 : vv / 128 = q := hq
    have e5 : bits .or .u8 c 128 = c + 128 := u8_or128 c c0 c1
    have key : (fin vv = true ∧ (c < 64 ∧ q = 0 ∨ 64 ≤ c ∧ q = -1)) ∨ (fin vv = false ∧ ¬ (c < 64 ∧ q = 0 ∨ 64 ≤ c ∧ q = -1)) := by
      rw [fin_iff, fin_false]; omega
    clear hc hq
    rcases key with ⟨hfin, hk⟩ | ⟨hfin, hk⟩
    · have HN := hide hfin
      have hcase : (bits .and .u8 c 64 = 0 ∧ (q == 0) = true) ∨ (bits .and .u8 c 64 = 64 ∧ (q == 0) = false ∧ (q == -1) = true) := by
        rw [u8_and64 c c0 (by omega)]
        rcases hk with ⟨h, h'⟩ | ⟨h, h'⟩
        · left; rw [if_neg (by omega)]; simp [h']
        · right; rw [if_pos (by omega)]; simp [h']
      clear hfin hk
      rcases hcase with ⟨e4, t1⟩ | ⟨e4, t1, t2⟩
      all_goals
        go_wp2_with (at_builtin; refine wpList_append_own _ rfl _ _ 22 rfl base 5 i0 (.int .u8 0) 1 1 Try.underlying22 HI.out HZ0.out HZ1.out HZ2.out rfl (by decide) _ _ _ rfl (HO.out.alloc _) ⟨wr.heap.size, 0, none⟩ 1 1 [.int .u8 c] rfl rfl ?_ ?_ ?_ ?_ ?_ ?_)
        · exact news_one _ _
        · exact news_cell _
        · have := HL.out; unfold maxLen; omega
        · have := HL.out; omega
        · have := HB.out.size; simp; omega
        · intro v' w1 hown hgrow _
          obtain ⟨g, cap, rfl, hO⟩ := done_step HE.out HN.out HC.out hown
          have HR := hide hO
          have HB1 : Hid (Below base w w1) := (HB.out.alloc (by have := HB.out.size; omega) _).grown hgrow (by have := HB.out.size; simp; omega) (fun k hk => (HO.out.lt k hk).1)
          clear hown hgrow hO
          go_wp2
          go_ret
          exact ⟨g, cap, rfl, HR.out, HB1.out⟩
    · have HN := hide hfin
      have hcase : (bits .and .u8 c 64 = 0 ∧ (q == 0) = false ∧ (q == -1) = false) ∨ (bits .and .u8 c 64 = 0 ∧ (q == 0) = false ∧ (q == -1) = true) ∨ (bits .and .u8 c 64 = 64 ∧ (q == 0) = false ∧ (q == -1) = false) ∨ (bits .and .u8 c 64 = 64 ∧ (q == 0) = true ∧ (q == -1) = false) := by
        rw [u8_and64 c c0 (by omega)]
        by_cases h : 64 ≤ c % 128
        · rw [if_pos h]
          by_cases h' : q = 0
          · simp [h']
          · have : ¬ q = -1 := by omega
            simp [h', this]
        · rw [if_neg h]
          by_cases h' : q = -1
          · simp [h']
          · have : ¬ q = 0 := by omega
            simp [h', this]
      clear hfin hk
      rcases hcase with ⟨e4, t1, t2⟩ | ⟨e4, t1, t2⟩ | ⟨e4, t1, t2⟩ | ⟨e4, t1, t2⟩
      all_goals
        go_wp2_with (at_builtin; refine wpList_append_own _ rfl _ _ 22 rfl base 5 i0 (.int .u8 0) 1 1 Try.underlying22 HI.out HZ0.out HZ1.out HZ2.out rfl (by decide) _ _ _ rfl (HO.out.alloc _) ⟨wr.heap.size, 0, none⟩ 1 1 [.int .u8 (c + 128)] rfl rfl ?_ ?_ ?_ ?_ ?_ ?_)
        · exact news_one _ _
        · exact news_cell _
        · have := HL.out; unfold maxLen; omega
        · have := HL.out; omega
        · have := HB.out.size; simp; omega
        · intro v' w1 hown hgrow _
          obtain ⟨f', zs, r1, r2, r3, r4⟩ := more_step HF.out HL.out HE.out HN.out HC.out hown
          have R1 := hide r1
          have R2 := hide r2
          have R3 := hide r3
          have R4 := hide r4
          have HB1 : Hid (Below base w w1) := (HB.out.alloc (by have := HB.out.size; omega) _).grown hgrow (by have := HB.out.size; simp; omega) (fun k hk => (HO.out.lt k hk).1)
          clear hown hgrow r1 r2 r3 r4
          go_wp2
          go_roundw
          case rel => exact ⟨f', q, zs, rfl, HQ.out ▸ R1.out, R2.out, HQ.out ▸ R3.out, R4.out, HB1.out⟩
          case measure => exact less_step HN.out HQ.out

end Go.Proofs.Qxb6628344a
