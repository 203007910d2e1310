/-
  THE PLAIN LAWS OF panicFrames' ANSWER.
-/
import Derived.Test.Qxb6628401aZz
namespace Go.Proofs.Qxb6628401a
open Go.RowKit

theorem dw_split (M : List Fr) : M.takeWhile isRt ++ M.dropWhile isRt = M := List.takeWhile_append_dropWhile

theorem dw_len (M : List Fr) : (M.dropWhile isRt).length ≤ M.length := (List.dropWhile_sublist _).length_le

theorem dw_lens (M : List Fr) : (M.takeWhile isRt).length + (M.dropWhile isRt).length = M.length := by
  rw [← List.length_append, dw_split]

theorem dw_drop (M : List Fr) : M.drop (M.length - (M.dropWhile isRt).length) = M.dropWhile isRt := by
  have h := dw_lens M
  have e : M.length - (M.dropWhile isRt).length = (M.takeWhile isRt).length := by omega
  rw [e]
  exact (congrArg (List.drop _) (dw_split M).symm).trans List.drop_left

theorem tw_all : ∀ (M : List Fr) f, f ∈ M.takeWhile isRt → isRt f = true
  | [], f, h => by simp at h
  | g :: t, f, h => by
    rw [List.takeWhile_cons] at h
    cases hg : isRt g
    · rw [if_neg (by rw [hg]; simp)] at h
      simp at h
    · rw [if_pos hg] at h
      rcases List.mem_cons.1 h with rfl | h
      · exact hg
      · exact tw_all t f h

theorem dw_front (M : List Fr) : ∀ i f, i < M.length - (M.dropWhile isRt).length → M[i]? = some f → isRt f = true := by
  intro i f hi hf
  have h := dw_lens M
  have hi' : i < (M.takeWhile isRt).length := by omega
  have hf' : (M.takeWhile isRt)[i]? = some f := by
    rw [← hf]
    conv => rhs; rw [← dw_split M]
    rw [List.getElem?_append_left hi']
  exact tw_all M f (List.mem_of_getElem? hf')

theorem dw_head : ∀ (M : List Fr) f, (M.dropWhile isRt)[0]? = some f → isRt f = false
  | [], f, h => by simp at h
  | g :: t, f, h => by
    rw [List.dropWhile_cons] at h
    cases hg : isRt g
    · rw [if_neg (by rw [hg]; simp)] at h
      simp at h
      rw [← h, hg]
    · rw [if_pos hg] at h
      exact dw_head t f h

theorem pf_cons {G : Fr} (h : isPn G = true) (S : List Fr) : pf (G :: S) = S.dropWhile isRt :=
  pf_hit (k := 0) (f := G) (fun i g hi => absurd hi (by omega)) rfl h

theorem pf_insert {L : List Fr} {k : Nat} {G : Fr} (hk : k ≤ L.length) (h : ∀ i g, i < k → L[i]? = some g → isPn g = false) (hG : isPn G = true) : pf ((L.take k ++ [G]) ++ L.drop k) = (L.drop k).dropWhile isRt := by
  have hl : (L.take k).length = k := by rw [List.length_take]; omega
  have e1 : (L.take k ++ [G] ++ L.drop k)[k]? = some G := by
    rw [List.append_assoc, List.getElem?_append_right (by omega), hl]
    simp
  have e2 : (L.take k ++ [G] ++ L.drop k).drop (k + 1) = L.drop k := by
    rw [List.drop_append_of_le_length (by simp; omega)]
    rw [List.drop_of_length_le (by simp; omega)]
    rfl
  have e3 := pf_hit (k := k) (f := G) (L := L.take k ++ [G] ++ L.drop k) (fun i g hi hg => by
    rw [List.append_assoc, List.getElem?_append_left (by omega), List.getElem?_take, if_pos hi] at hg
    exact h i g hi hg) e1 hG
  rw [e3, e2]

theorem no_any {P : List Fr} (h : P.any isPn = false) : ∀ (i : Nat) f, P[i]? = some f → isPn f = false := by
  intro i f hf
  cases hp : isPn f
  · rfl
  · have : P.any isPn = true := List.any_eq_true.2 ⟨f, List.mem_of_getElem? hf, hp⟩
    rw [h] at this
    cases this

theorem after_any : ∀ {P : List Fr} (S : List Fr), P.any isPn = true → after (P ++ S) = after P ++ S ∧ (after P).length < P.length
  | [], S, h => by simp at h
  | f :: t, S, h => by
    cases hf : isPn f
    · have ht : t.any isPn = true := by simpa [hf] using h
      obtain ⟨h1, h2⟩ := after_any S ht
      have e1 : after (f :: t ++ S) = after (t ++ S) := by simp [after, hf]
      have e2 : after (f :: t) = after t := by simp [after, hf]
      rw [e1, e2, h1]
      exact ⟨rfl, by simp; omega⟩
    · have e1 : after (f :: t ++ S) = t ++ S := by simp [after, hf]
      have e2 : after (f :: t) = t := by simp [after, hf]
      rw [e1, e2]
      exact ⟨rfl, by simp⟩

theorem pf_yes {L : List Fr} (h : L.any isPn = true) : pf L = (after L).dropWhile isRt := by unfold pf; rw [if_pos h]
theorem pf_no {L : List Fr} (h : L.any isPn = false) : pf L = L := by unfold pf; rw [if_neg (by rw [h]; simp)]

theorem pf_lt {L : List Fr} (h : L.any isPn = true) : (pf L).length < L.length := by
  rw [pf_yes h]
  have := (after_any [] h).2
  exact Nat.lt_of_le_of_lt (dw_len _) this

theorem pf_head {L : List Fr} (h : L.any isPn = true) : ∀ f, (pf L)[0]? = some f → isRt f = false := by
  intro f hf
  rw [pf_yes h] at hf
  exact dw_head _ f hf

theorem after_suffix : ∀ L : List Fr, ∃ t, L = t ++ after L
  | [] => ⟨[], rfl⟩
  | f :: t => by
    cases hf : isPn f
    · obtain ⟨u, hu⟩ := after_suffix t
      refine ⟨f :: u, ?_⟩
      have e : after (f :: t) = after t := by simp [after, hf]
      rw [e, List.cons_append, ← hu]
    · refine ⟨[f], ?_⟩
      have e : after (f :: t) = t := by simp [after, hf]
      rw [e]; rfl

theorem pf_suffix (L : List Fr) : pf L = L.drop (L.length - (pf L).length) := by
  have key : ∃ t, L = t ++ pf L := by
    cases h : L.any isPn
    · exact ⟨[], by rw [pf_no h]; rfl⟩
    · obtain ⟨t, ht⟩ := after_suffix L
      refine ⟨t ++ (after L).takeWhile isRt, ?_⟩
      rw [pf_yes h, List.append_assoc, dw_split, ← ht]
  obtain ⟨t, ht⟩ := key
  have hl : L.length = t.length + (pf L).length := by
    conv => lhs; rw [ht]
    rw [List.length_append]
  rw [hl, Nat.add_sub_cancel]
  conv => rhs; rw [ht]
  simp

/-- the front holds no panic -/
theorem pf_app_no {P S : List Fr} (h : P.any isPn = false) : pf (P ++ S) = if S.any isPn then pf S else P ++ S := by
  cases hs : S.any isPn
  · rw [if_neg (by simp)]
    exact pf_no (by rw [List.any_append, h, hs]; rfl)
  · rw [if_pos rfl, pf_yes (L := P ++ S) (by rw [List.any_append, h, hs]; rfl), pf_yes hs]
    congr 1
    clear hs
    induction P with
    | nil => rfl
    | cons f t ih =>
      simp at h
      have e : after (f :: t ++ S) = after (t ++ S) := by simp [after, h.1]
      rw [e]
      exact ih (by simpa using h.2)

theorem dw_app {A S : List Fr} (h : A.dropWhile isRt ≠ []) : (A ++ S).dropWhile isRt = A.dropWhile isRt ++ S := by
  induction A with
  | nil => simp at h
  | cons f t ih =>
    rw [List.cons_append, List.dropWhile_cons, List.dropWhile_cons]
    rw [List.dropWhile_cons] at h
    cases hf : isRt f
    · simp
    · rw [if_pos rfl, if_pos rfl]
      rw [if_pos hf] at h
      exact ih h

theorem dw_app_nil {A S : List Fr} (h : A.dropWhile isRt = []) : (A ++ S).dropWhile isRt = S.dropWhile isRt := by
  induction A with
  | nil => rfl
  | cons f t ih =>
    rw [List.cons_append, List.dropWhile_cons]
    rw [List.dropWhile_cons] at h
    cases hf : isRt f
    · rw [if_neg (by rw [hf]; simp)] at h
      cases h
    · rw [if_pos rfl]
      rw [if_pos hf] at h
      exact ih h

/-- the front holds a panic, and something of it is left -/
theorem pf_app_some {P S : List Fr} (h : P.any isPn = true) (hp : pf P ≠ []) : pf (P ++ S) = pf P ++ S := by
  have ha : (P ++ S).any isPn = true := by rw [List.any_append, h]; rfl
  rw [pf_yes h] at hp ⊢
  rw [pf_yes ha, (after_any S h).1, dw_app hp]

/-- the front holds a panic, and nothing of it is left -/
theorem pf_app_nil {P S : List Fr} (h : P.any isPn = true) (hp : pf P = []) : pf (P ++ S) = S.dropWhile isRt := by
  have ha : (P ++ S).any isPn = true := by rw [List.any_append, h]; rfl
  rw [pf_yes h] at hp
  rw [pf_yes ha, (after_any S h).1, dw_app_nil hp]

/-! the same, said of a list that is cut at q -/
theorem cut_law1 {L : List Fr} {q : Nat} (hP : (L.take q).any isPn = false) (hS : (L.drop q).any isPn = true) : pf L = pf (L.drop q) := by
  have h := pf_app_no (S := L.drop q) hP
  rw [List.take_append_drop, if_pos hS] at h
  exact h
theorem cut_law3 {L : List Fr} {q : Nat} (hP : (L.take q).any isPn = true) (hp : pf (L.take q) ≠ []) : pf L = pf (L.take q) ++ L.drop q := by
  have h := pf_app_some (S := L.drop q) hP hp
  rw [List.take_append_drop] at h
  exact h
theorem cut_law4 {L : List Fr} {q : Nat} (hP : (L.take q).any isPn = true) (hp : pf (L.take q) = []) : pf L = (L.drop q).dropWhile isRt := by
  have h := pf_app_nil (S := L.drop q) hP hp
  rw [List.take_append_drop] at h
  exact h

end Go.Proofs.Qxb6628401a
