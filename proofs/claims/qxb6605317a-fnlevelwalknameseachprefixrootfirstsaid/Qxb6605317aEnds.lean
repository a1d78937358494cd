import Derived.Test.Qxb6605317aNext
namespace Go.Proofs.Qxb6605317a.Wk
open Go.RowKit

/-- Where the search for level k begins, the ends so far being L. -/
def st (L : List Nat) : Nat → Nat
  | 0 => 0
  | k + 1 => L.getD k 0 + 1

/-- L: the slashes before place j, in order: each is the next slash behind the one before; behind the last there is none before j. -/
def Inv (s : ByteArray) (L : List Nat) (j : Nat) : Prop :=
  j ≤ s.size ∧ L.length ≤ j ∧ (∀ k, k < L.length → NX s (st L k) (L.getD k 0) ∧ L.getD k 0 < j) ∧ st L L.length ≤ j ∧ ∀ t (h : t < s.size), st L L.length ≤ t → t < j → ¬ s[t] = 47

theorem getD_snoc (L : List Nat) (x k : Nat) (h : k < L.length) : (L ++ [x]).getD k 0 = L.getD k 0 := by
  rw [List.getD_eq_getElem?_getD, List.getD_eq_getElem?_getD, List.getElem?_append_left h]
theorem getD_last (L : List Nat) (x : Nat) : (L ++ [x]).getD L.length 0 = x := by
  rw [List.getD_eq_getElem?_getD, List.getElem?_append_right (Nat.le_refl _), Nat.sub_self]
  rfl
theorem st_snoc (L : List Nat) (x k : Nat) (h : k ≤ L.length) : st (L ++ [x]) k = st L k := by
  cases k with
  | zero => rfl
  | succ k => show (L ++ [x]).getD k 0 + 1 = L.getD k 0 + 1; rw [getD_snoc L x k (by omega)]

theorem inv_zero (s : ByteArray) : Inv s [] 0 := by
  refine ⟨Nat.zero_le _, Nat.zero_le _, fun k h => by simp at h, Nat.le_refl _, fun t _ _ h => absurd h (Nat.not_lt_zero _)⟩
theorem inv_other {s : ByteArray} {L : List Nat} {j : Nat} (h : Inv s L j) (hj : j < s.size) (hc : ¬ s[j] = 47) : Inv s L (j + 1) := by
  obtain ⟨h1, h2, h3, h4, h5⟩ := h
  refine ⟨by omega, by omega, fun k hk => ⟨(h3 k hk).1, by have := (h3 k hk).2; omega⟩, by omega, fun t ht h6 h7 => ?_⟩
  by_cases e : t = j
  · subst e; exact hc
  · exact h5 t ht h6 (by omega)
theorem inv_last {s : ByteArray} {L : List Nat} {j : Nat} (h : Inv s L j) (hs : ∀ h : j < s.size, s[j] = 47) : NX s (st L L.length) j := by
  obtain ⟨h1, h2, h3, h4, h5⟩ := h
  exact ⟨h4, h1, hs, fun t ht h6 h7 => h5 t ht h6 h7⟩
theorem inv_slash {s : ByteArray} {L : List Nat} {j : Nat} (h : Inv s L j) (hj : j < s.size) (hc : s[j] = 47) : Inv s (L ++ [j]) (j + 1) := by
  have hl := inv_last h (fun _ => hc)
  obtain ⟨h1, h2, h3, h4, h5⟩ := h
  have hst : st (L ++ [j]) (L ++ [j]).length = j + 1 := by
    rw [List.length_append]
    show (L ++ [j]).getD L.length 0 + 1 = j + 1
    rw [getD_last]
  refine ⟨by omega, by simp; omega, fun k hk => ?_, by omega, fun t ht h6 h7 => by omega⟩
  rw [List.length_append] at hk
  simp at hk
  by_cases e : k = L.length
  · subst e
    rw [st_snoc L j _ (Nat.le_refl _), getD_last]
    exact ⟨hl, by omega⟩
  · rw [st_snoc L j k (by omega), getD_snoc L j k (by omega)]
    have := h3 k (by omega)
    exact ⟨this.1, by omega⟩

/-- All ends: the slashes, then the text's end. -/
def Ends (s : ByteArray) (M : List Nat) : Prop :=
  1 ≤ M.length ∧ M.length ≤ s.size + 1 ∧ (∀ k, k < M.length → NX s (st M k) (M.getD k 0) ∧ st M k ≤ s.size) ∧ (∀ k, k + 1 < M.length → M.getD k 0 < s.size) ∧ M.getD (M.length - 1) 0 = s.size
theorem ends_of {s : ByteArray} {L : List Nat} {j : Nat} (h : Inv s L j) (hj : ¬ j < s.size) : Ends s (L ++ [s.size]) := by
  have e : j = s.size := by have := h.1; omega
  subst e
  have hl := inv_last h (fun h => absurd h (Nat.lt_irrefl _))
  obtain ⟨h1, h2, h3, h4, h5⟩ := h
  refine ⟨by simp, by simp; omega, fun k hk => ?_, fun k hk => ?_, ?_⟩
  · rw [List.length_append] at hk
    simp at hk
    by_cases e : k = L.length
    · subst e
      rw [st_snoc L _ _ (Nat.le_refl _), getD_last]
      exact ⟨hl, h4⟩
    · rw [st_snoc L _ k (by omega), getD_snoc L _ k (by omega)]
      have := h3 k (by omega)
      exact ⟨this.1, by have := this.1.1; omega⟩
  · rw [List.length_append] at hk
    simp at hk
    rw [getD_snoc L _ k (by omega)]
    exact (h3 k (by omega)).2
  · rw [List.length_append]
    show (L ++ [s.size]).getD (L.length + 1 - 1) 0 = s.size
    rw [Nat.add_sub_cancel, getD_last]
end Go.Proofs.Qxb6605317a.Wk
