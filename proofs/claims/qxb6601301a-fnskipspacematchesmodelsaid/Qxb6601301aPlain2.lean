import Derived.Test.Qxb6601301aPlain
import Derived.Lib.IndexAny
import Derived.Lib.IndexBytes
namespace Go.Proofs.Qxb6601301a.Plain

theorem nl_contains (c : UInt8) : ([10, 13] : List UInt8).contains c = true ↔ (c = 10 ∨ c = 13) := by simp

theorem line_miss : ∀ l : List UInt8, Lib.indexAny l [10, 13] = -1 → sk (-1) l = l.length
  | [], _ => by simp [sk]
  | c :: r, h => by
    rw [Lib.indexAny] at h
    by_cases hc : ([10, 13] : List UInt8).contains c = true
    · rw [if_pos hc] at h; omega
    · rw [if_neg hc] at h
      have hge := Lib.indexAny_ge [10, 13] r
      by_cases h1 : Lib.indexAny r [10, 13] = -1
      · rw [skl_other c r (fun x => hc ((nl_contains c).2 x)), line_miss r h1, List.length_cons]; omega
      · rw [if_neg (by simpa using h1)] at h; omega
theorem line_hit : ∀ (l : List UInt8) (e : Nat), Lib.indexAny l [10, 13] = e → sk (-1) l = e + sk 0 (l.drop e) ∧ e < l.length
  | [], e, h => by rw [Lib.indexAny] at h; omega
  | c :: r, e, h => by
    rw [Lib.indexAny] at h
    by_cases hc : ([10, 13] : List UInt8).contains c = true
    · rw [if_pos hc] at h
      obtain rfl : e = 0 := by omega
      have hn := (nl_contains c).1 hc
      have hs : isSp c = true := by rw [isSp_iff]; have := (nl_iff c).1 hn; omega
      rw [skl_nl c r hn, List.drop_zero, sk0_space c r hs, List.length_cons]
      omega
    · rw [if_neg hc] at h
      have hge := Lib.indexAny_ge [10, 13] r
      by_cases h1 : Lib.indexAny r [10, 13] = -1
      · rw [if_pos (by simpa using h1)] at h; omega
      · rw [if_neg (by simpa using h1)] at h
        obtain ⟨m, rfl⟩ : ∃ m, e = m + 1 := ⟨e - 1, by omega⟩
        obtain ⟨ih, hl⟩ := line_hit r m (by omega)
        rw [skl_other c r (fun x => hc ((nl_contains c).2 x)), ih, List.drop_succ_cons, List.length_cons]
        omega
theorem any_dash (l : List UInt8) (h : pre2 45 45 l = true) :
    Lib.indexAny l [10, 13] = if Lib.indexAny (l.drop 2) [10, 13] = -1 then -1 else Lib.indexAny (l.drop 2) [10, 13] + 2 := by
  match l, h with
  | c :: d :: r, h =>
    simp [pre2] at h
    obtain ⟨rfl, rfl⟩ := h
    have hge := Lib.indexAny_ge [10, 13] r
    have hc : ¬ ([10, 13] : List UInt8).contains 45 = true := by decide
    show Lib.indexAny (45 :: 45 :: r) [10, 13] = if Lib.indexAny r [10, 13] = -1 then -1 else Lib.indexAny r [10, 13] + 2
    have e1 : Lib.indexAny (45 :: r) [10, 13] = if Lib.indexAny r [10, 13] = -1 then -1 else Lib.indexAny r [10, 13] + 1 := by
      rw [Lib.indexAny, if_neg hc]
      by_cases h1 : Lib.indexAny r [10, 13] = -1
      · rw [if_pos (by simpa using h1), if_pos h1]
      · rw [if_neg (by simpa using h1), if_neg h1]
    have e2 : Lib.indexAny (45 :: 45 :: r) [10, 13] = if Lib.indexAny (45 :: r) [10, 13] == -1 then -1 else Lib.indexAny (45 :: r) [10, 13] + 1 := by
      rw [Lib.indexAny, if_neg hc]
    rw [e2, e1]
    by_cases h1 : Lib.indexAny r [10, 13] = -1
    · rw [if_pos h1, if_pos h1]; rfl
    · rw [if_neg h1, if_neg h1, if_neg (by simp; omega)]; omega

/-- A line comment at k: the next line end, or none. -/
theorem at_line (s : ByteArray) (k : Nat) (h : two s 45 45 k = true) :
    (Lib.indexAny (s.extract k s.size).data.toList [10, 13] = -1 ∧ at_ s 0 k = s.size) ∨
    ∃ m : Nat, Lib.indexAny (s.extract k s.size).data.toList [10, 13] = m ∧ 2 ≤ m ∧ k + m < s.size ∧ at_ s 0 k = at_ s 0 (k + m) := by
  have hroom := two_room s 45 45 k h
  have hsz : s.data.toList.length = s.size := by simp
  rw [Lib.extract_to_end, any_dash _ h, List.drop_drop, at0_dash s k h]
  by_cases h1 : Lib.indexAny (s.data.toList.drop (k + 2)) [10, 13] = -1
  · left
    rw [if_pos h1]
    refine ⟨rfl, ?_⟩
    unfold at_
    rw [line_miss _ h1, List.length_drop]
    omega
  · right
    rw [if_neg h1]
    have hge := Lib.indexAny_ge [10, 13] (s.data.toList.drop (k + 2))
    obtain ⟨m, hm⟩ : ∃ m : Nat, Lib.indexAny (s.data.toList.drop (k + 2)) [10, 13] = m := ⟨(Lib.indexAny (s.data.toList.drop (k + 2)) [10, 13]).toNat, by omega⟩
    obtain ⟨h2, h3⟩ := line_hit _ m hm
    rw [List.length_drop] at h3
    refine ⟨m + 2, by rw [hm]; omega, by omega, by omega, ?_⟩
    unfold at_
    rw [h2, List.drop_drop]
    have e : k + (m + 2) = k + 2 + m := by omega
    rw [e]
    omega

theorem sp_yes (c : UInt8) (h : isSp c = true) : 0 ≤ Lib.indexByte [32, 9, 10, 13, 12, 11] c := by
  have e := Lib.contains_iff_indexByte [32, 9, 10, 13, 12, 11] c
  have hc : ([32, 9, 10, 13, 12, 11] : List UInt8).contains c = true := by
    rcases (isSp_iff c).1 h with h | h | h | h | h | h
    · have : c = 32 := UInt8.toNat_inj.1 h
      subst this; decide
    · have : c = 9 := UInt8.toNat_inj.1 h
      subst this; decide
    · have : c = 10 := UInt8.toNat_inj.1 h
      subst this; decide
    · have : c = 13 := UInt8.toNat_inj.1 h
      subst this; decide
    · have : c = 12 := UInt8.toNat_inj.1 h
      subst this; decide
    · have : c = 11 := UInt8.toNat_inj.1 h
      subst this; decide
  rw [hc] at e
  exact of_decide_eq_true e.symm
theorem sp_no (c : UInt8) (h : isSp c = false) : Lib.indexByte [32, 9, 10, 13, 12, 11] c = -1 := by
  have e := Lib.contains_iff_indexByte [32, 9, 10, 13, 12, 11] c
  have hc : ([32, 9, 10, 13, 12, 11] : List UInt8).contains c = false := by
    cases hh : ([32, 9, 10, 13, 12, 11] : List UInt8).contains c with
    | false => rfl
    | true =>
      exfalso
      simp at hh
      have : isSp c = true := by
        rcases hh with h | h | h | h | h | h <;> subst h <;> decide
      rw [this] at h; cases h
  rw [hc] at e
  have h1 : ¬ 0 ≤ Lib.indexByte [32, 9, 10, 13, 12, 11] c := of_decide_eq_false e.symm
  have := Lib.indexByte_ge [32, 9, 10, 13, 12, 11] c
  omega
theorem pre_two (s : ByteArray) (a b : UInt8) (k : Nat) : Lib.hasPrefix (s.extract k s.size).data.toList [a, b] = two s a b k := by
  rw [Lib.extract_to_end]; exact prefixOf_two a b _

end Go.Proofs.Qxb6601301a.Plain
