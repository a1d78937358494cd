import Derived.Lib.IndexMore
import Derived.Lib.IndexBytes
import Derived.Below
namespace Go.Proofs.Qxb6601301a.TokP
open Go.RowKit

def isStart (c : UInt8) : Bool := decide ((97 ≤ c.toNat ∧ c.toNat ≤ 122) ∨ (65 ≤ c.toNat ∧ c.toNat ≤ 90) ∨ c.toNat = 95 ∨ 128 ≤ c.toNat)
def isTag (c : UInt8) : Bool := isStart c || decide (48 ≤ c.toNat ∧ c.toNat ≤ 57)
def isCont (c : UInt8) : Bool := isTag c || decide (c.toNat = 36)
def low (c : UInt8) : UInt8 := if 65 ≤ c.toNat ∧ c.toNat ≤ 90 then c + 32 else c

theorem isStart_iff (c : UInt8) : isStart c = true ↔ ((97 ≤ c.toNat ∧ c.toNat ≤ 122) ∨ (65 ≤ c.toNat ∧ c.toNat ≤ 90) ∨ c.toNat = 95 ∨ 128 ≤ c.toNat) := by
  unfold isStart; simp
theorem isTag_iff (c : UInt8) : isTag c = true ↔ ((97 ≤ c.toNat ∧ c.toNat ≤ 122) ∨ (65 ≤ c.toNat ∧ c.toNat ≤ 90) ∨ c.toNat = 95 ∨ 128 ≤ c.toNat ∨ (48 ≤ c.toNat ∧ c.toNat ≤ 57)) := by
  unfold isTag; rw [Bool.or_eq_true, isStart_iff]; simp [or_assoc]
theorem isCont_iff (c : UInt8) : isCont c = true ↔ ((97 ≤ c.toNat ∧ c.toNat ≤ 122) ∨ (65 ≤ c.toNat ∧ c.toNat ≤ 90) ∨ c.toNat = 95 ∨ 128 ≤ c.toNat ∨ (48 ≤ c.toNat ∧ c.toNat ≤ 57) ∨ c.toNat = 36) := by
  unfold isCont; rw [Bool.or_eq_true, isTag_iff]; simp [or_assoc]

/-! ### How far a run of bytes goes -/
def tw (f : UInt8 → Bool) : List UInt8 → Nat
  | [] => 0
  | c :: r => if f c then 1 + tw f r else 0
theorem tw_le (f : UInt8 → Bool) : ∀ l, tw f l ≤ l.length
  | [] => Nat.le_refl _
  | c :: r => by
    have := tw_le f r
    unfold tw; rw [List.length_cons]
    split <;> omega

/-! ### The end of a quoted text: the bytes taken, from a state on -/
def qs (q : UInt8) (bs : Bool) : Nat → List UInt8 → Nat
  | _, [] => 0
  | st, c :: r =>
    if st = 2 then (if c = q then 1 + qs q bs 0 r else 0)
    else if st = 1 then 1 + qs q bs 0 r
    else if bs = true ∧ c = 92 then 1 + qs q bs 1 r
    else if c = q then 1 + qs q bs 2 r
    else 1 + qs q bs 0 r
theorem qs_le (q : UInt8) (bs : Bool) : ∀ (st : Nat) (l : List UInt8), qs q bs st l ≤ l.length
  | _, [] => by simp [qs]
  | st, c :: r => by
    have h0 := qs_le q bs 0 r
    have h1 := qs_le q bs 1 r
    have h2 := qs_le q bs 2 r
    unfold qs
    rw [List.length_cons]
    repeat' split
    all_goals omega

/-! ### A dollar: the bytes that the token takes, off the list that opens with it -/
def dolTag (l : List UInt8) : Nat := tw isTag (l.drop 1)
def dol (l : List UInt8) : Nat :=
  if (l.drop (1 + dolTag l)).head? = some 36 then
    if Lib.index (l.drop (dolTag l + 2)) (l.take (dolTag l + 2)) < 0 then l.length
    else dolTag l + 2 + (Lib.index (l.drop (dolTag l + 2)) (l.take (dolTag l + 2))).toNat + (dolTag l + 2)
  else 1

/-! ### The token at the head of a list: its text and how many bytes it takes -/
def word (l : List UInt8) : Nat := 1 + tw isCont (l.drop 1)
def tok (bs : Bool) : List UInt8 → List UInt8 × Nat
  | [] => ([], 0)
  | c :: r =>
    if c = 39 then ([39], 1 + qs 39 bs 0 r)
    else if c = 34 then ([34], 1 + qs 34 false 0 r)
    else if c = 36 then ([36], dol (c :: r))
    else if isStart c = false then ([c], 1)
    else if ((c :: r).take (word (c :: r))).map low = [101] ∧ ((c :: r).drop (word (c :: r))).head? = some 39 then
      ([39], word (c :: r) + 1 + qs 39 true 0 ((c :: r).drop (word (c :: r) + 1)))
    else (((c :: r).take (word (c :: r))).map low, word (c :: r))

theorem dol_le (c : UInt8) (r : List UInt8) : 1 ≤ dol (c :: r) ∧ dol (c :: r) ≤ (c :: r).length := by
  unfold dol
  split
  · rename_i h
    have hlen : dolTag (c :: r) + 2 ≤ (c :: r).length := by
      have h1 : (1 + dolTag (c :: r)) < (c :: r).length := by
        rcases Nat.lt_or_ge (1 + dolTag (c :: r)) (c :: r).length with h2 | h2
        · exact h2
        · rw [List.drop_eq_nil_of_le h2] at h; cases h
      omega
    have htk : ((c :: r).take (dolTag (c :: r) + 2)).length = dolTag (c :: r) + 2 := by rw [List.length_take]; omega
    split
    · rename_i h2
      exact ⟨by simp, Nat.le_refl _⟩
    · rename_i h2
      have := Lib.index_room ((c :: r).drop (dolTag (c :: r) + 2)) ((c :: r).take (dolTag (c :: r) + 2)) (by omega)
      rw [htk, List.length_drop] at this
      omega
  · exact ⟨Nat.le_refl _, by simp⟩

theorem word_le (c : UInt8) (r : List UInt8) : 1 ≤ word (c :: r) ∧ word (c :: r) ≤ (c :: r).length := by
  unfold word
  have := tw_le isCont r
  rw [List.drop_succ_cons, List.drop_zero, List.length_cons]
  omega

theorem tok_39 (bs : Bool) (r : List UInt8) : tok bs (39 :: r) = ([39], 1 + qs 39 bs 0 r) := rfl
theorem tok_34 (bs : Bool) (r : List UInt8) : tok bs (34 :: r) = ([34], 1 + qs 34 false 0 r) := rfl
theorem tok_36 (bs : Bool) (r : List UInt8) : tok bs (36 :: r) = ([36], dol (36 :: r)) := rfl
theorem tok_sym (bs : Bool) (c : UInt8) (r : List UInt8) (h1 : c ≠ 39) (h2 : c ≠ 34) (h3 : c ≠ 36) (h : isStart c = false) : tok bs (c :: r) = ([c], 1) := by
  rw [tok, if_neg h1, if_neg h2, if_neg h3, if_pos h]
theorem start_ne (c : UInt8) (h : isStart c = true) : c ≠ 39 ∧ c ≠ 34 ∧ c ≠ 36 := by
  refine ⟨?_, ?_, ?_⟩ <;> (intro e; subst e; revert h; decide)
theorem tok_e (bs : Bool) (c : UInt8) (r : List UInt8) (h : isStart c = true) (h1 : ((c :: r).take (word (c :: r))).map low = [101]) (h2 : ((c :: r).drop (word (c :: r))).head? = some 39) :
    tok bs (c :: r) = ([39], word (c :: r) + 1 + qs 39 true 0 ((c :: r).drop (word (c :: r) + 1))) := by
  obtain ⟨a, b, d⟩ := start_ne c h
  rw [tok, if_neg a, if_neg b, if_neg d, if_neg (by rw [h]; decide), if_pos ⟨h1, h2⟩]
theorem tok_word (bs : Bool) (c : UInt8) (r : List UInt8) (h : isStart c = true) (h1 : ¬ (((c :: r).take (word (c :: r))).map low = [101] ∧ ((c :: r).drop (word (c :: r))).head? = some 39)) :
    tok bs (c :: r) = (((c :: r).take (word (c :: r))).map low, word (c :: r)) := by
  obtain ⟨a, b, d⟩ := start_ne c h
  rw [tok, if_neg a, if_neg b, if_neg d, if_neg (by rw [h]; decide), if_neg h1]

/-- The law of advance: the token is not empty, no longer than what it takes, and takes something that is there. -/
theorem tok_ok (bs : Bool) (c : UInt8) (r : List UInt8) :
    1 ≤ (tok bs (c :: r)).2 ∧ (tok bs (c :: r)).2 ≤ (c :: r).length ∧ 1 ≤ (tok bs (c :: r)).1.length ∧ (tok bs (c :: r)).1.length ≤ (tok bs (c :: r)).2 := by
  have hlen : (c :: r).length = r.length + 1 := rfl
  by_cases h39 : c = 39
  · subst h39
    have h1 := qs_le 39 bs 0 r
    rw [tok_39]
    refine ⟨?_, ?_, ?_, ?_⟩ <;> simp <;> omega
  by_cases h34 : c = 34
  · subst h34
    have h1 := qs_le 34 false 0 r
    rw [tok_34]
    refine ⟨?_, ?_, ?_, ?_⟩ <;> simp <;> omega
  by_cases h36 : c = 36
  · subst h36
    have h1 := dol_le 36 r
    rw [tok_36]
    exact ⟨h1.1, h1.2, Nat.le_refl 1, h1.1⟩
  cases hs : isStart c with
  | false =>
    rw [tok_sym bs c r h39 h34 h36 hs]
    refine ⟨?_, ?_, ?_, ?_⟩ <;> simp
  | true =>
    have hw := word_le c r
    have hmap : (((c :: r).take (word (c :: r))).map low).length = word (c :: r) := by rw [List.length_map, List.length_take]; omega
    by_cases he : (((c :: r).take (word (c :: r))).map low = [101] ∧ ((c :: r).drop (word (c :: r))).head? = some 39)
    · have h3 := qs_le 39 true 0 ((c :: r).drop (word (c :: r) + 1))
      rw [List.length_drop] at h3
      have hwl : word (c :: r) < (c :: r).length := by
        rcases Nat.lt_or_ge (word (c :: r)) (c :: r).length with h | h
        · exact h
        · have := he.2
          rw [List.drop_eq_nil_of_le h] at this; cases this
      rw [tok_e bs c r hs he.1 he.2]
      refine ⟨?_, ?_, by simp, ?_⟩
      · show 1 ≤ word (c :: r) + 1 + _; omega
      · show word (c :: r) + 1 + _ ≤ _; omega
      · show 1 ≤ word (c :: r) + 1 + _; omega
    · rw [tok_word bs c r hs he]
      exact ⟨hw.1, hw.2, by rw [hmap]; exact hw.1, by rw [hmap]; exact Nat.le_refl _⟩

/-! ### In places of a text -/
theorem drop_cons (s : ByteArray) (p : Nat) (h : p < s.size) : s.data.toList.drop p = s[p] :: s.data.toList.drop (p + 1) := by
  have h' : p < s.data.toList.length := by simpa using h
  rw [List.drop_eq_getElem_cons h']; rfl
theorem drop_end (s : ByteArray) (p : Nat) (h : s.size ≤ p) : s.data.toList.drop p = [] := by
  apply List.drop_eq_nil_of_le; simpa using h

def wat (s : ByteArray) (f : UInt8 → Bool) (p : Nat) : Nat := p + tw f (s.data.toList.drop p)
theorem wat_end (s : ByteArray) (f : UInt8 → Bool) (p : Nat) (h : s.size ≤ p) : wat s f p = p := by
  unfold wat; rw [drop_end s p h]; rfl
theorem wat_on (s : ByteArray) (f : UInt8 → Bool) (p : Nat) (h : p < s.size) (hf : f s[p] = true) : wat s f p = wat s f (p + 1) := by
  unfold wat; rw [drop_cons s p h, tw, if_pos hf]; omega
theorem wat_off (s : ByteArray) (f : UInt8 → Bool) (p : Nat) (h : p < s.size) (hf : f s[p] = false) : wat s f p = p := by
  unfold wat; rw [drop_cons s p h, tw, if_neg (by rw [hf]; decide)]; omega
theorem wat_le (s : ByteArray) (f : UInt8 → Bool) (p : Nat) (h : p ≤ s.size) : wat s f p ≤ s.size := by
  unfold wat
  have := tw_le f (s.data.toList.drop p)
  rw [List.length_drop] at this
  have e : s.data.toList.length = s.size := by simp
  omega
theorem wat_ge (s : ByteArray) (f : UInt8 → Bool) (p : Nat) : p ≤ wat s f p := by unfold wat; omega

def qat (s : ByteArray) (q : UInt8) (bs : Bool) (st p : Nat) : Nat := p + qs q bs st (s.data.toList.drop p)
theorem qat_end (s : ByteArray) (q : UInt8) (bs : Bool) (st p : Nat) (h : s.size ≤ p) : qat s q bs st p = p := by
  unfold qat; rw [drop_end s p h]; simp [qs]
theorem qat_esc (s : ByteArray) (q : UInt8) (bs : Bool) (p : Nat) (h : p < s.size) (hb : bs = true) (hc : s[p] = 92) : qat s q bs 0 p = qat s q bs 1 (p + 1) := by
  unfold qat; rw [drop_cons s p h, qs, if_neg (by decide), if_neg (by decide), if_pos ⟨hb, hc⟩]; omega
theorem qat_quote (s : ByteArray) (q : UInt8) (bs : Bool) (p : Nat) (h : p < s.size) (hb : ¬ (bs = true ∧ s[p] = 92)) (hc : s[p] = q) : qat s q bs 0 p = qat s q bs 2 (p + 1) := by
  unfold qat; rw [drop_cons s p h, qs, if_neg (by decide), if_neg (by decide), if_neg hb, if_pos hc]; omega
theorem qat_plain (s : ByteArray) (q : UInt8) (bs : Bool) (p : Nat) (h : p < s.size) (hb : ¬ (bs = true ∧ s[p] = 92)) (hc : ¬ s[p] = q) : qat s q bs 0 p = qat s q bs 0 (p + 1) := by
  unfold qat; rw [drop_cons s p h, qs, if_neg (by decide), if_neg (by decide), if_neg hb, if_neg hc]; omega
theorem qat_one (s : ByteArray) (q : UInt8) (bs : Bool) (p : Nat) (h : p < s.size) : qat s q bs 1 p = qat s q bs 0 (p + 1) := by
  unfold qat; rw [drop_cons s p h, qs, if_neg (by decide), if_pos rfl]; omega
theorem qat_two_same (s : ByteArray) (q : UInt8) (bs : Bool) (p : Nat) (h : p < s.size) (hc : s[p] = q) : qat s q bs 2 p = qat s q bs 0 (p + 1) := by
  unfold qat; rw [drop_cons s p h, qs, if_pos rfl, if_pos hc]; omega
theorem qat_two_other (s : ByteArray) (q : UInt8) (bs : Bool) (p : Nat) (h : p < s.size) (hc : ¬ s[p] = q) : qat s q bs 2 p = p := by
  unfold qat; rw [drop_cons s p h, qs, if_pos rfl, if_neg hc]; omega
theorem qat_le (s : ByteArray) (q : UInt8) (bs : Bool) (st p : Nat) (h : p ≤ s.size) : qat s q bs st p ≤ s.size := by
  unfold qat
  have := qs_le q bs st (s.data.toList.drop p)
  rw [List.length_drop] at this
  have e : s.data.toList.length = s.size := by simp
  omega
end Go.Proofs.Qxb6601301a.TokP
