import Derived.Test.Qxb6601301aTokDolPlain
namespace Go.Proofs.Qxb6601301a.TokP
open Go.RowKit
set_option linter.unusedVariables false

/-- The token at place i has the text L and ends at E. -/
def TK (s : ByteArray) (bs : Bool) (i : Nat) (L : List UInt8) (E : Nat) : Prop := (tok bs (s.data.toList.drop i)).1 = L ∧ i + (tok bs (s.data.toList.drop i)).2 = E

theorem tk_39 (s : ByteArray) (bs : Bool) (i : Nat) (hi : i < s.size) (h : s[i] = 39) : TK s bs i [39] (qat s 39 bs 0 (i + 1)) := by
  unfold TK qat
  rw [drop_cons s i hi, h, tok_39]
  exact ⟨rfl, by show i + (1 + _) = _; omega⟩
theorem tk_34 (s : ByteArray) (bs : Bool) (i : Nat) (hi : i < s.size) (h : s[i] = 34) : TK s bs i [34] (qat s 34 false 0 (i + 1)) := by
  unfold TK qat
  rw [drop_cons s i hi, h, tok_34]
  exact ⟨rfl, by show i + (1 + _) = _; omega⟩
theorem tk_36 (s : ByteArray) (bs : Bool) (i : Nat) (hi : i < s.size) (h : s[i] = 36) : TK s bs i [36] (dolAt s i) := by
  unfold TK dolAt
  rw [drop_cons s i hi, h, tok_36]
  exact ⟨rfl, rfl⟩
theorem tk_sym (s : ByteArray) (bs : Bool) (i : Nat) (hi : i < s.size) (h1 : s[i] ≠ 39) (h2 : s[i] ≠ 34) (h3 : s[i] ≠ 36) (h : isStart s[i] = false) : TK s bs i [s[i]] (i + 1) := by
  unfold TK
  rw [drop_cons s i hi, tok_sym bs _ _ h1 h2 h3 h]
  exact ⟨rfl, rfl⟩

theorem word_at (s : ByteArray) (i : Nat) (hi : i < s.size) : i + word (s[i] :: s.data.toList.drop (i + 1)) = wat s isCont (i + 1) := by
  unfold word wat
  rw [List.drop_succ_cons, List.drop_zero]
  omega
theorem low_e (c : UInt8) : low c = 101 ↔ (c.toNat = 101 ∨ c.toNat = 69) := by
  unfold low
  split
  · rename_i h
    constructor
    · intro e
      right
      have := congrArg UInt8.toNat e
      rw [UInt8.toNat_add] at this
      have h32 : (32 : UInt8).toNat = 32 := rfl
      have h101 : (101 : UInt8).toNat = 101 := rfl
      omega
    · intro e
      have : c.toNat = 69 := by omega
      have : c = 69 := UInt8.toNat_inj.1 this
      subst this; rfl
  · rename_i h
    constructor
    · intro e; left; rw [e]; rfl
    · intro e
      have : c.toNat = 101 := by omega
      exact UInt8.toNat_inj.1 this
/-- When does the folded word read 'e'? -/
theorem word_e (s : ByteArray) (i E : Nat) (hi : i < s.size) (hE : i + 1 ≤ E) (hEs : E ≤ s.size) : (s.extract i E).data.toList.map low = [101] ↔ (E = i + 1 ∧ (s[i].toNat = 101 ∨ s[i].toNat = 69)) := by
  have hl : (s.extract i E).data.toList.length = E - i := by rw [← Lib.size_eq]; simp; omega
  constructor
  · intro e
    have h1 := congrArg List.length e
    rw [List.length_map, hl] at h1
    have h1' : E = i + 1 := by simp at h1; omega
    subst h1'
    refine ⟨rfl, ?_⟩
    rw [Lib.extract_data, drop_cons s i hi] at e
    have e2 : i + 1 - i = 1 := by omega
    rw [e2] at e
    simp at e
    exact (low_e _).1 e
  · rintro ⟨rfl, h⟩
    rw [Lib.extract_data, drop_cons s i hi]
    have e2 : i + 1 - i = 1 := by omega
    rw [e2]
    simp
    exact (low_e _).2 h
theorem head_39 (s : ByteArray) (p : Nat) : (s.data.toList.drop p).head? = some 39 ↔ ∃ h : p < s.size, s[p] = 39 := by
  by_cases h : p < s.size
  · rw [drop_cons s p h]
    exact ⟨fun e => ⟨h, by simpa using e⟩, fun ⟨_, e⟩ => by simp [e]⟩
  · rw [drop_end s p (by omega)]
    exact ⟨fun e => (by cases e), fun ⟨h', _⟩ => absurd h' h⟩
theorem tk_text (s : ByteArray) (i E : Nat) (hi : i < s.size) (hE : wat s isCont (i + 1) = E) : ((s[i] :: s.data.toList.drop (i + 1)).take (word (s[i] :: s.data.toList.drop (i + 1)))) = (s.extract i E).data.toList := by
  have := word_at s i hi
  rw [Lib.extract_data, drop_cons s i hi]
  have e : E - i = word (s[i] :: s.data.toList.drop (i + 1)) := by omega
  rw [e]
theorem tk_rest (s : ByteArray) (i E : Nat) (hi : i < s.size) (hE : wat s isCont (i + 1) = E) : ((s[i] :: s.data.toList.drop (i + 1)).drop (word (s[i] :: s.data.toList.drop (i + 1)))) = s.data.toList.drop E := by
  have := word_at s i hi
  rw [← drop_cons s i hi, List.drop_drop]
  have e : i + word (s.data.toList.drop i) = E := by rw [drop_cons s i hi]; omega
  rw [e]
theorem tk_rest2 (s : ByteArray) (i E : Nat) (hi : i < s.size) (hE : wat s isCont (i + 1) = E) : ((s[i] :: s.data.toList.drop (i + 1)).drop (word (s[i] :: s.data.toList.drop (i + 1)) + 1)) = s.data.toList.drop (E + 1) := by
  have := word_at s i hi
  rw [← drop_cons s i hi, List.drop_drop]
  have e : i + (word (s.data.toList.drop i) + 1) = E + 1 := by rw [drop_cons s i hi]; omega
  rw [e]
theorem tk_e (s : ByteArray) (bs : Bool) (i E : Nat) (hi : i < s.size) (h : isStart s[i] = true) (hE : wat s isCont (i + 1) = E) (h1 : E = i + 1 ∧ (s[i].toNat = 101 ∨ s[i].toNat = 69)) (h2 : ∃ h : E < s.size, s[E] = 39) :
    TK s bs i [39] (qat s 39 true 0 (E + 1)) := by
  have hw := word_at s i hi
  have hle : E ≤ s.size := by obtain ⟨h, _⟩ := h2; omega
  unfold TK qat
  rw [drop_cons s i hi, tok_e bs _ _ h (by rw [tk_text s i E hi hE]; exact (word_e s i E hi (by omega) hle).2 h1) (by rw [tk_rest s i E hi hE]; exact (head_39 s E).2 h2), tk_rest2 s i E hi hE]
  exact ⟨rfl, by show i + (_ + 1 + _) = _; omega⟩
theorem tk_word (s : ByteArray) (bs : Bool) (i E : Nat) (hi : i < s.size) (h : isStart s[i] = true) (hE : wat s isCont (i + 1) = E) (hn : ¬ ((E = i + 1 ∧ (s[i].toNat = 101 ∨ s[i].toNat = 69)) ∧ ∃ h : E < s.size, s[E] = 39)) :
    TK s bs i ((s.extract i E).data.toList.map low) E := by
  have hw := word_at s i hi
  have hge := wat_ge s isCont (i + 1)
  have hle := wat_le s isCont (i + 1) (by omega)
  unfold TK
  rw [drop_cons s i hi, tok_word bs _ _ h (by
    rw [tk_text s i E hi hE, tk_rest s i E hi hE, word_e s i E hi (by omega) (by omega), head_39]
    exact hn)]
  rw [tk_text s i E hi hE]
  exact ⟨rfl, by show i + _ = _; omega⟩
theorem tk_ok (s : ByteArray) (bs : Bool) (i : Nat) (hi : i < s.size) (L : List UInt8) (E : Nat) (h : TK s bs i L E) : i + 1 ≤ E ∧ E ≤ s.size ∧ 1 ≤ L.length ∧ L.length ≤ E - i := by
  obtain ⟨h1, h2⟩ := h
  have ho := tok_ok bs s[i] (s.data.toList.drop (i + 1))
  rw [← drop_cons s i hi, h1, List.length_drop] at ho
  have e : s.data.toList.length = s.size := by simp
  omega
theorem tk_shift (s : ByteArray) (bs : Bool) (i : Nat) (hi : i < s.size) (L : List UInt8) (E : Nat) (h : TK s bs i L E) : TK (s.extract i s.size) bs 0 L (E - i) := by
  obtain ⟨h1, h2⟩ := h
  unfold TK
  rw [Lib.extract_to_end, List.drop_zero]
  exact ⟨h1, by omega⟩
theorem tk_some (s : ByteArray) (bs : Bool) (i : Nat) : ∃ L E, TK s bs i L E := ⟨_, _, rfl, rfl⟩
end Go.Proofs.Qxb6601301a.TokP
