namespace Go.Proofs.Qxb6601301a.Plain

def isSp (c : UInt8) : Bool := c.toNat == 32 || c.toNat == 9 || c.toNat == 10 || c.toNat == 13 || c.toNat == 12 || c.toNat == 11

/-- How many bytes the state machine of ssModel takes off the list, from state 'st' on. -/
def sk : Int → List UInt8 → Nat
  | _, [] => 0
  | st, [c] => if st = 0 then (if isSp c then 1 else 0) else 1
  | st, c :: d :: r =>
    if st = 0 then
      if isSp c then 1 + sk 0 (d :: r)
      else if c = 45 ∧ d = 45 then 2 + sk (-1) r
      else if c = 47 ∧ d = 42 then 2 + sk 1 r
      else 0
    else if st < 0 then
      if c = 10 ∨ c = 13 then 1 + sk 0 (d :: r) else 1 + sk (-1) (d :: r)
    else if c = 47 ∧ d = 42 then 2 + sk (st + 1) r
    else if c = 42 ∧ d = 47 then 2 + sk (st - 1) r
    else 1 + sk st (d :: r)

theorem sk_le : ∀ (st : Int) (l : List UInt8), sk st l ≤ l.length
  | _, [] => by simp [sk]
  | st, [c] => by unfold sk; repeat' split
                  all_goals simp
  | st, c :: d :: r => by
    have h1 := sk_le 0 (d :: r)
    have h2 := sk_le (-1) r
    have h3 := sk_le 1 r
    have h4 := sk_le (-1) (d :: r)
    have h5 := sk_le (st + 1) r
    have h6 := sk_le (st - 1) r
    have h7 := sk_le st (d :: r)
    unfold sk
    simp only [List.length_cons] at *
    repeat' split
    all_goals omega

theorem sk_idem : ∀ (st : Int) (l : List UInt8), sk 0 (l.drop (sk st l)) = 0
  | _, [] => by simp [sk]
  | st, [c] => by
    by_cases h : sk st [c] = 0
    · rw [h]
      unfold sk at h
      by_cases h0 : st = 0
      · subst h0; simpa [sk] using h
      · simp [h0] at h
    · have := sk_le st [c]
      have e : sk st [c] = 1 := by simp at this; omega
      rw [e]; simp [sk]
  | st, c :: d :: r => by
    have h1 := sk_idem 0 (d :: r)
    have h2 := sk_idem (-1) r
    have h3 := sk_idem 1 r
    have h4 := sk_idem (-1) (d :: r)
    have h5 := sk_idem (st + 1) r
    have h6 := sk_idem (st - 1) r
    have h7 := sk_idem st (d :: r)
    have d1 : ∀ n, (c :: d :: r).drop (1 + n) = (d :: r).drop n := fun n => by rw [Nat.add_comm]; rfl
    have d2 : ∀ n, (c :: d :: r).drop (2 + n) = r.drop n := fun n => by rw [Nat.add_comm]; rfl
    generalize hk : sk st (c :: d :: r) = k
    unfold sk at hk
    by_cases s0 : st = 0
    · rw [if_pos s0] at hk
      by_cases a : isSp c = true
      · rw [if_pos a] at hk; subst hk; rw [d1]; exact h1
      · rw [if_neg a] at hk
        by_cases b : c = 45 ∧ d = 45
        · rw [if_pos b] at hk; subst hk; rw [d2]; exact h2
        · rw [if_neg b] at hk
          by_cases e : c = 47 ∧ d = 42
          · rw [if_pos e] at hk; subst hk; rw [d2]; exact h3
          · rw [if_neg e] at hk; subst hk
            rw [List.drop_zero]; unfold sk
            rw [if_pos rfl, if_neg a, if_neg b, if_neg e]
    · rw [if_neg s0] at hk
      by_cases sn : st < 0
      · rw [if_pos sn] at hk
        by_cases a : c = 10 ∨ c = 13
        · rw [if_pos a] at hk; subst hk; rw [d1]; exact h1
        · rw [if_neg a] at hk; subst hk; rw [d1]; exact h4
      · rw [if_neg sn] at hk
        by_cases b : c = 47 ∧ d = 42
        · rw [if_pos b] at hk; subst hk; rw [d2]; exact h5
        · rw [if_neg b] at hk
          by_cases e : c = 42 ∧ d = 47
          · rw [if_pos e] at hk; subst hk; rw [d2]; exact h6
          · rw [if_neg e] at hk; subst hk; rw [d1]; exact h7

theorem drop_cons (s : ByteArray) (p : Nat) (h : p < s.size) : s.data.toList.drop p = s[p] :: s.data.toList.drop (p + 1) := by
  have h' : p < s.data.toList.length := by simpa using h
  rw [List.drop_eq_getElem_cons h']; rfl
theorem drop_end (s : ByteArray) (p : Nat) (h : s.size ≤ p) : s.data.toList.drop p = [] := by
  apply List.drop_eq_nil_of_le; simpa using h

/-- Where the machine stops, started at place p in state 'st'. -/
def at_ (s : ByteArray) (st : Int) (p : Nat) : Nat := p + sk st (s.data.toList.drop p)

theorem at_end (s : ByteArray) (st : Int) (p : Nat) (h : s.size ≤ p) : at_ s st p = p := by
  unfold at_; rw [drop_end s p h]; simp [sk]
theorem at_ge (s : ByteArray) (st : Int) (p : Nat) : p ≤ at_ s st p := by unfold at_; omega
theorem at_le (s : ByteArray) (st : Int) (p : Nat) (h : p ≤ s.size) : at_ s st p ≤ s.size := by
  unfold at_
  have := sk_le st (s.data.toList.drop p)
  rw [List.length_drop] at this
  have e : s.data.toList.length = s.size := by simp
  omega
theorem at_idem (s : ByteArray) (st : Int) (p : Nat) : at_ s 0 (at_ s st p) = at_ s st p := by
  have h := sk_idem st (s.data.toList.drop p)
  rw [List.drop_drop] at h
  show at_ s st p + sk 0 (s.data.toList.drop (at_ s st p)) = at_ s st p
  have e : at_ s st p = p + sk st (s.data.toList.drop p) := rfl
  rw [e, h]; omega

/-- Do the first two bytes read a, b? -/
def pre2 (a b : UInt8) : List UInt8 → Bool
  | c :: d :: _ => c == a && d == b
  | _ => false
theorem prefixOf_two (a b : UInt8) (l : List UInt8) : [a, b].isPrefixOf l = pre2 a b l := by
  match l with
  | [] => rfl
  | [c] => simp [pre2, List.isPrefixOf]
  | c :: d :: r =>
    simp only [pre2, List.isPrefixOf, Bool.and_true]
    rw [BEq.comm (a := a), BEq.comm (a := b)]

theorem sk0_space (c : UInt8) (r : List UInt8) (h : isSp c = true) : sk 0 (c :: r) = 1 + sk 0 r := by
  cases r with
  | nil => simp [sk, h]
  | cons d r => rw [sk, if_pos rfl, if_pos h]
theorem sk0_dash (l : List UInt8) (h : pre2 45 45 l = true) : sk 0 l = 2 + sk (-1) (l.drop 2) := by
  match l, h with
  | c :: d :: r, h =>
    simp [pre2] at h
    obtain ⟨rfl, rfl⟩ := h
    rw [sk, if_pos rfl, if_neg (by decide), if_pos (by decide)]; rfl
theorem sk0_open (l : List UInt8) (h : pre2 47 42 l = true) : sk 0 l = 2 + sk 1 (l.drop 2) := by
  match l, h with
  | c :: d :: r, h =>
    simp [pre2] at h
    obtain ⟨rfl, rfl⟩ := h
    rw [sk, if_pos rfl, if_neg (by decide), if_neg (by decide), if_pos (by decide)]; rfl
theorem sk0_stop (c : UInt8) (r : List UInt8) (h : isSp c = false) (h1 : pre2 45 45 (c :: r) = false) (h2 : pre2 47 42 (c :: r) = false) : sk 0 (c :: r) = 0 := by
  cases r with
  | nil => simp [sk, h]
  | cons d r =>
    rw [sk, if_pos rfl, if_neg (by rw [h]; decide), if_neg (by simpa [pre2] using h1), if_neg (by simpa [pre2] using h2)]
theorem skl_nl (c : UInt8) (r : List UInt8) (h : c = 10 ∨ c = 13) : sk (-1) (c :: r) = 1 + sk 0 r := by
  cases r with
  | nil => simp [sk]
  | cons d r => rw [sk, if_neg (by decide), if_pos (by decide), if_pos h]
theorem skl_other (c : UInt8) (r : List UInt8) (h : ¬ (c = 10 ∨ c = 13)) : sk (-1) (c :: r) = 1 + sk (-1) r := by
  cases r with
  | nil => simp [sk]
  | cons d r => rw [sk, if_neg (by decide), if_pos (by decide), if_neg h]
theorem skb_open (st : Int) (hst : 0 < st) (l : List UInt8) (h : pre2 47 42 l = true) : sk st l = 2 + sk (st + 1) (l.drop 2) := by
  match l, h with
  | c :: d :: r, h =>
    simp [pre2] at h
    rw [sk, if_neg (by omega), if_neg (by omega), if_pos h]; rfl
theorem skb_close (st : Int) (hst : 0 < st) (l : List UInt8) (h : pre2 42 47 l = true) : sk st l = 2 + sk (st - 1) (l.drop 2) := by
  match l, h with
  | c :: d :: r, h =>
    simp [pre2] at h
    rw [sk, if_neg (by omega), if_neg (by omega), if_neg (by obtain ⟨rfl, rfl⟩ := h; decide), if_pos h]; rfl
theorem skb_other (st : Int) (hst : 0 < st) (c : UInt8) (r : List UInt8) (h1 : pre2 47 42 (c :: r) = false) (h2 : pre2 42 47 (c :: r) = false) : sk st (c :: r) = 1 + sk st r := by
  cases r with
  | nil => have e : ¬ st = 0 := by omega
           simp [sk, e]
  | cons d r =>
    rw [sk, if_neg (by omega), if_neg (by omega), if_neg (by simpa [pre2] using h1), if_neg (by simpa [pre2] using h2)]

/-! In places of a text. -/
def two (s : ByteArray) (a b : UInt8) (p : Nat) : Bool := pre2 a b (s.data.toList.drop p)

theorem at0_space (s : ByteArray) (p : Nat) (h : p < s.size) (hs : isSp s[p] = true) : at_ s 0 p = at_ s 0 (p + 1) := by
  unfold at_; rw [drop_cons s p h, sk0_space _ _ hs]; omega
theorem at0_dash (s : ByteArray) (p : Nat) (h : two s 45 45 p = true) : at_ s 0 p = at_ s (-1) (p + 2) := by
  unfold at_; rw [sk0_dash _ h, List.drop_drop]; omega
theorem at0_open (s : ByteArray) (p : Nat) (h : two s 47 42 p = true) : at_ s 0 p = at_ s 1 (p + 2) := by
  unfold at_; rw [sk0_open _ h, List.drop_drop]; omega
theorem at0_stop (s : ByteArray) (p : Nat) (h : p < s.size) (hs : isSp s[p] = false) (h1 : two s 45 45 p = false) (h2 : two s 47 42 p = false) : at_ s 0 p = p := by
  unfold two at h1 h2
  rw [drop_cons s p h] at h1 h2
  unfold at_; rw [drop_cons s p h, sk0_stop _ _ hs h1 h2]; omega
theorem atl_nl (s : ByteArray) (p : Nat) (h : p < s.size) (hc : s[p] = 10 ∨ s[p] = 13) : at_ s (-1) p = at_ s 0 (p + 1) := by
  unfold at_; rw [drop_cons s p h, skl_nl _ _ hc]; omega
theorem atl_other (s : ByteArray) (p : Nat) (h : p < s.size) (hc : ¬ (s[p] = 10 ∨ s[p] = 13)) : at_ s (-1) p = at_ s (-1) (p + 1) := by
  unfold at_; rw [drop_cons s p h, skl_other _ _ hc]; omega
theorem atb_open (s : ByteArray) (st : Int) (p : Nat) (hst : 0 < st) (h : two s 47 42 p = true) : at_ s st p = at_ s (st + 1) (p + 2) := by
  unfold at_; rw [skb_open _ hst _ h, List.drop_drop]; omega
theorem atb_close (s : ByteArray) (st : Int) (p : Nat) (hst : 0 < st) (h : two s 42 47 p = true) : at_ s st p = at_ s (st - 1) (p + 2) := by
  unfold at_; rw [skb_close _ hst _ h, List.drop_drop]; omega
theorem atb_other (s : ByteArray) (st : Int) (p : Nat) (hst : 0 < st) (h : p < s.size) (h1 : two s 47 42 p = false) (h2 : two s 42 47 p = false) : at_ s st p = at_ s st (p + 1) := by
  unfold two at h1 h2
  rw [drop_cons s p h] at h1 h2
  unfold at_; rw [drop_cons s p h, skb_other _ hst _ _ h1 h2]; omega

theorem two_room (s : ByteArray) (a b : UInt8) (p : Nat) (h : two s a b p = true) : p + 2 ≤ s.size := by
  by_cases h1 : p < s.size
  · by_cases h2 : p + 1 < s.size
    · omega
    · unfold two at h; rw [drop_cons s p h1, drop_end s (p + 1) (by omega)] at h; simp [pre2] at h
  · unfold two at h; rw [drop_end s p (by omega)] at h; simp [pre2] at h
theorem two_at (s : ByteArray) (a b : UInt8) (p : Nat) (h : p + 1 < s.size) : two s a b p = (s[p] == a && s[p + 1] == b) := by
  unfold two; rw [drop_cons s p (by omega), drop_cons s (p + 1) h]; rfl
theorem two_last (s : ByteArray) (a b : UInt8) (p : Nat) (h : ¬ p + 1 < s.size) : two s a b p = false := by
  cases e : two s a b p with
  | false => rfl
  | true => have := two_room s a b p e; omega

theorem two_true (s : ByteArray) (a b : UInt8) (p : Nat) (h : p + 1 < s.size) (h1 : s[p].toNat = a.toNat) (h2 : s[p + 1].toNat = b.toNat) : two s a b p = true := by
  rw [two_at s a b p h]
  have e1 : s[p] = a := UInt8.toNat_inj.1 h1
  have e2 : s[p + 1] = b := UInt8.toNat_inj.1 h2
  rw [e1, e2]; simp
theorem two_false (s : ByteArray) (a b : UInt8) (p : Nat) (hn : ∀ h : p + 1 < s.size, ¬ (s[p].toNat = a.toNat ∧ s[p + 1].toNat = b.toNat)) : two s a b p = false := by
  by_cases h : p + 1 < s.size
  · rw [two_at s a b p h]
    cases e : (s[p] == a && s[p + 1] == b) with
    | false => rfl
    | true =>
      simp at e
      exact absurd ⟨congrArg UInt8.toNat e.1, congrArg UInt8.toNat e.2⟩ (hn h)
  · exact two_last s a b p h
theorem isSp_iff (c : UInt8) : isSp c = true ↔ (c.toNat = 32 ∨ c.toNat = 9 ∨ c.toNat = 10 ∨ c.toNat = 13 ∨ c.toNat = 12 ∨ c.toNat = 11) := by
  simp [isSp, or_assoc]
theorem nl_iff (c : UInt8) : (c = 10 ∨ c = 13) ↔ (c.toNat = 10 ∨ c.toNat = 13) :=
  ⟨fun h => by rcases h with h | h <;> subst h <;> decide, fun h => by
    rcases h with h | h
    · exact Or.inl (UInt8.toNat_inj.1 h)
    · exact Or.inr (UInt8.toNat_inj.1 h)⟩

end Go.Proofs.Qxb6601301a.Plain
