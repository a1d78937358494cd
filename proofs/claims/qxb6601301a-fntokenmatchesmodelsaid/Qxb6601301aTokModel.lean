import Derived.Test.Qxb6601301aTok
namespace Go.Proofs.Qxb6601301a.Tk
open Go.RowKit TokP
set_option linter.unusedSimpArgs false
set_option linter.unusedVariables false

theorem low26W (a : ByteArray) (L : List UInt8) (w : World) (hs : a.size ≤ 1048576) (hL : Hid (a.data.toList.map low = L)) :
    Calls Try.prog 26 #[.string a] w fun e w' => e = .returned (.string ⟨L.toArray⟩) ∧ Below w.heap.size w w' := by
  refine (low26 a w hs).mono ?_
  rintro e w' ⟨rfl, hb⟩
  rw [hL.out]
  exact ⟨rfl, hb⟩

set_option maxRecDepth 100000 in
set_option maxHeartbeats 2000000 in
theorem model_q (s : ByteArray) (i : Nat) (bs : Bool) (w : World) (hs : s.size ≤ 1048576) (hi : i < s.size) (h : s[i] = 39) :
    Calls Try.prog 16 #[.string s, .int .i64 (i : Int), .bool bs] w fun e w' => e = .returned (.tuple #[.string ⟨#[39]⟩, .int .i64 ((qat s 39 bs 0 (i + 1) : Nat) : Int)]) ∧ Below w.heap.size w w' := by
  have hb : ((s[i].toNat : Int) == 39) = true := by rw [h]; rfl
  have H : Hid (s[i] = 39) := h
  clear h
  go_enter Try.func16, Try.ntmps16
  go_wp2_with (go_at_call 22; refine (quoteEnd22 s i 39 bs _ hs hi H.out).mono ?_; rintro e w' ⟨rfl, hw⟩; rw [hw]; clear hw)
  go_ret2
  exact ⟨rfl, Below.refl _ _⟩

set_option maxRecDepth 100000 in
set_option maxHeartbeats 2000000 in
theorem model_d (s : ByteArray) (i : Nat) (bs : Bool) (w : World) (hs : s.size ≤ 1048576) (hi : i < s.size) (h : s[i] = 34) :
    Calls Try.prog 16 #[.string s, .int .i64 (i : Int), .bool bs] w fun e w' => e = .returned (.tuple #[.string ⟨#[34]⟩, .int .i64 ((qat s 34 false 0 (i + 1) : Nat) : Int)]) ∧ Below w.heap.size w w' := by
  have hb : ((s[i].toNat : Int) == 39) = false := by rw [h]; rfl
  have hb2 : ((s[i].toNat : Int) == 34) = true := by rw [h]; rfl
  have H : Hid (s[i] = 34) := h
  clear h
  go_enter Try.func16, Try.ntmps16
  go_wp2_with (go_at_call 22; refine (quoteEnd22 s i 34 false _ hs hi H.out).mono ?_; rintro e w' ⟨rfl, hw⟩; rw [hw]; clear hw)
  go_ret2
  exact ⟨rfl, Below.refl _ _⟩

set_option maxRecDepth 100000 in
set_option maxHeartbeats 2000000 in
theorem model_m (s : ByteArray) (i : Nat) (bs : Bool) (w : World) (hs : s.size ≤ 1048576) (hi : i < s.size) (h : s[i] = 36) :
    Calls Try.prog 16 #[.string s, .int .i64 (i : Int), .bool bs] w fun e w' => e = .returned (.tuple #[.string ⟨#[36]⟩, .int .i64 ((dolAt s i : Nat) : Int)]) ∧ Below w.heap.size w w' := by
  have hb : ((s[i].toNat : Int) == 39) = false := by rw [h]; rfl
  have hb2 : ((s[i].toNat : Int) == 34) = false := by rw [h]; rfl
  have hb3 : ((s[i].toNat : Int) == 36) = true := by rw [h]; rfl
  have H : Hid (s[i] = 36) := h
  clear h
  go_enter Try.func16, Try.ntmps16
  go_wp2_with (go_at_call 23; refine (dollar23 s i _ hs hi).mono ?_; rintro e w1 ⟨rfl, hb1⟩)
  go_ret2
  exact ⟨rfl, hb1⟩

set_option maxRecDepth 100000 in
set_option maxHeartbeats 2000000 in
theorem model_s (s : ByteArray) (i : Nat) (bs : Bool) (w : World) (hs : s.size ≤ 1048576) (hi : i < s.size) (h1 : ¬ s[i].toNat = 39) (h2 : ¬ s[i].toNat = 34) (h3 : ¬ s[i].toNat = 36) (h : isStart s[i] = false) :
    Calls Try.prog 16 #[.string s, .int .i64 (i : Int), .bool bs] w fun e w' => e = .returned (.tuple #[.string (s.extract i (i + 1)), .int .i64 ((i : Int) + 1)]) ∧ Below w.heap.size w w' := by
  have hb : ((s[i].toNat : Int) == 39) = false := ne_beq h1
  have hb2 : ((s[i].toNat : Int) == 34) = false := ne_beq h2
  have hb3 : ((s[i].toNat : Int) == 36) = false := ne_beq h3
  clear h1 h2 h3
  go_enter Try.func16, Try.ntmps16
  go_wp2_with (go_at_call 24; refine (start24 s[i] _).mono ?_; rintro e w' ⟨rfl, hw⟩; rw [hw]; clear hw)
  go_ret2
  exact ⟨rfl, Below.refl _ _⟩

set_option maxRecDepth 100000 in
set_option maxHeartbeats 2000000 in
theorem model_e (s : ByteArray) (i E : Nat) (bs : Bool) (w : World) (hs : s.size ≤ 1048576) (hi : i < s.size) (h : isStart s[i] = true) (hE : wat s isCont (i + 1) = E)
    (h1 : E = i + 1 ∧ (s[i].toNat = 101 ∨ s[i].toNat = 69)) (hEs : E < s.size) (h39 : s[E] = 39) :
    Calls Try.prog 16 #[.string s, .int .i64 (i : Int), .bool bs] w fun e w' => e = .returned (.tuple #[.string ⟨#[39]⟩, .int .i64 ((qat s 39 true 0 (E + 1) : Nat) : Int)]) ∧ Below w.heap.size w w' := by
  obtain ⟨n1, n2, n3⟩ := start_ne s[i] h
  have hb : ((s[i].toNat : Int) == 39) = false := ne_beq (fun e => n1 (UInt8.toNat_inj.1 e))
  have hb2 : ((s[i].toNat : Int) == 34) = false := ne_beq (fun e => n2 (UInt8.toNat_inj.1 e))
  have hb3 : ((s[i].toNat : Int) == 36) = false := ne_beq (fun e => n3 (UInt8.toNat_inj.1 e))
  obtain ⟨rfl, h1⟩ := h1
  have hq : ((s[i + 1].toNat : Int) == 39) = true := by rw [h39]; rfl
  have HE : Hid (wat s isCont (i + 1) = i + 1) := hE
  have H39 : Hid (s[i + 1] = 39) := h39
  have h69 : ((s[i].toNat : Int) == 101) = true ∨ (((s[i].toNat : Int) == 101) = false ∧ ((s[i].toNat : Int) == 69) = true) := by
    rcases h1 with h | h
    · left; rw [h]; rfl
    · right; rw [h]; exact ⟨rfl, rfl⟩
  clear n1 n2 n3 hE h39 h1
  rcases h69 with h69 | ⟨h69, h69b⟩
  all_goals
    go_enter Try.func16, Try.ntmps16
    go_wp2_with (go_at_call 24; refine (start24 s[i] _).mono ?_; rintro e w' ⟨rfl, hw⟩; rw [hw]; clear hw)
    go_loop [9] (fun p => ∃ k : Nat, k ≤ s.size ∧ i + 1 ≤ k ∧ p = .int .i64 k ∧ Hid (wat s isCont k = i + 1)) (fun p => s.size - (intOf p).toNat)
    case atStart => exact ⟨i + 1, by omega, by omega, by go_num, HE⟩
    case round =>
      obtain ⟨k, hk, hik, rfl, hat⟩ := hrel
      by_cases hlt : k < s.size
      · cases hct : isCont s[k]
        · have hkE := w_off hlt hat hct
          subst hkE
          go_wp2_with (first
            | (go_at_call 25; refine (cont25 s[i + 1] _).mono ?_; rintro e w' ⟨rfl, hw⟩; rw [hw]; clear hw)
            | (go_at_call 22; refine (quoteEnd22 s (i + 1) 39 true _ hs hlt H39.out).mono ?_; rintro e w' ⟨rfl, hw⟩; rw [hw]; clear hw))
          go_ret2
          exact ⟨rfl, Below.refl _ _⟩
        · have hat2 := w_on hlt hat hct
          go_wp2_with (go_at_call 25; refine (cont25 s[k] _).mono ?_; rintro e w' ⟨rfl, hw⟩; rw [hw]; clear hw)
          go_round
          case rel => exact ⟨k + 1, by omega, by omega, by go_num, hat2⟩
          case measure => simp [intOf]; omega
      · have hkE := w_end hlt hat
        omega

set_option maxRecDepth 100000 in
set_option maxHeartbeats 2000000 in
theorem model_w (s : ByteArray) (i E : Nat) (L : List UInt8) (bs : Bool) (w : World) (hs : s.size ≤ 1048576) (hi : i < s.size) (h : isStart s[i] = true) (hE : wat s isCont (i + 1) = E)
    (hL : (s.extract i E).data.toList.map low = L) (hn : ¬ ((E = i + 1 ∧ (s[i].toNat = 101 ∨ s[i].toNat = 69)) ∧ ∃ h : E < s.size, s[E].toNat = 39)) :
    Calls Try.prog 16 #[.string s, .int .i64 (i : Int), .bool bs] w fun e w' => e = .returned (.tuple #[.string ⟨L.toArray⟩, .int .i64 (E : Int)]) ∧ Below w.heap.size w w' := by
  obtain ⟨n1, n2, n3⟩ := start_ne s[i] h
  have hb : ((s[i].toNat : Int) == 39) = false := ne_beq (fun e => n1 (UInt8.toNat_inj.1 e))
  have hb2 : ((s[i].toNat : Int) == 34) = false := ne_beq (fun e => n2 (UInt8.toNat_inj.1 e))
  have hb3 : ((s[i].toNat : Int) == 36) = false := ne_beq (fun e => n3 (UInt8.toNat_inj.1 e))
  have HL : Hid ((s.extract i E).data.toList.map low = L) := hL
  have HE : Hid (wat s isCont (i + 1) = E) := hE
  have HN : Hid (¬ ((E = i + 1 ∧ (s[i].toNat = 101 ∨ s[i].toNat = 69)) ∧ ∃ h : E < s.size, s[E].toNat = 39)) := hn
  clear n1 n2 n3 hE hL hn
  go_enter Try.func16, Try.ntmps16
  go_wp2_with (go_at_call 24; refine (start24 s[i] _).mono ?_; rintro e w' ⟨rfl, hw⟩; rw [hw]; clear hw)
  go_loop [9] (fun p => ∃ k : Nat, k ≤ s.size ∧ i + 1 ≤ k ∧ p = .int .i64 k ∧ Hid (wat s isCont k = E)) (fun p => s.size - (intOf p).toNat)
  case atStart => exact ⟨i + 1, by omega, by omega, by go_num, HE⟩
  case round =>
    obtain ⟨k, hk, hik, rfl, hat⟩ := hrel
    by_cases hlt : k < s.size
    · cases hct : isCont s[k]
      · have hkE := w_off hlt hat hct
        subst hkE
        by_cases hk1 : k = i + 1
        · have hkb : ((k : Int) == (i : Int) + 1) = true := by simp; omega
          by_cases hc : s[i].toNat = 101 ∨ s[i].toNat = 69
          · have h39 : ¬ s[k].toNat = 39 := fun e => HN.out ⟨⟨hk1, hc⟩, hlt, e⟩
            have h39b : ((s[k].toNat : Int) == 39) = false := ne_beq h39
            have h69 : ((s[i].toNat : Int) == 101) = true ∨ (((s[i].toNat : Int) == 101) = false ∧ ((s[i].toNat : Int) == 69) = true) := by
              rcases hc with h | h
              · left; rw [h]; rfl
              · right; rw [h]; exact ⟨rfl, rfl⟩
            clear hc h39 hk1
            rcases h69 with h69 | ⟨h69, h69b⟩
            all_goals
              go_wp2_with (first
                | (go_at_call 25; refine (cont25 s[k] _).mono ?_; rintro e w' ⟨rfl, hw⟩; rw [hw]; clear hw)
                | (go_at_call 26; refine (low26W (s.extract i k) L _ (by simp; omega) HL).mono ?_; rintro e w1 ⟨rfl, hb1⟩))
              go_ret2
              exact ⟨rfl, hb1⟩
          · have hc1 : ((s[i].toNat : Int) == 101) = false := ne_beq (fun e => hc (Or.inl e))
            have hc2 : ((s[i].toNat : Int) == 69) = false := ne_beq (fun e => hc (Or.inr e))
            clear hc hk1
            go_wp2_with (first
              | (go_at_call 25; refine (cont25 s[k] _).mono ?_; rintro e w' ⟨rfl, hw⟩; rw [hw]; clear hw)
              | (go_at_call 26; refine (low26W (s.extract i k) L _ (by simp; omega) HL).mono ?_; rintro e w1 ⟨rfl, hb1⟩))
            go_ret2
            exact ⟨rfl, hb1⟩
        · have hkb : ((k : Int) == (i : Int) + 1) = false := by simp; omega
          clear hk1
          go_wp2_with (first
            | (go_at_call 25; refine (cont25 s[k] _).mono ?_; rintro e w' ⟨rfl, hw⟩; rw [hw]; clear hw)
            | (go_at_call 26; refine (low26W (s.extract i k) L _ (by simp; omega) HL).mono ?_; rintro e w1 ⟨rfl, hb1⟩))
          go_ret2
          exact ⟨rfl, hb1⟩
      · have hat2 := w_on hlt hat hct
        go_wp2_with (go_at_call 25; refine (cont25 s[k] _).mono ?_; rintro e w' ⟨rfl, hw⟩; rw [hw]; clear hw)
        go_round
        case rel => exact ⟨k + 1, by omega, by omega, by go_num, hat2⟩
        case measure => simp [intOf]; omega
    · have hkE := w_end hlt hat
      subst hkE
      have hdec : decide (k < s.size) = false := decide_eq_false hlt
      by_cases hk1 : k = i + 1
      · have hkb : ((k : Int) == (i : Int) + 1) = true := by simp; omega
        clear hk1
        by_cases hc1 : s[i].toNat = 101
        · have hcb : ((s[i].toNat : Int) == 101) = true := by rw [hc1]; rfl
          clear hc1
          go_wp2_with (go_at_call 26; refine (low26W (s.extract i k) L _ (by simp; omega) HL).mono ?_; rintro e w1 ⟨rfl, hb1⟩)
          go_ret2
          exact ⟨rfl, hb1⟩
        · have hcb : ((s[i].toNat : Int) == 101) = false := ne_beq hc1
          clear hc1
          by_cases hc2 : s[i].toNat = 69
          · have hcb2 : ((s[i].toNat : Int) == 69) = true := by rw [hc2]; rfl
            clear hc2
            go_wp2_with (go_at_call 26; refine (low26W (s.extract i k) L _ (by simp; omega) HL).mono ?_; rintro e w1 ⟨rfl, hb1⟩)
            go_ret2
            exact ⟨rfl, hb1⟩
          · have hcb2 : ((s[i].toNat : Int) == 69) = false := ne_beq hc2
            clear hc2
            go_wp2_with (go_at_call 26; refine (low26W (s.extract i k) L _ (by simp; omega) HL).mono ?_; rintro e w1 ⟨rfl, hb1⟩)
            go_ret2
            exact ⟨rfl, hb1⟩
      · have hkb : ((k : Int) == (i : Int) + 1) = false := by simp; omega
        clear hk1
        go_wp2_with (go_at_call 26; refine (low26W (s.extract i k) L _ (by simp; omega) HL).mono ?_; rintro e w1 ⟨rfl, hb1⟩)
        go_ret2
        exact ⟨rfl, hb1⟩

theorem model16 (s : ByteArray) (i : Nat) (bs : Bool) (L : List UInt8) (E : Nat) (w : World) (hs : s.size ≤ 1048576) (hi : i < s.size) (hT : TK s bs i L E) :
    Calls Try.prog 16 #[.string s, .int .i64 (i : Int), .bool bs] w fun e w' => e = .returned (.tuple #[.string ⟨L.toArray⟩, .int .i64 (E : Int)]) ∧ Below w.heap.size w w' := by
  have key : ∀ (L' : List UInt8) (E' : Nat), TK s bs i L' E' → L' = L ∧ E' = E := fun L' E' h => ⟨h.1.symm.trans hT.1, h.2.symm.trans hT.2⟩
  by_cases h39 : s[i] = 39
  · obtain ⟨rfl, rfl⟩ := key _ _ (tk_39 s bs i hi h39)
    exact model_q s i bs w hs hi h39
  by_cases h34 : s[i] = 34
  · obtain ⟨rfl, rfl⟩ := key _ _ (tk_34 s bs i hi h34)
    exact model_d s i bs w hs hi h34
  by_cases h36 : s[i] = 36
  · obtain ⟨rfl, rfl⟩ := key _ _ (tk_36 s bs i hi h36)
    exact model_m s i bs w hs hi h36
  cases hst : isStart s[i] with
  | false =>
    obtain ⟨rfl, rfl⟩ := key _ _ (tk_sym s bs i hi h39 h34 h36 hst)
    refine (model_s s i bs w hs hi (fun e => h39 (UInt8.toNat_inj.1 e)) (fun e => h34 (UInt8.toNat_inj.1 e)) (fun e => h36 (UInt8.toNat_inj.1 e)) hst).mono ?_
    rintro e w' ⟨rfl, hb⟩
    exact ⟨ret_pair (one_byte s i hi) (by omega), hb⟩
  | true =>
    obtain ⟨F, hF⟩ : ∃ F, wat s isCont (i + 1) = F := ⟨_, rfl⟩
    have hge := wat_ge s isCont (i + 1)
    have hle := wat_le s isCont (i + 1) (by omega)
    by_cases he : (F = i + 1 ∧ (s[i].toNat = 101 ∨ s[i].toNat = 69)) ∧ ∃ h : F < s.size, s[F] = 39
    · obtain ⟨rfl, rfl⟩ := key _ _ (tk_e s bs i F hi hst hF he.1 he.2)
      obtain ⟨h1, h2, h3⟩ := he
      exact model_e s i F bs w hs hi hst hF h1 h2 h3
    · obtain ⟨rfl, rfl⟩ := key _ _ (tk_word s bs i F hi hst hF he)
      exact model_w s i F _ bs w hs hi hst hF rfl (fun ⟨h1, h2, h3⟩ => he ⟨h1, h2, UInt8.toNat_inj.1 h3⟩)
end Go.Proofs.Qxb6601301a.Tk
