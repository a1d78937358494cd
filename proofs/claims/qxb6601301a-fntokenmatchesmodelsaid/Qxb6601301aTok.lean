import Derived.Test.Qxb6601301aTokAt
import Derived.Test.Qxb6601301aTokQuote
import Derived.Test.Qxb6601301aTokDol
import Derived.Test.Qxb6601301aTokLow
namespace Go.Proofs.Qxb6601301a.Tk
open Go.RowKit TokP
set_option linter.unusedSimpArgs false
set_option linter.unusedVariables false

theorem pre39 (s : ByteArray) (p : Nat) (t : Bool) (w : World) (h : Hid ((∃ h : p < s.size, s[p] = 39) ↔ t = true)) :
    Calls Try.prog 28 #[.string (s.extract p s.size), .string ⟨#[39]⟩] w fun e w' => e = .returned (.bool t) ∧ w' = w := by
  refine (Try.strings_HasPrefix _ _ _).mono ?_
  rintro e w' ⟨rfl, rfl⟩
  refine ⟨ret_bool ?_, rfl⟩
  rw [Bool.eq_iff_iff, ← h.out, ← head_39, Lib.extract_to_end]
  show List.isPrefixOf [39] (s.data.toList.drop p) = true ↔ _
  cases s.data.toList.drop p with
  | nil => simp
  | cons c r =>
    simp [List.isPrefixOf]
    exact ⟨Eq.symm, Eq.symm⟩
theorem pre39y (s : ByteArray) (p : Nat) (w : World) (hp : p < s.size) (h : Hid (s[p] = 39)) :
    Calls Try.prog 28 #[.string (s.extract p s.size), .string ⟨#[39]⟩] w fun e w' => e = .returned (.bool true) ∧ w' = w :=
  pre39 s p true w ⟨fun _ => rfl, fun _ => ⟨hp, h.out⟩⟩
theorem pre39n (s : ByteArray) (p : Nat) (w : World) (h : Hid (∀ h : p < s.size, ¬ s[p] = 39)) :
    Calls Try.prog 28 #[.string (s.extract p s.size), .string ⟨#[39]⟩] w fun e w' => e = .returned (.bool false) ∧ w' = w :=
  pre39 s p false w ⟨fun ⟨a, b⟩ => absurd b (h.out a), fun e => (by cases e)⟩
theorem low34W (a : ByteArray) (L : List UInt8) (w : World) (hs : a.size ≤ 1048576) (hL : Hid (a.data.toList.map low = L)) :
    Calls Try.prog 34 #[.string a] w fun e w' => e = .returned (.string ⟨L.toArray⟩) ∧ Below w.heap.size w w' := by
  refine (low34 a w hs).mono ?_
  rintro e w' ⟨rfl, hb⟩
  rw [hL.out]
  exact ⟨rfl, hb⟩

set_option maxRecDepth 100000 in
set_option maxHeartbeats 2000000 in
theorem token_q (s : ByteArray) (i : Nat) (bs : Bool) (w : World) (hs : s.size ≤ 1048576) (hi : i < s.size) (h : s[i] = 39) :
    Calls Try.prog 21 #[.string s, .int .i64 (i : Int), .bool bs] w fun e w' => e = .returned (.tuple #[.string ⟨#[39]⟩, .int .i64 ((qat s 39 bs 0 (i + 1) : Nat) : Int)]) ∧ Below w.heap.size w w' := by
  have hb : ((s[i].toNat : Int) == 39) = true := by rw [h]; rfl
  have H : Hid (s[i] = 39) := h
  clear h
  go_enter Try.func21, Try.ntmps21
  go_wp2_with (go_at_call 30; refine (quoted30 s i 39 bs _ hs hi H.out).mono ?_; rintro e w' ⟨rfl, hw⟩; rw [hw]; clear hw)
  go_ret2
  exact ⟨rfl, Below.refl _ _⟩

set_option maxRecDepth 100000 in
set_option maxHeartbeats 2000000 in
theorem token_d (s : ByteArray) (i : Nat) (bs : Bool) (w : World) (hs : s.size ≤ 1048576) (hi : i < s.size) (h : s[i] = 34) :
    Calls Try.prog 21 #[.string s, .int .i64 (i : Int), .bool bs] w fun e w' => e = .returned (.tuple #[.string ⟨#[34]⟩, .int .i64 ((qat s 34 false 0 (i + 1) : Nat) : Int)]) ∧ Below w.heap.size w w' := by
  have hb : ((s[i].toNat : Int) == 39) = false := by rw [h]; rfl
  have hb2 : ((s[i].toNat : Int) == 34) = true := by rw [h]; rfl
  have H : Hid (s[i] = 34) := h
  clear h
  go_enter Try.func21, Try.ntmps21
  go_wp2_with (go_at_call 30; refine (quoted30 s i 34 false _ hs hi H.out).mono ?_; rintro e w' ⟨rfl, hw⟩; rw [hw]; clear hw)
  go_ret2
  exact ⟨rfl, Below.refl _ _⟩

set_option maxRecDepth 100000 in
set_option maxHeartbeats 2000000 in
theorem token_m (s : ByteArray) (i : Nat) (bs : Bool) (m : Int) (w : World) (hs : s.size ≤ 1048576) (hi : i < s.size) (hm : w.cell? ⟨0, 0, none⟩ = some (.int .i64 m)) (h : s[i] = 36) :
    Calls Try.prog 21 #[.string s, .int .i64 (i : Int), .bool bs] w fun e w' => e = .returned (.tuple #[.string ⟨#[36]⟩, .int .i64 ((dolAt s i : Nat) : Int)]) ∧ Below w.heap.size w w' := by
  have hb : ((s[i].toNat : Int) == 39) = false := by rw [h]; rfl
  have hb2 : ((s[i].toNat : Int) == 34) = false := by rw [h]; rfl
  have hb3 : ((s[i].toNat : Int) == 36) = true := by rw [h]; rfl
  have H : Hid (s[i] = 36) := h
  have HM : Hid (w.cell? ⟨0, 0, none⟩ = some (.int .i64 m)) := hm
  clear h hm
  go_enter Try.func21, Try.ntmps21
  go_wp2_with (go_at_call 31; refine (dollar31 s i m _ hs hi HM.out).mono ?_; rintro e w' ⟨rfl, hw⟩; rw [hw]; clear hw)
  go_ret2
  exact ⟨rfl, Below.refl _ _⟩

theorem ne_beq {c : UInt8} {n : Nat} (h : ¬ c.toNat = n) : ((c.toNat : Int) == (n : Int)) = false := by simp; omega

set_option maxRecDepth 100000 in
set_option maxHeartbeats 2000000 in
theorem token_s (s : ByteArray) (i : Nat) (bs : Bool) (w : World) (hs : s.size ≤ 1048576) (hi : i < s.size) (h1 : ¬ s[i].toNat = 39) (h2 : ¬ s[i].toNat = 34) (h3 : ¬ s[i].toNat = 36) (h : isStart s[i] = false) :
    Calls Try.prog 21 #[.string s, .int .i64 (i : Int), .bool bs] w fun e w' => e = .returned (.tuple #[.string (s.extract i (i + 1)), .int .i64 ((i : Int) + 1)]) ∧ Below w.heap.size w w' := by
  have hb : ((s[i].toNat : Int) == 39) = false := ne_beq h1
  have hb2 : ((s[i].toNat : Int) == 34) = false := ne_beq h2
  have hb3 : ((s[i].toNat : Int) == 36) = false := ne_beq h3
  clear h1 h2 h3
  go_enter Try.func21, Try.ntmps21
  go_wp2_with (go_at_call 32; refine (start32 s[i] _).mono ?_; rintro e w' ⟨rfl, hw⟩; rw [hw]; clear hw)
  go_ret2
  exact ⟨rfl, Below.refl _ _⟩

set_option maxRecDepth 100000 in
set_option maxHeartbeats 2000000 in
theorem token_e (s : ByteArray) (i E : Nat) (bs : Bool) (w : World) (hs : s.size ≤ 1048576) (hi : i < s.size) (h : isStart s[i] = true) (hE : wat s isCont (i + 1) = E)
    (h1 : E = i + 1 ∧ (s[i].toNat = 101 ∨ s[i].toNat = 69)) (hEs : E < s.size) (h39 : s[E] = 39) :
    Calls Try.prog 21 #[.string s, .int .i64 (i : Int), .bool bs] w fun e w' => e = .returned (.tuple #[.string ⟨#[39]⟩, .int .i64 ((qat s 39 true 0 (E + 1) : Nat) : Int)]) ∧ Below w.heap.size w w' := by
  obtain ⟨n1, n2, n3⟩ := start_ne s[i] h
  have hb : ((s[i].toNat : Int) == 39) = false := ne_beq (fun e => n1 (UInt8.toNat_inj.1 e))
  have hb2 : ((s[i].toNat : Int) == 34) = false := ne_beq (fun e => n2 (UInt8.toNat_inj.1 e))
  have hb3 : ((s[i].toNat : Int) == 36) = false := ne_beq (fun e => n3 (UInt8.toNat_inj.1 e))
  have HL : Hid ((s.extract i E).data.toList.map low = [101]) := (word_e s i E hi (by omega) (by omega)).2 h1
  have HE : Hid (wat s isCont (i + 1) = E) := hE
  have H39 : Hid (s[E] = 39) := h39
  clear n1 n2 n3 h1 hE h39
  go_enter Try.func21, Try.ntmps21
  go_wp2_with (go_at_call 32; refine (start32 s[i] _).mono ?_; rintro e w' ⟨rfl, hw⟩; rw [hw]; clear hw)
  go_loop [9] (fun p => ∃ k : Nat, k ≤ s.size ∧ i + 1 ≤ k ∧ p = .int .i64 k ∧ Hid (wat s isCont k = E)) (fun p => s.size - (intOf p).toNat)
  case atStart => exact ⟨i + 1, by omega, by omega, by go_num, HE⟩
  case round =>
    obtain ⟨k, hk, hik, rfl, hat⟩ := hrel
    by_cases hlt : k < s.size
    · cases hct : isCont s[k]
      · have hkE := w_off hlt hat hct
        subst hkE
        go_wp2_with (first
          | (go_at_call 33; refine (cont33 s[k] _).mono ?_; rintro e w' ⟨rfl, hw⟩; rw [hw]; clear hw)
          | (go_at_call 34; refine (low34W (s.extract i k) [101] _ (by simp; omega) HL).mono ?_; rintro e w1 ⟨rfl, hb1⟩)
          | (go_at_call 28; refine (pre39y s k _ hlt H39).mono ?_; rintro e w' ⟨rfl, hw⟩; rw [hw]; clear hw)
          | (go_at_call 30; refine (quoted30 s k 39 true _ hs hlt H39.out).mono ?_; rintro e w' ⟨rfl, hw⟩; rw [hw]; clear hw))
        go_ret2
        exact ⟨rfl, hb1⟩
      · have hat2 := w_on hlt hat hct
        go_wp2_with (go_at_call 33; refine (cont33 s[k] _).mono ?_; rintro e w' ⟨rfl, hw⟩; rw [hw]; clear hw)
        go_round
        case rel => exact ⟨k + 1, by omega, by omega, by go_num, hat2⟩
        case measure => simp [intOf]; omega
    · have hkE := w_end hlt hat
      omega

set_option maxRecDepth 100000 in
set_option maxHeartbeats 2000000 in
theorem token_w (s : ByteArray) (i E : Nat) (L : List UInt8) (bs : Bool) (w : World) (hs : s.size ≤ 1048576) (hi : i < s.size) (h : isStart s[i] = true) (hE : wat s isCont (i + 1) = E)
    (hL : (s.extract i E).data.toList.map low = L) (hn : ¬ (L = [101] ∧ ∃ h : E < s.size, s[E] = 39)) :
    Calls Try.prog 21 #[.string s, .int .i64 (i : Int), .bool bs] w fun e w' => e = .returned (.tuple #[.string ⟨L.toArray⟩, .int .i64 (E : Int)]) ∧ Below w.heap.size w w' := by
  obtain ⟨n1, n2, n3⟩ := start_ne s[i] h
  have hb : ((s[i].toNat : Int) == 39) = false := ne_beq (fun e => n1 (UInt8.toNat_inj.1 e))
  have hb2 : ((s[i].toNat : Int) == 34) = false := ne_beq (fun e => n2 (UInt8.toNat_inj.1 e))
  have hb3 : ((s[i].toNat : Int) == 36) = false := ne_beq (fun e => n3 (UInt8.toNat_inj.1 e))
  have HL : Hid ((s.extract i E).data.toList.map low = L) := hL
  have HE : Hid (wat s isCont (i + 1) = E) := hE
  have HN : Hid (¬ (L = [101] ∧ ∃ h : E < s.size, s[E] = 39)) := hn
  clear n1 n2 n3 hE hL hn
  go_enter Try.func21, Try.ntmps21
  go_wp2_with (go_at_call 32; refine (start32 s[i] _).mono ?_; rintro e w' ⟨rfl, hw⟩; rw [hw]; clear hw)
  go_loop [9] (fun p => ∃ k : Nat, k ≤ s.size ∧ i + 1 ≤ k ∧ p = .int .i64 k ∧ Hid (wat s isCont k = E)) (fun p => s.size - (intOf p).toNat)
  case atStart => exact ⟨i + 1, by omega, by omega, by go_num, HE⟩
  case round =>
    obtain ⟨k, hk, hik, rfl, hat⟩ := hrel
    by_cases hlt : k < s.size
    · cases hct : isCont s[k]
      · have hkE := w_off hlt hat hct
        subst hkE
        by_cases hle : L = [101]
        · subst hle
          have H39 : Hid (∀ h : k < s.size, ¬ s[k] = 39) := fun h e => HN.out ⟨rfl, h, e⟩
          go_wp2_with (first
            | (go_at_call 33; refine (cont33 s[k] _).mono ?_; rintro e w' ⟨rfl, hw⟩; rw [hw]; clear hw)
            | (go_at_call 34; refine (low34W (s.extract i k) [101] _ (by simp; omega) HL).mono ?_; rintro e w1 ⟨rfl, hb1⟩)
            | (go_at_call 28; refine (pre39n s k _ H39).mono ?_; rintro e w' ⟨rfl, hw⟩; rw [hw]; clear hw))
          go_ret2
          exact ⟨rfl, hb1⟩
        · go_wp2_with (first
            | (go_at_call 33; refine (cont33 s[k] _).mono ?_; rintro e w' ⟨rfl, hw⟩; rw [hw]; clear hw)
            | (go_at_call 34; refine (low34W (s.extract i k) L _ (by simp; omega) HL).mono ?_; rintro e w1 ⟨rfl, hb1⟩))
          go_ret2
          exact ⟨rfl, hb1⟩
      · have hat2 := w_on hlt hat hct
        go_wp2_with (go_at_call 33; refine (cont33 s[k] _).mono ?_; rintro e w' ⟨rfl, hw⟩; rw [hw]; clear hw)
        go_round
        case rel => exact ⟨k + 1, by omega, by omega, by go_num, hat2⟩
        case measure => simp [intOf]; omega
    · have hkE := w_end hlt hat
      subst hkE
      by_cases hle : L = [101]
      · subst hle
        have H39 : Hid (∀ h : k < s.size, ¬ s[k] = 39) := fun h e => HN.out ⟨rfl, h, e⟩
        go_wp2_with (first
          | (go_at_call 34; refine (low34W (s.extract i k) [101] _ (by simp; omega) HL).mono ?_; rintro e w1 ⟨rfl, hb1⟩)
          | (go_at_call 28; refine (pre39n s k _ H39).mono ?_; rintro e w' ⟨rfl, hw⟩; rw [hw]; clear hw))
        go_ret2
        exact ⟨rfl, hb1⟩
      · go_wp2_with (go_at_call 34; refine (low34W (s.extract i k) L _ (by simp; omega) HL).mono ?_; rintro e w1 ⟨rfl, hb1⟩)
        go_ret2
        exact ⟨rfl, hb1⟩

theorem ret_pair {a b : ByteArray} {x y : Int} (h1 : a = b) (h2 : x = y) : Ending.returned (.tuple #[.string a, .int .i64 x]) = .returned (.tuple #[.string b, .int .i64 y]) := by rw [h1, h2]
theorem one_byte (s : ByteArray) (i : Nat) (hi : i < s.size) : s.extract i (i + 1) = ⟨([s[i]] : List UInt8).toArray⟩ := by
  rw [Lib.extract_eq, drop_cons s i hi]
  have e : i + 1 - i = 1 := by omega
  rw [e]
  rfl

/-- token, whatever stands at i: the text L and the end E of the plain function. -/
theorem token21 (s : ByteArray) (i : Nat) (bs : Bool) (m : Int) (L : List UInt8) (E : Nat) (w : World) (hs : s.size ≤ 1048576) (hi : i < s.size) (hm : w.cell? ⟨0, 0, none⟩ = some (.int .i64 m)) (hT : TK s bs i L E) :
    Calls Try.prog 21 #[.string s, .int .i64 (i : Int), .bool bs] w fun e w' => e = .returned (.tuple #[.string ⟨L.toArray⟩, .int .i64 (E : Int)]) ∧ Below w.heap.size w w' := by
  have key : ∀ (L' : List UInt8) (E' : Nat), TK s bs i L' E' → L' = L ∧ E' = E := fun L' E' h => ⟨h.1.symm.trans hT.1, h.2.symm.trans hT.2⟩
  by_cases h39 : s[i] = 39
  · obtain ⟨rfl, rfl⟩ := key _ _ (tk_39 s bs i hi h39)
    exact token_q s i bs w hs hi h39
  by_cases h34 : s[i] = 34
  · obtain ⟨rfl, rfl⟩ := key _ _ (tk_34 s bs i hi h34)
    exact token_d s i bs w hs hi h34
  by_cases h36 : s[i] = 36
  · obtain ⟨rfl, rfl⟩ := key _ _ (tk_36 s bs i hi h36)
    exact token_m s i bs m w hs hi hm h36
  cases hst : isStart s[i] with
  | false =>
    obtain ⟨rfl, rfl⟩ := key _ _ (tk_sym s bs i hi h39 h34 h36 hst)
    refine (token_s s i bs w hs hi (fun e => h39 (UInt8.toNat_inj.1 e)) (fun e => h34 (UInt8.toNat_inj.1 e)) (fun e => h36 (UInt8.toNat_inj.1 e)) hst).mono ?_
    rintro e w' ⟨rfl, hb⟩
    exact ⟨ret_pair (one_byte s i hi) (by omega), hb⟩
  | true =>
    obtain ⟨F, hF⟩ : ∃ F, wat s isCont (i + 1) = F := ⟨_, rfl⟩
    have hge := wat_ge s isCont (i + 1)
    have hle := wat_le s isCont (i + 1) (by omega)
    by_cases he : (F = i + 1 ∧ (s[i].toNat = 101 ∨ s[i].toNat = 69)) ∧ ∃ h : F < s.size, s[F] = 39
    · obtain ⟨rfl, rfl⟩ := key _ _ (tk_e s bs i F hi hst hF he.1 he.2)
      obtain ⟨h1, h2, h3⟩ := he
      exact token_e s i F bs w hs hi hst hF h1 h2 h3
    · obtain ⟨rfl, rfl⟩ := key _ _ (tk_word s bs i F hi hst hF he)
      refine token_w s i F _ bs w hs hi hst hF rfl ?_
      rw [word_e s i F hi (by omega) (by omega)]
      exact he

set_option maxRecDepth 100000 in
set_option maxHeartbeats 400000 in
theorem token15 (s : ByteArray) (i : Nat) (bs : Bool) (m : Int) (L : List UInt8) (E : Nat) (w : World) (hs : s.size ≤ 1048576) (hi : i < s.size) (hm : w.cell? ⟨0, 0, none⟩ = some (.int .i64 m)) (hT : TK s bs i L E) :
    Calls Try.prog 15 #[.string s, .int .i64 (i : Int), .bool bs] w fun e w' => e = .returned (.tuple #[.string ⟨L.toArray⟩, .int .i64 (E : Int)]) ∧ Below w.heap.size w w' := by
  have HM : Hid (w.cell? ⟨0, 0, none⟩ = some (.int .i64 m)) := hm
  have HT : Hid (TK s bs i L E) := hT
  clear hm hT
  go_enter Try.func15, Try.ntmps15
  go_wp2_with (go_at_call 21; refine (token21 s i bs m L E _ hs hi HM.out HT.out).mono ?_; rintro e w' ⟨rfl, hb⟩)
  go_ret2
  exact ⟨rfl, hb⟩
end Go.Proofs.Qxb6601301a.Tk
