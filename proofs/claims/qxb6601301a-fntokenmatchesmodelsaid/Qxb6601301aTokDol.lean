import Derived.Test.Qxb6601301aTokDolPlain
import Derived.Test.Qxb6601301aTokBytes
import Derived.Test.Qxb6601301aShelf
import Derived.BigQuiet
import Derived.Deep.QuietTactic
import Derived.WalkSmall
import Derived.Laws.Runes
import Derived.WalkSpells
namespace Go.Proofs.Qxb6601301a.Tk
open Go.RowKit TokP
set_option linter.unusedSimpArgs false
set_option linter.unusedVariables false

section
variable {s : ByteArray} {f : UInt8 → Bool} {k T : Nat}
theorem w_on (hk : k < s.size) (h : Hid (wat s f k = T)) (hf : f s[k] = true) : Hid (wat s f (k + 1) = T) := by
  have e := wat_on s f k hk hf; rw [← h.out, e]; exact rfl
theorem w_off (hk : k < s.size) (h : Hid (wat s f k = T)) (hf : f s[k] = false) : k = T := by
  have e := wat_off s f k hk hf; have := h.out; omega
theorem w_end (hk : ¬ k < s.size) (h : Hid (wat s f k = T)) : k = T := by
  have e := wat_end s f k (by omega); have := h.out; omega
end
theorem tag_cont {c : UInt8} (h : isTag c = true) : isCont c = true ∧ (((c.toNat : Int) != 36) = true) := by
  refine ⟨by unfold isCont; rw [h]; rfl, ?_⟩
  have := (isTag_iff c).1 h
  simp
  omega
theorem notag_cont {c : UInt8} (h : isTag c = false) (h36 : ¬ c.toNat = 36) : isCont c = false := by
  unfold isCont; rw [h, decide_eq_false h36]; rfl

set_option maxRecDepth 100000 in
set_option maxHeartbeats 1000000 in
theorem sameAt36 (s : ByteArray) (a b n : Nat) (w : World) (hs : s.size ≤ 1048576) (ha : a + n ≤ s.size) (hb : b + n ≤ s.size) :
    Calls Try.prog 36 #[.string s, .int .i64 (a : Int), .int .i64 (b : Int), .int .i64 (n : Int)] w fun e w' => e = .returned (.bool (same s a b n)) ∧ Below w.heap.size w w' := by
  obtain ⟨T, hT⟩ : ∃ T, T = same s a b n := ⟨_, rfl⟩
  rw [← hT]
  have HT : Hid (T = same s a b n) := hT
  clear hT
  go_enter Try.func36, Try.ntmps36
  go_wp2
  go_loopw [9] (fun p wr => ∃ t : Nat, t ≤ n ∧ p = .int .i64 t ∧ Hid (same s a b t = true) ∧ Hid (Below w.heap.size w wr)) (fun p _ => n - (intOf p).toNat)
  case atStart => exact ⟨0, by omega, rfl, same_zero s a b, Below.refl _ _⟩
  case round =>
    obtain ⟨t, ht, rfl, hsm, hbe⟩ := hrel
    by_cases hlt : t < n
    · have hat : a + t < s.size := by omega
      have hbt : b + t < s.size := by omega
      have hwa : IntKind.i64.wrap ((a : Int) + (t : Int)) = (a : Int) + (t : Int) := wrap_small _ (by omega) (by omega)
      have hwb : IntKind.i64.wrap ((b : Int) + (t : Int)) = (b : Int) + (t : Int) := wrap_small _ (by omega) (by omega)
      have ha1 : (a : Int) + (t : Int) < (s.size : Int) := by omega
      have hb1 : (b : Int) + (t : Int) < (s.size : Int) := by omega
      have ha0 : (0 : Int) ≤ (a : Int) + (t : Int) := by omega
      have hb0 : (0 : Int) ≤ (b : Int) + (t : Int) := by omega
      go_wp2
      go_quiet (fail)
      go_wp2
      · rename_i hd
        go_ret
        refine ⟨ret_bool ?_, below_drewN hbe.out _⟩
        rw [HT.out, same_not s a b t n hlt hat hbt (fun e => by rw [e] at hd; simp at hd)]
      · rename_i hd
        have he : s[a + t] = s[b + t] := by
          have : ((s[a + t].toNat : Nat) : Int) = ((s[b + t].toNat : Nat) : Int) := by simpa using hd
          exact Lib.byte_eq_of_toNat this
        have hs2 := same_succ s a b t hat hbt hsm.out he
        have HS2 : Hid (same s a b (t + 1) = true) := hs2
        clear he hs2
        go_roundw
        case rel => exact ⟨t + 1, by omega, by go_num, HS2, below_drewN hbe.out _⟩
        case measure => simp [intOf]; omega
    · go_wp2
      go_ret
      refine ⟨ret_bool ?_, hbe.out⟩
      have e : t = n := by omega
      rw [HT.out, ← e, hsm.out]

theorem sameI (s : ByteArray) (i x k : Nat) (v : Bool) (w : World) (hs : s.size ≤ 1048576) (hk : i ≤ k ∧ k < s.size) (hx : x + (k + 1 - i) ≤ s.size) (hv : Hid (same s i x (k + 1 - i) = v)) :
    Calls Try.prog 36 #[.string s, .int .i64 (i : Int), .int .i64 (x : Int), .int .i64 ((k : Int) + 1 - (i : Int))] w fun e w' => e = .returned (.bool v) ∧ Below w.heap.size w w' := by
  have e : ((k : Int) + 1 - (i : Int)) = ((k + 1 - i : Nat) : Int) := by omega
  rw [e]
  refine (sameAt36 s i x (k + 1 - i) w hs (by omega) hx).mono ?_
  rintro e w' ⟨rfl, hb⟩
  exact ⟨ret_bool hv.out, hb⟩

theorem index43 (a b : ByteArray) (z m : Int) (w : World) (ha : a.size < 4294967281) (hm : w.cell? ⟨0, 0, none⟩ = some (.int .i64 m)) (h : Hid (Lib.index a.data.toList b.data.toList = z)) :
    Calls Try.prog 43 #[.string a, .string b] w fun e w' => e = .returned (.int .i64 z) ∧ w' = w := by
  refine (Try.strings_Index a b m w ha hm).mono ?_
  rintro e w' ⟨rfl, rfl⟩
  exact ⟨ret_int h.out, rfl⟩

theorem dol_cases (s : ByteArray) (i J T : Nat) (hi : i < s.size) (hJ : Hid (dj s i = J)) (hT : Hid (dolAt s i = T)) (hJs : J < s.size) (h36 : s[J].toNat = 36) :
    (dz s i J = -1 ∧ T = s.size) ∨ ∃ z : Nat, dz s i J = z ∧ J + 1 + z + (J + 1 - i) ≤ s.size ∧ T = J + 1 + z + (J + 1 - i) := by
  have hJ' := hJ.out
  have hT' := hT.out
  have hij : i ≤ J := by have := wat_ge s isTag (i + 1); unfold dj at hJ'; omega
  subst hJ'
  subst hT'
  have hd : ∃ h : dj s i < s.size, s[dj s i] = 36 := ⟨hJs, UInt8.toNat_inj.1 h36⟩
  have hge := dz_ge s i (dj s i)
  by_cases hz : dz s i (dj s i) < 0
  · exact Or.inl ⟨by omega, dolAt_miss s i (by omega) hd hz⟩
  · obtain ⟨z, hz2⟩ : ∃ z : Nat, dz s i (dj s i) = z := ⟨(dz s i (dj s i)).toNat, by omega⟩
    exact Or.inr ⟨z, hz2, dz_room s i _ z hij hJs hz2, dolAt_hit s i z hd hz2⟩
theorem dol_none (s : ByteArray) (i J T : Nat) (hJ : Hid (dj s i = J)) (hT : Hid (dolAt s i = T)) (h : ∀ h : J < s.size, ¬ s[J].toNat = 36) : (i : Int) + 1 = (T : Int) := by
  have hJ' := hJ.out
  have hT' := hT.out
  subst hJ'
  have := dolAt_no s i (fun ⟨h1, h2⟩ => h h1 (by rw [h2]; rfl))
  omega

set_option maxRecDepth 100000 in
set_option maxHeartbeats 2000000 in
theorem dollar31 (s : ByteArray) (i : Nat) (m : Int) (w : World) (hs : s.size ≤ 1048576) (hi : i < s.size) (hm : w.cell? ⟨0, 0, none⟩ = some (.int .i64 m)) :
    Calls Try.prog 31 #[.string s, .int .i64 (i : Int)] w fun e w' => e = .returned (.int .i64 ((dolAt s i : Nat) : Int)) ∧ w' = w := by
  obtain ⟨T, hT⟩ : ∃ T, dolAt s i = T := ⟨_, rfl⟩
  obtain ⟨J, hJ⟩ : ∃ J, dj s i = J := ⟨_, rfl⟩
  rw [hT]
  have HT : Hid (dolAt s i = T) := hT
  have HJ : Hid (dj s i = J) := hJ
  have HM : Hid (w.cell? ⟨0, 0, none⟩ = some (.int .i64 m)) := hm
  clear hT hJ hm
  go_enter Try.func31, Try.ntmps31
  go_wp2
  go_loop [5] (fun p => ∃ k : Nat, k ≤ s.size ∧ i + 1 ≤ k ∧ p = .int .i64 k ∧ Hid (wat s isTag k = J)) (fun p => s.size - (intOf p).toNat)
  case atStart => exact ⟨i + 1, by omega, by omega, by go_num, HJ.out⟩
  case round =>
    obtain ⟨k, hk, hik, rfl, hat⟩ := hrel
    by_cases hlt : k < s.size
    · cases htag : isTag s[k]
      · have hkJ := w_off hlt hat htag
        by_cases h36 : s[k].toNat = 36
        · have hbn : (((s[k].toNat : Nat) : Int) != 36) = false := by rw [h36]; rfl
          have hcs := dol_cases s i k T hi (by rw [hkJ]; exact HJ) HT hlt h36
          clear h36 hkJ htag
          rcases hcs with ⟨hz, hTs⟩ | ⟨z, hz, hroom, hTs⟩
          · have HZ : Hid (Lib.index (s.extract (k + 1) s.size).data.toList (s.extract i (k + 1)).data.toList = -1) := hz
            have HTs : Hid (T = s.size) := hTs
            clear hz hTs
            go_wp2_with (go_at_call 43; refine (index43 _ _ (-1) m _ (by simp; omega) HM.out HZ).mono ?_; rintro e w' ⟨rfl, rfl⟩)
            go_ret
            exact ⟨ret_int (by rw [HTs.out]), rfl⟩
          · have HZ : Hid (Lib.index (s.extract (k + 1) s.size).data.toList (s.extract i (k + 1)).data.toList = (z : Int)) := hz
            have HTs : Hid (T = k + 1 + z + (k + 1 - i)) := hTs
            clear hz hTs
            go_wp2_with (go_at_call 43; refine (index43 _ _ z m _ (by simp; omega) HM.out HZ).mono ?_; rintro e w' ⟨rfl, rfl⟩)
            go_ret
            refine ⟨ret_int ?_, rfl⟩
            have := HTs.out
            omega
        · have hbn : (((s[k].toNat : Nat) : Int) != 36) = true := by simp; omega
          have hcf := notag_cont htag h36
          have hT1 := dol_none s i k T (by rw [hkJ]; exact HJ) HT (fun _ => h36)
          have HT1 : Hid ((i : Int) + 1 = (T : Int)) := hT1
          clear hT1 h36 hkJ htag
          go_wp2_with (go_at_call 33; refine (cont33 s[k] _).mono ?_; rintro e w' ⟨rfl, rfl⟩)
          go_ret
          exact ⟨ret_int HT1.out, rfl⟩
      · have hat2 := w_on hlt hat htag
        obtain ⟨hct, hbn⟩ := tag_cont htag
        clear htag
        go_wp2_with (go_at_call 33; refine (cont33 s[k] _).mono ?_; rintro e w' ⟨rfl, rfl⟩)
        go_round
        case rel => exact ⟨k + 1, by omega, by omega, by go_num, hat2⟩
        case measure => simp [intOf]; omega
    · have hkJ := w_end hlt hat
      have hT1 := dol_none s i k T (by rw [hkJ]; exact HJ) HT (fun h => absurd h hlt)
      have HT1 : Hid ((i : Int) + 1 = (T : Int)) := hT1
      have hke : ((k : Int) == (s.size : Int)) = true := by simp; omega
      clear hT1 hkJ
      go_wp2
      go_ret
      exact ⟨ret_int HT1.out, rfl⟩

section
variable {s : ByteArray} {i J x T : Nat}
theorem no_first : Hid (Lib.NoOcc (s.extract (J + 1) s.size).data.toList (s.extract i (J + 1)).data.toList (J + 1 - (J + 1))) := by
  rw [Nat.sub_self]; exact Lib.NoOcc.zero _ _
theorem no_next (hi : i ≤ J) (hJ : J < s.size) (hx : J + 1 ≤ x) (hr : x + (J + 1 - i) ≤ s.size) (h : same s i x (J + 1 - i) = false)
    (hno : Hid (Lib.NoOcc (s.extract (J + 1) s.size).data.toList (s.extract i (J + 1)).data.toList (x - (J + 1)))) :
    Hid (Lib.NoOcc (s.extract (J + 1) s.size).data.toList (s.extract i (J + 1)).data.toList (x + 1 - (J + 1))) := by
  have e : x + 1 - (J + 1) = x - (J + 1) + 1 := by omega
  rw [e]
  exact hno.out.succ (by rw [occ_same s i J x hi hJ hx hr]; exact h)
theorem dol_found (hi : i ≤ J) (hJ : J < s.size) (h36 : s[J].toNat = 36) (HJ : Hid (dj s i = J)) (HT : Hid (dolAt s i = T)) (hx : J + 1 ≤ x) (hr : x + (J + 1 - i) ≤ s.size)
    (hno : Hid (Lib.NoOcc (s.extract (J + 1) s.size).data.toList (s.extract i (J + 1)).data.toList (x - (J + 1)))) (h : same s i x (J + 1 - i) = true) : x + (J + 1 - i) = T := by
  have hz := dz_found s i J x hi hJ hx hr hno.out h
  have hJ' := HJ.out
  subst hJ'
  have := dolAt_hit s i _ ⟨hJ, UInt8.toNat_inj.1 h36⟩ hz
  have := HT.out
  omega
theorem dol_lost (hi : i ≤ J) (hJ : J < s.size) (h36 : s[J].toNat = 36) (HJ : Hid (dj s i = J)) (HT : Hid (dolAt s i = T)) (hx : J + 1 ≤ x) (hr : s.size < x + (J + 1 - i))
    (hno : Hid (Lib.NoOcc (s.extract (J + 1) s.size).data.toList (s.extract i (J + 1)).data.toList (x - (J + 1)))) : s.size = T := by
  have hz := dz_lost s i J x hi hJ hx hr hno.out
  have hJ' := HJ.out
  subst hJ'
  have := dolAt_miss s i (by omega) ⟨hJ, UInt8.toNat_inj.1 h36⟩ (by omega)
  have := HT.out
  omega
end

set_option maxRecDepth 100000 in
set_option maxHeartbeats 2000000 in
theorem dollar23 (s : ByteArray) (i : Nat) (w : World) (hs : s.size ≤ 1048576) (hi : i < s.size) :
    Calls Try.prog 23 #[.string s, .int .i64 (i : Int)] w fun e w' => e = .returned (.int .i64 ((dolAt s i : Nat) : Int)) ∧ Below w.heap.size w w' := by
  obtain ⟨T, hT⟩ : ∃ T, dolAt s i = T := ⟨_, rfl⟩
  obtain ⟨J, hJ⟩ : ∃ J, dj s i = J := ⟨_, rfl⟩
  rw [hT]
  have HT : Hid (dolAt s i = T) := hT
  have HJ : Hid (dj s i = J) := hJ
  clear hT hJ
  go_enter Try.func23, Try.ntmps23
  go_wp2
  go_loop [5] (fun p => ∃ k : Nat, k ≤ s.size ∧ i + 1 ≤ k ∧ p = .int .i64 k ∧ Hid (wat s isTag k = J)) (fun p => s.size - (intOf p).toNat)
  case atStart => exact ⟨i + 1, by omega, by omega, by go_num, HJ.out⟩
  case round =>
    obtain ⟨k, hk, hik, rfl, hat⟩ := hrel
    by_cases hlt : k < s.size
    · cases htag : isTag s[k]
      · have hkJ := w_off hlt hat htag
        subst hkJ
        by_cases h36 : s[k].toNat = 36
        · have hbn : (((s[k].toNat : Nat) : Int) != 36) = false := by rw [h36]; rfl
          have H36 : Hid (s[k].toNat = 36) := h36
          have hdec : decide (s.size ≤ k) = false := decide_eq_false (by omega)
          clear h36
          go_wp2_with (go_at_call 35; refine (tag35 s[k] _).mono ?_; rintro e w' ⟨rfl, hw⟩; rw [hw]; clear hw)
          go_loopw [7] (fun p wr => ∃ x : Nat, k + 1 ≤ x ∧ x ≤ s.size ∧ p = .int .i64 x ∧ Hid (Lib.NoOcc (s.extract (k + 1) s.size).data.toList (s.extract i (k + 1)).data.toList (x - (k + 1))) ∧ Hid (Below w.heap.size w wr)) (fun p _ => s.size - (intOf p).toNat)
          case atStart => exact ⟨k + 1, by omega, by omega, by go_num, no_first, Below.refl _ _⟩
          case round =>
            obtain ⟨x, hx, hxs, rfl, hno, hbe⟩ := hrel
            by_cases hfit : x + (k + 1 - i) ≤ s.size
            · cases hsm : same s i x (k + 1 - i)
              · have hno2 := no_next (by omega) hlt hx hfit hsm hno
                have HS : Hid (same s i x (k + 1 - i) = false) := hsm
                clear hsm
                go_wp2_with (go_at_call 36; refine (sameI s i x k false _ hs (by omega) (by omega) HS).mono ?_; rintro e w' ⟨rfl, hb2⟩)
                go_roundw
                case rel =>
                  first
                  | exact ⟨x + 1, by omega, by omega, by go_num, hno2, hbe.out.trans (hb2.mono hbe.out.size)⟩
                  | (repeat apply Exists.intro
                     exact ⟨⟨x + 1, by omega, by omega, by go_num, hno2, hbe.out.trans (hb2.mono hbe.out.size)⟩, rfl⟩)
                case measure => simp [intOf]; omega
              · have hfin := dol_found (by omega) hlt H36.out HJ HT hx hfit hno hsm
                have HF : Hid (x + (k + 1 - i) = T) := hfin
                have HS : Hid (same s i x (k + 1 - i) = true) := hsm
                clear hsm hfin
                go_wp2_with (go_at_call 36; refine (sameI s i x k true _ hs (by omega) (by omega) HS).mono ?_; rintro e w' ⟨rfl, hb2⟩)
                go_ret
                refine ⟨ret_int ?_, hbe.out.trans (hb2.mono hbe.out.size)⟩
                have := HF.out
                omega
            · have hfin := dol_lost (by omega) hlt H36.out HJ HT hx (by omega) hno
              have HF : Hid (s.size = T) := hfin
              clear hfin
              go_wp2
              go_ret
              exact ⟨ret_int (by rw [HF.out]), hbe.out⟩
        · have hbn : (((s[k].toNat : Nat) : Int) != 36) = true := by simp; omega
          have hT1 := dol_none s i k T HJ HT (fun _ => h36)
          have HT1 : Hid ((i : Int) + 1 = (T : Int)) := hT1
          clear hT1 h36
          go_wp2_with (go_at_call 35; refine (tag35 s[k] _).mono ?_; rintro e w' ⟨rfl, hw⟩; rw [hw]; clear hw)
          go_ret
          exact ⟨ret_int HT1.out, Below.refl _ _⟩
      · have hat2 := w_on hlt hat htag
        go_wp2_with (go_at_call 35; refine (tag35 s[k] _).mono ?_; rintro e w' ⟨rfl, hw⟩; rw [hw]; clear hw)
        go_round
        case rel => exact ⟨k + 1, by omega, by omega, by go_num, hat2⟩
        case measure => simp [intOf]; omega
    · have hkJ := w_end hlt hat
      subst hkJ
      have hT1 := dol_none s i k T HJ HT (fun h => absurd h hlt)
      have HT1 : Hid ((i : Int) + 1 = (T : Int)) := hT1
      clear hT1
      go_wp2
      go_ret
      exact ⟨ret_int HT1.out, Below.refl _ _⟩
end Go.Proofs.Qxb6601301a.Tk
