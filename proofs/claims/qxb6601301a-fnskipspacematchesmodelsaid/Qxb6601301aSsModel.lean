import Derived.Test.Qxb6601301aSteps
import Derived.WalkKit
namespace Go.Proofs.Qxb6601301a.Wk
open Go.RowKit Plain
set_option linter.unusedSimpArgs false
set_option linter.unusedVariables false

set_option maxHeartbeats 400000 in
theorem isSpace_any (c : UInt8) (w : World) :
    Calls Try.prog 20 #[.int .u8 (c.toNat : Int)] w fun e w' => e = .returned (.bool (isSp c)) ∧ w' = w := by
  have H := isSp_iff c
  have HI : Hid (isSp c = true ↔ (c.toNat = 32 ∨ c.toNat = 9 ∨ c.toNat = 10 ∨ c.toNat = 13 ∨ c.toNat = 12 ∨ c.toNat = 11)) := H
  clear H
  go_enter Try.func20, Try.ntmps20
  go_wp2
  all_goals
    go_ret
    refine ⟨ret_bool ?_, rfl⟩
    rw [Bool.eq_iff_iff, HI.out]
    simp
    omega

set_option maxRecDepth 100000 in
set_option maxHeartbeats 2000000 in
theorem ssModel_any (s : ByteArray) (i : Nat) (w : World) (hs : s.size ≤ 1048576) (hi : i ≤ s.size) :
    Calls Try.prog 11 #[.string s, .int .i64 (i : Int)] w fun e w' => e = .returned (.int .i64 ((at_ s 0 i : Nat) : Int)) ∧ w' = w := by
  obtain ⟨T, hT⟩ : ∃ T, T = at_ s 0 i := ⟨_, rfl⟩
  rw [← hT]
  have HT : Hid (T = at_ s 0 i) := hT
  clear hT
  go_enter Try.func11, Try.ntmps11
  go_wp2
  go_loop [5, 6] (fun p st => ∃ (k : Nat) (z : Int), k ≤ s.size ∧ p = .int .i64 k ∧ st = .int .i64 z ∧ -1 ≤ z ∧ z ≤ k ∧ Hid (at_ s z k = T)) (fun p _ => s.size - (intOf p).toNat)
  case atStart => exact ⟨i, 0, hi, rfl, rfl, by omega, by omega, HT.out.symm⟩
  case round =>
    obtain ⟨k, z, hk, rfl, rfl, hz1, hz2, hat⟩ := hrel
    have e45 : (45 : UInt8).toNat = 45 := rfl
    have e47 : (47 : UInt8).toNat = 47 := rfl
    have e42 : (42 : UInt8).toNat = 42 := rfl
    have E : Hid ((45 : UInt8).toNat = 45 ∧ (47 : UInt8).toNat = 47 ∧ (42 : UInt8).toNat = 42) := ⟨e45, e47, e42⟩
    clear e45 e47 e42
    by_cases hlt : k < s.size
    · rcases Int.lt_trichotomy z 0 with hz | hz | hz
      · have hzz : z = -1 := by omega
        subst hzz
        go_wp2
        all_goals
          go_round
          case rel =>
            try simp only [beq_iff_eq, beq_eq_false_iff_ne] at *
            first
            | exact ⟨k + 1, 0, by omega, by go_num, rfl, by omega, by omega, st_nl hlt hat (by omega)⟩
            | exact ⟨k + 1, -1, by omega, by go_num, rfl, by omega, by omega, st_ln hlt hat (by omega)⟩
          case measure => simp [intOf]; omega
      · subst hz
        go_wp2_with (go_at_call 20; refine (isSpace_any _ _).mono ?_; rintro e w' ⟨rfl, rfl⟩)
        all_goals first
        | go_ret
          refine ⟨ret_int (st_stop hlt hat (by assumption) (two_false _ _ _ _ ?_) (two_false _ _ _ _ ?_)), rfl⟩
          all_goals
            intro hh
            have := E.out
            try simp only [beq_iff_eq, beq_eq_false_iff_ne] at *
            omega
        | go_round
          case rel =>
            have EE := E.out
            try simp only [beq_iff_eq, beq_eq_false_iff_ne] at *
            first
            | exact ⟨k + 1, 0, by omega, by go_num, rfl, by omega, by omega, st_sp hlt hat (by assumption)⟩
            | exact ⟨k + 2, -1, by omega, by go_num, rfl, by omega, by omega, st_da hat (two_true _ _ _ _ (by omega) (by omega) (by omega))⟩
            | exact ⟨k + 2, 1, by omega, by go_num, rfl, by omega, by omega, st_op hat (two_true _ _ _ _ (by omega) (by omega) (by omega))⟩
          case measure => simp [intOf]; omega
      · go_wp2
        all_goals
          go_round
          case rel =>
            have EE := E.out
            try simp only [beq_iff_eq, beq_eq_false_iff_ne] at *
            first
            | exact ⟨k + 2, z + 1, by omega, by go_num, rfl, by omega, by omega, st_in hz hat (two_true _ _ _ _ (by omega) (by omega) (by omega))⟩
            | exact ⟨k + 2, z - 1, by omega, by go_num, rfl, by omega, by omega, st_out hz hat (two_true _ _ _ _ (by omega) (by omega) (by omega))⟩
            | exact ⟨k + 1, z, by omega, by go_num, rfl, by omega, by omega, st_on hlt hz hat (two_false _ _ _ _ (by intro hh; omega)) (two_false _ _ _ _ (by intro hh; omega))⟩
          case measure => simp [intOf]; omega
    · go_wp2
      go_ret
      exact ⟨ret_int (st_end hlt hat), rfl⟩

set_option maxRecDepth 100000 in
set_option maxHeartbeats 400000 in
theorem ssModel_past (s : ByteArray) (i : Nat) (w : World) (hs : s.size ≤ 1048576) (hi : s.size < i) :
    Calls Try.prog 11 #[.string s, .int .i64 (i : Int)] w fun e w' => e = .returned (.int .i64 (i : Int)) ∧ w' = w := by
  go_enter Try.func11, Try.ntmps11
  go_wp2
  refine wp_loop_rounds 1 ?_
  rw [rounds_succ]
  go_wp2
  go_ret
  exact ⟨rfl, rfl⟩

theorem ssModel_all (s : ByteArray) (i : Nat) (w : World) (hs : s.size ≤ 1048576) :
    Calls Try.prog 11 #[.string s, .int .i64 (i : Int)] w fun e w' => e = .returned (.int .i64 ((at_ s 0 i : Nat) : Int)) ∧ w' = w := by
  by_cases hi : i ≤ s.size
  · exact ssModel_any s i w hs hi
  · refine (ssModel_past s i w hs (by omega)).mono ?_
    rintro e w' ⟨rfl, rfl⟩
    exact ⟨ret_int (by rw [at_end s 0 i (by omega)]), rfl⟩
end Go.Proofs.Qxb6601301a.Wk
