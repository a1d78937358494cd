import Derived.Test.Qxb6601301aSteps
import Derived.Test.Qxb6601301aAny
namespace Go.Proofs.Qxb6601301a.Wk
open Go.RowKit Plain
set_option linter.unusedSimpArgs false
set_option linter.unusedVariables false

theorem space_yes (c : UInt8) (w : World) (h : isSp c = true) :
    Calls Try.prog 27 #[.string ⟨#[32, 9, 10, 13, 12, 11]⟩, .int .u8 (c.toNat : Int)] w fun e w' => (∃ z : Int, e = .returned (.int .i64 z) ∧ 0 ≤ z) ∧ w' = w := by
  refine (Try.strings_IndexByte _ _ _).mono ?_
  rintro e w' ⟨rfl, rfl⟩
  refine ⟨⟨_, rfl, ?_⟩, rfl⟩
  rw [Lib.byte_back]
  exact sp_yes c h
theorem space_no (c : UInt8) (w : World) (h : isSp c = false) :
    Calls Try.prog 27 #[.string ⟨#[32, 9, 10, 13, 12, 11]⟩, .int .u8 (c.toNat : Int)] w fun e w' => e = .returned (.int .i64 (-1)) ∧ w' = w := by
  refine (Try.strings_IndexByte _ _ _).mono ?_
  rintro e w' ⟨rfl, rfl⟩
  refine ⟨?_, rfl⟩
  rw [Lib.byte_back]
  exact ret_int (sp_no c h)
theorem pre_any (s : ByteArray) (a b : UInt8) (k : Nat) (t : Bool) (w : World) (h : Hid (two s a b k = t)) :
    Calls Try.prog 28 #[.string (s.extract k s.size), .string ⟨#[a, b]⟩] w fun e w' => e = .returned (.bool t) ∧ w' = w := by
  refine (Try.strings_HasPrefix _ _ _).mono ?_
  rintro e w' ⟨rfl, rfl⟩
  refine ⟨ret_bool ?_, rfl⟩
  rw [← h.out]
  exact pre_two s a b k
theorem line_any (s : ByteArray) (k : Nat) (z : Int) (w : World) (hs : s.size ≤ 1048576) (h : Hid (Lib.indexAny (s.extract k s.size).data.toList [10, 13] = z)) :
    Calls Try.prog 29 #[.string (s.extract k s.size), .string ⟨#[10, 13]⟩] w fun e w' => e = .returned (.int .i64 z) ∧ Below w.heap.size w w' := by
  have hsz : (s.extract k s.size).size ≤ s.size := by simp
  refine (indexAny_nl _ _ (by omega)).mono ?_
  rintro e w' ⟨rfl, hb⟩
  exact ⟨ret_int h.out, hb⟩
theorem below_on {w a b : World} (h : Hid (Below w.heap.size w a)) (k : Below a.heap.size a b) : Hid (Below w.heap.size w b) :=
  h.out.trans (k.mono h.out.size)

set_option maxRecDepth 100000 in
set_option maxHeartbeats 2000000 in
theorem skip_any (s : ByteArray) (i : Nat) (w : World) (hs : s.size ≤ 1048576) (hi : i ≤ s.size) :
    Calls Try.prog 19 #[.string s, .int .i64 (i : Int)] w fun e w' => e = .returned (.int .i64 ((at_ s 0 i : Nat) : Int)) ∧ Below w.heap.size w w' := by
  obtain ⟨T, hT⟩ : ∃ T, T = at_ s 0 i := ⟨_, rfl⟩
  rw [← hT]
  have HT : Hid (T = at_ s 0 i) := hT
  clear hT
  go_enter Try.func19, Try.ntmps19
  go_wp2
  go_loopw [1] (fun p wr => ∃ k : Nat, k ≤ s.size ∧ p = .int .i64 k ∧ Hid (at_ s 0 k = T) ∧ Hid (Below w.heap.size w wr)) (fun p _ => s.size - (intOf p).toNat)
  case atStart => exact ⟨i, hi, rfl, HT.out.symm, Below.refl _ _⟩
  case round =>
    obtain ⟨k, hk, rfl, hat, hbe⟩ := hrel
    by_cases hlt : k < s.size
    · cases hsp : isSp s[k]
      · cases h1 : two s 45 45 k
        · have H1 : Hid (two s 45 45 k = false) := h1
          cases h2 : two s 47 42 k
          · have H2 : Hid (two s 47 42 k = false) := h2
            have hstop := st_stop hlt hat hsp h1 h2
            have HS : Hid ((k : Int) = (T : Int)) := hstop
            clear hstop h1 h2
            go_wp2_with (first
              | (go_at_call 27; refine (space_no _ _ hsp).mono ?_; rintro e w' ⟨rfl, rfl⟩)
              | (go_at_call 28; refine (pre_any s 45 45 k false _ H1).mono ?_; rintro e w' ⟨rfl, rfl⟩)
              | (go_at_call 28; refine (pre_any s 47 42 k false _ H2).mono ?_; rintro e w' ⟨rfl, rfl⟩))
            go_ret
            exact ⟨ret_int HS.out, hbe.out⟩
          · have H2 : Hid (two s 47 42 k = true) := h2
            have hat2 := st_op hat h2
            have hroom := two_room s 47 42 k h2
            clear h1 h2
            go_wp2_with (first
              | (go_at_call 27; refine (space_no _ _ hsp).mono ?_; rintro e w' ⟨rfl, rfl⟩)
              | (go_at_call 28; refine (pre_any s 45 45 k false _ H1).mono ?_; rintro e w' ⟨rfl, rfl⟩)
              | (go_at_call 28; refine (pre_any s 47 42 k true _ H2).mono ?_; rintro e w' ⟨rfl, rfl⟩))
            clear hat H1 H2 hsp
            go_loop [1, 6] (fun p d => ∃ (j : Nat) (z : Int), j ≤ s.size ∧ k < j ∧ p = .int .i64 j ∧ d = .int .i64 z ∧ 0 ≤ z ∧ z ≤ j ∧ Hid (at_ s z j = T)) (fun p _ => s.size - (intOf p).toNat)
            case atStart => exact ⟨k + 2, 1, by omega, by omega, by go_num, rfl, by omega, by omega, hat2⟩
            case round =>
              obtain ⟨j, z, hj, hkj, rfl, rfl, hz0, hzj, hin⟩ := hrel
              by_cases hz : 0 < z
              · by_cases hjl : j < s.size
                · cases h3 : two s 47 42 j
                  · have H3 : Hid (two s 47 42 j = false) := h3
                    cases h4 : two s 42 47 j
                    · have H4 : Hid (two s 42 47 j = false) := h4
                      have hnx := st_on hjl hz hin h3 h4
                      clear h3 h4
                      go_wp2_with (first
                        | (go_at_call 28; refine (pre_any s 47 42 j false _ H3).mono ?_; rintro e w' ⟨rfl, rfl⟩)
                        | (go_at_call 28; refine (pre_any s 42 47 j false _ H4).mono ?_; rintro e w' ⟨rfl, rfl⟩))
                      go_round
                      case rel => exact ⟨j + 1, z, by omega, by omega, by go_num, rfl, by omega, by omega, hnx⟩
                      case measure => simp [intOf]; omega
                    · have H4 : Hid (two s 42 47 j = true) := h4
                      have hnx := st_out hz hin h4
                      have hr4 := two_room s 42 47 j h4
                      clear h3 h4
                      go_wp2_with (first
                        | (go_at_call 28; refine (pre_any s 47 42 j false _ H3).mono ?_; rintro e w' ⟨rfl, rfl⟩)
                        | (go_at_call 28; refine (pre_any s 42 47 j true _ H4).mono ?_; rintro e w' ⟨rfl, rfl⟩))
                      go_round
                      case rel => exact ⟨j + 2, z - 1, by omega, by omega, by go_num, rfl, by omega, by omega, hnx⟩
                      case measure => simp [intOf]; omega
                  · have H3 : Hid (two s 47 42 j = true) := h3
                    have hnx := st_in hz hin h3
                    have hr3 := two_room s 47 42 j h3
                    clear h3
                    go_wp2_with (go_at_call 28; refine (pre_any s 47 42 j true _ H3).mono ?_; rintro e w' ⟨rfl, rfl⟩)
                    go_round
                    case rel => exact ⟨j + 2, z + 1, by omega, by omega, by go_num, rfl, by omega, by omega, hnx⟩
                    case measure => simp [intOf]; omega
                · have hfin : Hid (at_ s 0 j = T) := by
                    have e1 := at_end s z j (by omega)
                    have e2 := at_end s 0 j (by omega)
                    have := hin.out
                    show at_ s 0 j = T
                    omega
                  go_wp2
                  go_roundw
                  case rel => exact ⟨j, hj, rfl, hfin, hbe⟩
                  case measure => simp [intOf]; omega
              · obtain rfl : z = 0 := by omega
                go_wp2
                go_roundw
                case rel => exact ⟨j, hj, rfl, hin, hbe⟩
                case measure => simp [intOf]; omega
        · have H1 : Hid (two s 45 45 k = true) := h1
          rcases at_line s k h1 with ⟨h2, h3⟩ | ⟨m, h2, h3, h4, h5⟩
          · have H2 : Hid (Lib.indexAny (s.extract k s.size).data.toList [10, 13] = -1) := h2
            have H3 : Hid (((s.size : Nat) : Int) = (T : Int)) := by have := hat.out; show ((s.size : Nat) : Int) = (T : Int); omega
            clear h1 h2 h3
            go_wp2_with (first
              | (go_at_call 27; refine (space_no _ _ hsp).mono ?_; rintro e w' ⟨rfl, rfl⟩)
              | (go_at_call 28; refine (pre_any s 45 45 k true _ H1).mono ?_; rintro e w' ⟨rfl, rfl⟩)
              | (go_at_call 29; refine (line_any s k (-1) _ hs H2).mono ?_; rintro e w' ⟨rfl, hb2⟩))
            go_ret
            exact ⟨ret_int H3.out, (below_on hbe hb2).out⟩
          · have H2 : Hid (Lib.indexAny (s.extract k s.size).data.toList [10, 13] = (m : Int)) := h2
            have H3 : Hid (at_ s 0 (k + m) = T) := by rw [← hat.out, h5]; exact rfl
            clear h1 h2 h5
            go_wp2_with (first
              | (go_at_call 27; refine (space_no _ _ hsp).mono ?_; rintro e w' ⟨rfl, rfl⟩)
              | (go_at_call 28; refine (pre_any s 45 45 k true _ H1).mono ?_; rintro e w' ⟨rfl, rfl⟩)
              | (go_at_call 29; refine (line_any s k m _ hs H2).mono ?_; rintro e w' ⟨rfl, hb2⟩))
            go_roundw
            case rel => exact ⟨k + m, by omega, by go_num, H3, below_on hbe hb2⟩
            case measure => simp [intOf]; omega
      · have hat2 := st_sp hlt hat hsp
        go_wp2_with (go_at_call 27; refine (space_yes _ _ hsp).mono ?_; rintro e w' ⟨⟨z, rfl, hz⟩, rfl⟩)
        go_roundw
        case rel => exact ⟨k + 1, by omega, by go_num, hat2, hbe⟩
        case measure => simp [intOf]; omega
    · go_wp2
      go_ret
      exact ⟨ret_int (st_end hlt hat), hbe.out⟩

set_option maxRecDepth 100000 in
set_option maxHeartbeats 400000 in
theorem skip_past (s : ByteArray) (i : Nat) (w : World) (hs : s.size ≤ 1048576) (hi : s.size < i) :
    Calls Try.prog 19 #[.string s, .int .i64 (i : Int)] w fun e w' => e = .returned (.int .i64 (i : Int)) ∧ w' = w := by
  go_enter Try.func19, Try.ntmps19
  go_wp2
  refine wp_loop_rounds 1 ?_
  rw [rounds_succ]
  go_wp2
  go_ret
  exact ⟨rfl, rfl⟩

theorem skip_all (s : ByteArray) (i : Nat) (w : World) (hs : s.size ≤ 1048576) :
    Calls Try.prog 19 #[.string s, .int .i64 (i : Int)] w fun e w' => e = .returned (.int .i64 ((at_ s 0 i : Nat) : Int)) ∧ Below w.heap.size w w' := by
  by_cases hi : i ≤ s.size
  · exact skip_any s i w hs hi
  · refine (skip_past s i w hs (by omega)).mono ?_
    rintro e w' ⟨rfl, rfl⟩
    exact ⟨ret_int (by rw [at_end s 0 i (by omega)]), Below.refl _ _⟩

set_option maxRecDepth 100000 in
set_option maxHeartbeats 400000 in
theorem zzSkip (s : ByteArray) (i : Nat) (w : World) (hs : s.size ≤ 1048576) :
    Calls Try.prog 10 #[.string s, .int .i64 (i : Int)] w fun e w' => e = .returned (.int .i64 ((at_ s 0 i : Nat) : Int)) ∧ Below w.heap.size w w' := by
  go_enter Try.func10, Try.ntmps10
  go_wp2_with (go_at_call 19; refine (skip_all s i _ hs).mono ?_; rintro e w' ⟨rfl, hb⟩)
  go_ret
  exact ⟨rfl, hb⟩
end Go.Proofs.Qxb6601301a.Wk
