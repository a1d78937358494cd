import Derived.Test.Qxb6601301aTokBytes
import Derived.Deep.LoopGhost
namespace Go.Proofs.Qxb6601301a.Tk
open Go.RowKit TokP
set_option linter.unusedSimpArgs false
set_option linter.unusedVariables false

section
variable {s : ByteArray} {q : UInt8} {bs : Bool} {k T : Nat}
theorem eq92 {c : UInt8} (h : c.toNat = 92) : c = 92 := UInt8.toNat_inj.1 h
theorem ne92 {c : UInt8} (h : ¬ c.toNat = 92) : ¬ c = 92 := fun e => h (by rw [e]; rfl)
theorem q_esc (hk : k < s.size) (h : Hid (qat s q bs 0 k = T)) (hb : bs = true) (hc : s[k].toNat = 92) : Hid (qat s q bs 1 (k + 1) = T) := by
  have e := qat_esc s q bs k hk hb (eq92 hc); rw [← h.out, e]; exact rfl
theorem q_quo (hk : k < s.size) (h : Hid (qat s q bs 0 k = T)) (hb : ¬ (bs = true ∧ s[k].toNat = 92)) (hc : s[k].toNat = q.toNat) : Hid (qat s q bs 2 (k + 1) = T) := by
  have e := qat_quote s q bs k hk (fun x => hb ⟨x.1, by rw [x.2]; rfl⟩) (UInt8.toNat_inj.1 hc); rw [← h.out, e]; exact rfl
theorem q_on (hk : k < s.size) (h : Hid (qat s q bs 0 k = T)) (hb : ¬ (bs = true ∧ s[k].toNat = 92)) (hc : ¬ s[k].toNat = q.toNat) : Hid (qat s q bs 0 (k + 1) = T) := by
  have e := qat_plain s q bs k hk (fun x => hb ⟨x.1, by rw [x.2]; rfl⟩) (fun x => hc (by rw [x])); rw [← h.out, e]; exact rfl
theorem q_one (hk : k < s.size) (h : Hid (qat s q bs 1 k = T)) : Hid (qat s q bs 0 (k + 1) = T) := by
  have e := qat_one s q bs k hk; rw [← h.out, e]; exact rfl
theorem q_same (hk : k < s.size) (h : Hid (qat s q bs 2 k = T)) (hc : s[k].toNat = q.toNat) : Hid (qat s q bs 0 (k + 1) = T) := by
  have e := qat_two_same s q bs k hk (UInt8.toNat_inj.1 hc); rw [← h.out, e]; exact rfl
theorem q_close (hk : k < s.size) (h : Hid (qat s q bs 2 k = T)) (hc : ¬ s[k].toNat = q.toNat) : (k : Int) = (T : Int) := by
  have e := qat_two_other s q bs k hk (fun x => hc (by rw [x])); have := h.out; omega
theorem q_fin {st : Nat} (hk : ¬ k < s.size) (hk2 : k ≤ s.size) (h : Hid (qat s q bs st k = T)) : (s.size : Int) = (T : Int) := by
  have e := qat_end s q bs st k (by omega); have := h.out; omega
end

set_option maxRecDepth 100000 in
set_option maxHeartbeats 2000000 in
theorem quoteEnd22 (s : ByteArray) (i : Nat) (q : UInt8) (bs : Bool) (w : World) (hs : s.size ≤ 1048576) (hi : i < s.size) (hq : s[i] = q) :
    Calls Try.prog 22 #[.string s, .int .i64 (i : Int), .bool bs] w fun e w' => e = .returned (.int .i64 ((qat s q bs 0 (i + 1) : Nat) : Int)) ∧ w' = w := by
  obtain ⟨T, hT⟩ : ∃ T, T = qat s q bs 0 (i + 1) := ⟨_, rfl⟩
  rw [← hT]
  have HT : Hid (T = qat s q bs 0 (i + 1)) := hT
  have HQ : Hid (s[i] = q) := hq
  clear hT
  go_enter Try.func22, Try.ntmps22
  go_wp2
  go_loop [8, 9] (fun st p => ∃ (k z : Nat), k ≤ s.size ∧ p = .int .i64 k ∧ st = .int .i64 z ∧ z ≤ 2 ∧ Hid (qat s q bs z k = T)) (fun _ p => s.size - (intOf p).toNat)
  case atStart => exact ⟨i + 1, 0, by omega, by go_num, rfl, by omega, HT.out.symm⟩
  case round =>
    obtain ⟨k, z, hk, rfl, rfl, hz, hat⟩ := hrel
    by_cases hlt : k < s.size
    · have hz3 : z = 0 ∨ z = 1 ∨ z = 2 := by omega
      rcases hz3 with rfl | rfl | rfl
      · cases bs
        all_goals
          go_wp2
          all_goals
            go_round
            case rel =>
              try simp only [beq_iff_eq, beq_eq_false_iff_ne, bne_iff_ne] at *
              first
              | exact ⟨k + 1, 1, by omega, by go_num, rfl, by omega, q_esc hlt hat rfl (by omega)⟩
              | exact ⟨k + 1, 2, by omega, by go_num, rfl, by omega, q_quo hlt hat (by simp; try omega) (by omega)⟩
              | exact ⟨k + 1, 0, by omega, by go_num, rfl, by omega, q_on hlt hat (by simp; try omega) (by omega)⟩
            case measure => simp [intOf]; omega
      · go_wp2
        go_round
        case rel => exact ⟨k + 1, 0, by omega, by go_num, rfl, by omega, q_one hlt hat⟩
        case measure => simp [intOf]; omega
      · go_wp2
        all_goals first
        | go_ret
          refine ⟨ret_int (q_close hlt hat ?_), rfl⟩
          try simp only [beq_iff_eq, beq_eq_false_iff_ne, bne_iff_ne] at *
          omega
        | go_round
          case rel =>
            try simp only [beq_iff_eq, beq_eq_false_iff_ne, bne_iff_ne, bne_eq_false_iff_eq] at *
            exact ⟨k + 1, 0, by omega, by go_num, rfl, by omega, q_same hlt hat (by omega)⟩
          case measure => simp [intOf]; omega
    · go_wp2
      go_ret
      exact ⟨ret_int (q_fin hlt hk hat), rfl⟩

section
variable {s : ByteArray} {q : UInt8} {bs : Bool} {k T : Nat}
theorem q_esc2 (hk : k < s.size) (h : Hid (qat s q bs 0 k = T)) (hb : bs = true) (hc : s[k].toNat = 92) : (k + 2 ≤ s.size ∧ Hid (qat s q bs 0 (k + 2) = T)) ∨ (k + 2 = s.size + 1 ∧ Hid (T = s.size)) := by
  have h1 := q_esc hk h hb hc
  by_cases h2 : k + 1 < s.size
  · exact Or.inl ⟨by omega, q_one h2 h1⟩
  · refine Or.inr ⟨by omega, ?_⟩
    have := q_fin h2 (by omega) h1
    show T = s.size
    omega
theorem q_twice (hk : k + 1 < s.size) (h : Hid (qat s q bs 0 k = T)) (hb : ¬ (bs = true ∧ s[k].toNat = 92)) (hc : s[k].toNat = q.toNat) (hd : s[k + 1].toNat = q.toNat) : Hid (qat s q bs 0 (k + 2) = T) :=
  q_same hk (q_quo (by omega) h hb hc) hd
theorem q_done (hk : k < s.size) (h : Hid (qat s q bs 0 k = T)) (hb : ¬ (bs = true ∧ s[k].toNat = 92)) (hc : s[k].toNat = q.toNat) (hd : ∀ h : k + 1 < s.size, ¬ s[k + 1].toNat = q.toNat) : ((k : Int) + 1) = (T : Int) := by
  have h1 := q_quo hk h hb hc
  by_cases h2 : k + 1 < s.size
  · have := q_close h2 h1 (hd h2); omega
  · have := q_fin h2 (by omega) h1; omega
end

set_option maxRecDepth 100000 in
set_option maxHeartbeats 4000000 in
theorem quoted30 (s : ByteArray) (i : Nat) (q : UInt8) (bs : Bool) (w : World) (hs : s.size ≤ 1048576) (hi : i < s.size) (hq : s[i] = q) :
    Calls Try.prog 30 #[.string s, .int .i64 (i : Int), .bool bs] w fun e w' => e = .returned (.int .i64 ((qat s q bs 0 (i + 1) : Nat) : Int)) ∧ w' = w := by
  obtain ⟨T, hT⟩ : ∃ T, T = qat s q bs 0 (i + 1) := ⟨_, rfl⟩
  rw [← hT]
  have HT : Hid (T = qat s q bs 0 (i + 1)) := hT
  clear hT
  go_enter Try.func30, Try.ntmps30
  go_wp2
  go_loop [8] (fun p => ∃ k : Nat, p = .int .i64 k ∧ ((k ≤ s.size ∧ Hid (qat s q bs 0 k = T)) ∨ (k = s.size + 1 ∧ Hid (T = s.size)))) (fun p => s.size + 1 - (intOf p).toNat)
  case atStart => exact ⟨i + 1, by go_num, Or.inl ⟨by omega, HT.out.symm⟩⟩
  case round =>
    obtain ⟨k, rfl, hor⟩ := hrel
    by_cases hlt : k < s.size
    · have hat : Hid (qat s q bs 0 k = T) := by
        rcases hor with h | h
        · exact h.2
        · omega
      clear hor
      cases bs
      all_goals
        go_wp2
        all_goals first
        | go_ret
          refine ⟨ret_int ?_, rfl⟩
          try simp only [beq_iff_eq, beq_eq_false_iff_ne, bne_iff_ne] at *
          exact q_done hlt hat (by simp; try omega) (by omega) (by intro hh; omega)
        | go_round
          case rel =>
            try simp only [beq_iff_eq, beq_eq_false_iff_ne, bne_iff_ne] at *
            first
            | exact ⟨k + 2, by go_num, q_esc2 hlt hat rfl (by omega)⟩
            | exact ⟨k + 2, by go_num, Or.inl ⟨by omega, q_twice (by omega) hat (by simp; try omega) (by omega) (by omega)⟩⟩
            | exact ⟨k + 1, by go_num, Or.inl ⟨by omega, q_on hlt hat (by simp; try omega) (by omega)⟩⟩
          case measure => simp [intOf]; omega
    · have hfin : (s.size : Int) = (T : Int) := by
        rcases hor with h | h
        · exact q_fin hlt h.1 h.2
        · have := h.2.out; omega
      have HF : Hid ((s.size : Int) = (T : Int)) := hfin
      clear hfin hor
      go_wp2
      go_ret
      exact ⟨ret_int HF.out, rfl⟩
end Go.Proofs.Qxb6601301a.Tk
