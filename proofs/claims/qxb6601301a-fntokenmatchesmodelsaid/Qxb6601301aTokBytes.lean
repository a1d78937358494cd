import Derived.Test.Qxb6601301aTokPlain
import Derived.Test.Qxb6601301aProg
import Derived.WalkKit
import Derived.WalkLawsBesides
import Derived.Laws.BitsAllLaws
namespace Go.Proofs.Qxb6601301a.Tk
open Go.RowKit TokP
set_option linter.unusedSimpArgs false
set_option linter.unusedVariables false

theorem ret_bool {a b : Bool} (h : a = b) : Ending.returned (.bool a) = .returned (.bool b) := by rw [h]
theorem ret_int {k : IntKind} {a b : Int} (h : a = b) : Ending.returned (.int k a) = .returned (.int k b) := by rw [h]

set_option maxHeartbeats 1000000 in
theorem start32 (c : UInt8) (w : World) :
    Calls Try.prog 32 #[.int .u8 (c.toNat : Int)] w fun e w' => e = .returned (.bool (isStart c)) ∧ w' = w := by
  have H := isStart_iff c
  have HI : Hid (isStart c = true ↔ ((97 ≤ c.toNat ∧ c.toNat ≤ 122) ∨ (65 ≤ c.toNat ∧ c.toNat ≤ 90) ∨ c.toNat = 95 ∨ 128 ≤ c.toNat)) := H
  clear H
  have hc : c.toNat < 256 := c.toNat_lt
  go_enter Try.func32, Try.ntmps32
  go_wp2
  all_goals
    go_ret
    refine ⟨ret_bool ?_, rfl⟩
    rw [Bool.eq_iff_iff, HI.out]
    simp
    omega

set_option maxHeartbeats 1000000 in
theorem cont33 (c : UInt8) (w : World) :
    Calls Try.prog 33 #[.int .u8 (c.toNat : Int)] w fun e w' => e = .returned (.bool (isCont c)) ∧ w' = w := by
  have H1 := isStart_iff c
  have H2 := isCont_iff c
  have HI : Hid (isStart c = true ↔ ((97 ≤ c.toNat ∧ c.toNat ≤ 122) ∨ (65 ≤ c.toNat ∧ c.toNat ≤ 90) ∨ c.toNat = 95 ∨ 128 ≤ c.toNat)) := H1
  have HJ : Hid (isCont c = true ↔ ((97 ≤ c.toNat ∧ c.toNat ≤ 122) ∨ (65 ≤ c.toNat ∧ c.toNat ≤ 90) ∨ c.toNat = 95 ∨ 128 ≤ c.toNat ∨ (48 ≤ c.toNat ∧ c.toNat ≤ 57) ∨ c.toNat = 36)) := H2
  clear H1 H2
  have hc : c.toNat < 256 := c.toNat_lt
  cases hst : isStart c
  · have hn : ¬ ((97 ≤ c.toNat ∧ c.toNat ≤ 122) ∨ (65 ≤ c.toNat ∧ c.toNat ≤ 90) ∨ c.toNat = 95 ∨ 128 ≤ c.toNat) := fun h => by have := HI.out.2 h; rw [hst] at this; cases this
    have HN : Hid (¬ ((97 ≤ c.toNat ∧ c.toNat ≤ 122) ∨ (65 ≤ c.toNat ∧ c.toNat ≤ 90) ∨ c.toNat = 95 ∨ 128 ≤ c.toNat)) := hn
    clear hn
    go_enter Try.func33, Try.ntmps33
    go_wp2_with (go_at_call 32; refine (start32 c _).mono ?_; rintro e w' ⟨rfl, rfl⟩)
    all_goals
      go_ret
      refine ⟨ret_bool ?_, rfl⟩
      have := HN.out
      rw [Bool.eq_iff_iff, HJ.out]
      simp
      omega
  · have hn := HI.out.1 hst
    have HN : Hid ((97 ≤ c.toNat ∧ c.toNat ≤ 122) ∨ (65 ≤ c.toNat ∧ c.toNat ≤ 90) ∨ c.toNat = 95 ∨ 128 ≤ c.toNat) := hn
    clear hn
    go_enter Try.func33, Try.ntmps33
    go_wp2_with (go_at_call 32; refine (start32 c _).mono ?_; rintro e w' ⟨rfl, rfl⟩)
    all_goals
      go_ret
      refine ⟨ret_bool ?_, rfl⟩
      have := HN.out
      rw [Bool.eq_iff_iff, HJ.out]
      simp
      omega

theorem or_letter_nat : ∀ n : Fin 256, (97 ≤ (n.val ||| 32) ∧ (n.val ||| 32) ≤ 122) ↔ ((97 ≤ n.val ∧ n.val ≤ 122) ∨ (65 ≤ n.val ∧ n.val ≤ 90)) := by decide +kernel
theorem or_letter (c : UInt8) : (97 ≤ bits .or .u8 (c.toNat : Int) 32 ∧ bits .or .u8 (c.toNat : Int) 32 ≤ 122) ↔ ((97 ≤ c.toNat ∧ c.toNat ≤ 122) ∨ (65 ≤ c.toNat ∧ c.toNat ≤ 90)) := by
  have hc : c.toNat < 256 := c.toNat_lt
  have e : bits .or .u8 (c.toNat : Int) 32 = ((c.toNat ||| 32 : Nat) : Int) := u8_or_nat c.toNat 32 hc (by decide)
  have := or_letter_nat ⟨c.toNat, hc⟩
  simp only at this
  rw [e]
  omega

set_option maxRecDepth 100000 in
set_option maxHeartbeats 1000000 in
theorem start24 (c : UInt8) (w : World) :
    Calls Try.prog 24 #[.int .u8 (c.toNat : Int)] w fun e w' => e = .returned (.bool (isStart c)) ∧ w' = w := by
  have H := isStart_iff c
  have HI : Hid (isStart c = true ↔ ((97 ≤ c.toNat ∧ c.toNat ≤ 122) ∨ (65 ≤ c.toNat ∧ c.toNat ≤ 90) ∨ c.toNat = 95 ∨ 128 ≤ c.toNat)) := H
  have HO : Hid ((97 ≤ bits .or .u8 (c.toNat : Int) 32 ∧ bits .or .u8 (c.toNat : Int) 32 ≤ 122) ↔ ((97 ≤ c.toNat ∧ c.toNat ≤ 122) ∨ (65 ≤ c.toNat ∧ c.toNat ≤ 90))) := or_letter c
  clear H
  have hc : c.toNat < 256 := c.toNat_lt
  go_enter Try.func24, Try.ntmps24
  go_wp2
  all_goals
    go_ret
    refine ⟨ret_bool ?_, rfl⟩
    have := HO.out
    rw [Bool.eq_iff_iff, HI.out]
    try simp only [beq_iff_eq, beq_eq_false_iff_ne, decide_eq_true_eq, Bool.false_eq_true, true_iff, false_iff] at *
    omega

set_option maxRecDepth 100000 in
set_option maxHeartbeats 1000000 in
theorem tag35 (c : UInt8) (w : World) :
    Calls Try.prog 35 #[.int .u8 (c.toNat : Int)] w fun e w' => e = .returned (.bool (isTag c)) ∧ w' = w := by
  have H := isTag_iff c
  have HI : Hid (isTag c = true ↔ ((97 ≤ c.toNat ∧ c.toNat ≤ 122) ∨ (65 ≤ c.toNat ∧ c.toNat ≤ 90) ∨ c.toNat = 95 ∨ 128 ≤ c.toNat ∨ (48 ≤ c.toNat ∧ c.toNat ≤ 57))) := H
  have HO : Hid ((97 ≤ bits .or .u8 (c.toNat : Int) 32 ∧ bits .or .u8 (c.toNat : Int) 32 ≤ 122) ↔ ((97 ≤ c.toNat ∧ c.toNat ≤ 122) ∨ (65 ≤ c.toNat ∧ c.toNat ≤ 90))) := or_letter c
  clear H
  have hc : c.toNat < 256 := c.toNat_lt
  go_enter Try.func35, Try.ntmps35
  go_wp2
  all_goals
    go_ret
    refine ⟨ret_bool ?_, rfl⟩
    have := HO.out
    rw [Bool.eq_iff_iff, HI.out]
    try simp only [beq_iff_eq, beq_eq_false_iff_ne, decide_eq_true_eq, Bool.false_eq_true, true_iff, false_iff] at *
    omega

set_option maxRecDepth 100000 in
set_option maxHeartbeats 1000000 in
theorem cont25 (c : UInt8) (w : World) :
    Calls Try.prog 25 #[.int .u8 (c.toNat : Int)] w fun e w' => e = .returned (.bool (isCont c)) ∧ w' = w := by
  have HI : Hid (isCont c = (isTag c || decide (c.toNat = 36))) := rfl
  have hc : c.toNat < 256 := c.toNat_lt
  by_cases h36 : c.toNat = 36
  · have hb : ((c.toNat : Int) == 36) = true := by rw [h36]; rfl
    have H36 : Hid (c.toNat = 36) := h36
    clear h36
    go_enter Try.func25, Try.ntmps25
    go_wp2_with (go_at_call 35; refine (tag35 c _).mono ?_; rintro e w' ⟨rfl, rfl⟩)
    go_ret
    exact ⟨ret_bool (by rw [HI.out, H36.out]; simp), rfl⟩
  · have hb : ((c.toNat : Int) == 36) = false := by simp; omega
    have H36 : Hid (¬ c.toNat = 36) := h36
    clear h36
    go_enter Try.func25, Try.ntmps25
    go_wp2_with (go_at_call 35; refine (tag35 c _).mono ?_; rintro e w' ⟨rfl, rfl⟩)
    go_ret
    exact ⟨ret_bool (by rw [HI.out, decide_eq_false H36.out]; simp), rfl⟩
end Go.Proofs.Qxb6601301a.Tk
