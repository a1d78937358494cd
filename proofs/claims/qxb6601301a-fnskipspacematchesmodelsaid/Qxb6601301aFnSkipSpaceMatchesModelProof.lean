import Derived.Test.Qxb6601301aRows
import Derived.WalkKit
import Derived.ProofKit
import Derived.OpenShut
import Derived.ShutString
import Derived.Below
import Derived.Test.Qxb6601301aSkip
import Derived.Test.Qxb6601301aSsModel
namespace Go.Proofs.Qxb6601301a.fnSkipSpaceMatchesModel
open Go.ChangeShapes Go.WideShapes Go.ChangeAt Go.RowKit
open Go.ChangeMaps (open_string shut_string)
set_option linter.unusedVariables false

theorem own : ownKnob Try.prog.godebug = none := by kernel_rfl

open Wk Plain

set_option maxRecDepth 100000 in
set_option maxHeartbeats 1000000 in
theorem core (s : ByteArray) (n R : Nat) (w : World) (hs : s.size ≤ 1048576) (z1 : ∀ w, Calls Try.prog 10 #[.string s, .int .i64 (n : Int)] w fun e w' => e = .returned (.int .i64 (R : Int)) ∧ Below w.heap.size w w')
    (z2 : ∀ w, Calls Try.prog 11 #[.string s, .int .i64 (n : Int)] w fun e w' => e = .returned (.int .i64 (R : Int)) ∧ w' = w) :
    Calls Try.prog 3 #[.string s, .int .i64 (n : Int)] w fun e w' => e = .returned (.bool true) ∧ Below w.heap.size w w' := by
  have Z1 : Hid (∀ w, Calls Try.prog 10 #[.string s, .int .i64 (n : Int)] w fun e w' => e = .returned (.int .i64 (R : Int)) ∧ Below w.heap.size w w') := z1
  have Z2 : Hid (∀ w, Calls Try.prog 11 #[.string s, .int .i64 (n : Int)] w fun e w' => e = .returned (.int .i64 (R : Int)) ∧ w' = w) := z2
  clear z1 z2
  go_enter Try.func3, Try.ntmps3
  go_wp2_with (first
    | (go_at_call 9; go_in)
    | (go_at_call 10; refine (Z1.out _).mono ?_; rintro e w1 ⟨rfl, hb1⟩)
    | (go_at_call 11; refine (Z2.out _).mono ?_; rintro e w2 ⟨rfl, rfl⟩))
  go_ret
  exact ⟨by simp, hb1⟩

set_option maxRecDepth 100000 in
set_option maxHeartbeats 400000 in
theorem walk (a0 : ByteArray) (a1 : Int) (w0 : a0.size ≤ maxLen) (w1 : (Lit.int .i64 a1).wf = true) (w : World) :
    Calls Try.prog 3 #[.string a0, .int .i64 a1] w fun e w' => e = .returned (.bool true) ∧ Below w.heap.size w w' := by
  unfold maxLen at w0
  by_cases hs : a0.size ≤ 1048576
  · by_cases h0 : a1 < 0
    · go_enter Try.func3, Try.ntmps3
      go_wp2
      go_ret
      exact ⟨rfl, Below.refl _ _⟩
    · obtain ⟨n, rfl⟩ : ∃ n : Nat, a1 = n := ⟨a1.toNat, by omega⟩
      exact core a0 n (at_ a0 0 n) w hs (fun w => zzSkip a0 n w hs) (fun w => ssModel_all a0 n w hs)
  · go_enter Try.func3, Try.ntmps3
    go_wp2
    go_ret
    exact ⟨rfl, Below.refl _ _⟩

set_option maxRecDepth 100000 in
theorem lifted (os : Os) (started : os.Started) (H : Type) (enc : TypeId × Value → H) :
    ReturnsInHanded {} Try.checked os 3 .any (Rows.fnSkipSpaceMatchesModelSpec.pre6 enc Try.prog Try.f3 Rows.fnSkipSpaceMatchesModelRow.domain false) (Rows.fnSkipSpaceMatchesModelSpec.post enc Try.prog Try.f3 false true false false) := by
  refine returnsInHanded_of_change (C := Try.checked) own started (by kernel_rfl) Try.func3
    (ChangeSpec.witness6 (enc := enc) (C := Try.checked) false ⟨#[], #[.string ByteArray.empty, .int .i64 0], []⟩ 8 (by kernel_rfl) (by kernel_rfl) (by kernel_rfl) (by kernel_rfl)) ?_
  intro W base args ds gs before hval0 hW hcnd _
  have hval : ∀ (j : Nat) t v, Try.f3.params[j]? = some t → args[j]? = some v → Value.okWide Try.prog W .any base t v := hval0
  have hW' := hW
  obtain ⟨p, q, hA0, hV, rfl, hfz, hnd⟩ := hW
  have hA : DataW.TrodAll enc Try.prog W 0 (fun _ => true) true Try.f3.params.toList args.toList ds p := hA0
  rw [Try.params3] at hA hval
  obtain ⟨v0, vs0, d0, ds0, p0, q0, hargs, rfl, rfl, h0, r0⟩ := trodAll_cons hA
  obtain ⟨v1, vs1, d1, ds1, p1, q1, rfl, rfl, rfl, h1, r1⟩ := trodAll_cons r0
  obtain ⟨rfl, rfl, rfl⟩ := trodAll_nil r1
  obtain rfl : args = #[v0, v1] := by cases args; simp_all
  obtain ⟨rfl, rfl⟩ := trodVars_none hV
  obtain ⟨a0, rfl, rfl, rfl, w0⟩ := open_string Try.underlying9 (hval 0 9 v0 rfl rfl) h0
  obtain ⟨a1, rfl, rfl, rfl, w1⟩ := open_int Try.underlying3 (hval 1 3 v1 rfl rfl) h1
  clear hA0 hval0
  simp only [List.append_nil] at hW'
  refine (walk a0 a1 w0 w1 W).mono fun e W' ⟨he, bel⟩ => ?_
  subst he
  exact ⟨_, rfl, _, _, _, [], [], [], hW', (trodAll_cons_mk (shut_bool Try.underlying4 _) trodAll_mk0), (trodAll_cons_mk (shut_string Try.underlying9 w0) (trodAll_cons_mk (shut_int Try.underlying3 w1) trodAll_mk0)), rfl, bel.frame _, fun h => by cases h⟩

theorem over : Rows.fnSkipSpaceMatchesModelRow.holds Try.pinned (OpenSpec.ofChange Rows.fnSkipSpaceMatchesModelSpec) :=
  OpenClaim.holds_of_wide 3 Try.f3 rfl rfl rfl rfl rfl rfl rfl ⟨rfl, rfl, rfl, rfl, rfl⟩ rfl rfl rfl rfl rfl (by kernel_rfl) Try.func3 (by kernel_rfl)
    (of_decide_eq_true (by kernel_rfl)) (by unfold Func.isWrapper; first | (rw [if_pos (by decide +kernel)]; kernel_rfl) | (rw [if_neg (by decide +kernel)]; exact ⟨rfl, rfl⟩))
    (fun os started H enc _ => lifted os started H enc)

theorem proved : Rows.FnSkipSpaceMatchesModelSaid :=
  over
end Go.Proofs.Qxb6601301a.fnSkipSpaceMatchesModel
