import Derived.Test.Qxb6601301aRows
import Derived.WalkKit
import Derived.ProofKit
import Derived.OpenShut
import Derived.ShutString
import Derived.Below
import Derived.Deep.RegionWith
import Derived.Test.Qxb6601301aSkip
namespace Go.Proofs.Qxb6601301a.fnSkipSpaceLooksOnlyAhead
open Go.ChangeShapes Go.WideShapes Go.ChangeAt Go.RowKit
open Go.ChangeMaps (open_string shut_string)
set_option linter.unusedVariables false

theorem own : ownKnob Try.prog.godebug = none := by kernel_rfl

open Wk Plain

theorem shift (s : ByteArray) (n : Nat) : at_ s 0 n = n + at_ (s.extract n s.size) 0 0 := by
  unfold at_
  rw [Lib.extract_to_end, List.drop_zero]
  omega

set_option maxRecDepth 100000 in
set_option maxHeartbeats 1000000 in
theorem core (s : ByteArray) (n R Z : Nat) (w : World) (hs : s.size ≤ 1048576) (hn : n ≤ s.size) (z1 : ∀ w, Calls Try.prog 10 #[.string s, .int .i64 (n : Int)] w fun e w' => e = .returned (.int .i64 (R : Int)) ∧ Below w.heap.size w w')
    (z2 : ∀ w, Calls Try.prog 10 #[.string (s.extract n s.size), .int .i64 0] w fun e w' => e = .returned (.int .i64 (Z : Int)) ∧ Below w.heap.size w w')
    (h1 : Hid (R = n + Z)) (hZ : Z ≤ 1048576) :
    Calls Try.prog 5 #[.string s, .int .i64 (n : Int)] w fun e w' => e = .returned (.bool true) ∧ Below w.heap.size w w' := by
  have Z1 : Hid (∀ w, Calls Try.prog 10 #[.string s, .int .i64 (n : Int)] w fun e w' => e = .returned (.int .i64 (R : Int)) ∧ Below w.heap.size w w') := z1
  have Z2 : Hid (∀ w, Calls Try.prog 10 #[.string (s.extract n s.size), .int .i64 0] w fun e w' => e = .returned (.int .i64 (Z : Int)) ∧ Below w.heap.size w w') := z2
  clear z1 z2
  go_enter Try.func5, Try.ntmps5
  go_wp2_with (first | (go_at_call 13; go_in) | fail)
  go_region_with (first
    | (go_at_call_of 10 (Value.string s); refine (Z1.out _).mono ?_; rintro e w' ⟨rfl, hb⟩)
    | (go_at_call_of 10 (Value.string (s.extract n s.size)); refine (Z2.out _).mono ?_; rintro e w' ⟨rfl, hb⟩))
  all_goals
    go_wp2
    go_ret
    rename_i w2 hb2
    refine ⟨ret_bool ?_, ?_⟩
    · have := h1.out
      rw [wrap_small _ (by omega) (by omega)]
      simp
      omega
    · have hb0 : Below w.heap.size w w.drew := (Below.refl _ _).drew
      have hb4 : Below w.heap.size w w2 := hb0.trans hb2
      exact hb4.trans (hb.mono hb4.size)

set_option maxRecDepth 100000 in
set_option maxHeartbeats 400000 in
theorem walk (a0 : ByteArray) (a1 : Int) (w0 : a0.size ≤ maxLen) (w1 : (Lit.int .i64 a1).wf = true) (w : World) :
    Calls Try.prog 5 #[.string a0, .int .i64 a1] w fun e w' => e = .returned (.bool true) ∧ Below w.heap.size w w' := by
  unfold maxLen at w0
  by_cases hs : a0.size ≤ 1048576
  · by_cases h0 : a1 < 0
    · go_enter Try.func5, Try.ntmps5
      go_wp2
      go_ret
      exact ⟨rfl, Below.refl _ _⟩
    · obtain ⟨n, rfl⟩ : ∃ n : Nat, a1 = n := ⟨a1.toNat, by omega⟩
      by_cases hn : n ≤ a0.size
      · have hz : (a0.extract n a0.size).size ≤ 1048576 := by simp; omega
        have hz2 := at_le (a0.extract n a0.size) 0 0 (Nat.zero_le _)
        exact core a0 n (at_ a0 0 n) (at_ (a0.extract n a0.size) 0 0) w hs hn (fun w => zzSkip a0 n w hs) (fun w => zzSkip (a0.extract n a0.size) 0 w hz) (shift a0 n) (by omega)
      · go_enter Try.func5, Try.ntmps5
        go_wp2
        go_ret
        exact ⟨rfl, Below.refl _ _⟩
  · go_enter Try.func5, Try.ntmps5
    go_wp2
    go_ret
    exact ⟨rfl, Below.refl _ _⟩

set_option maxRecDepth 100000 in
theorem lifted (os : Os) (started : os.Started) (H : Type) (enc : TypeId × Value → H) :
    ReturnsInHanded {} Try.checked os 5 .any (Rows.fnSkipSpaceLooksOnlyAheadSpec.pre6 enc Try.prog Try.f5 Rows.fnSkipSpaceLooksOnlyAheadRow.domain false) (Rows.fnSkipSpaceLooksOnlyAheadSpec.post enc Try.prog Try.f5 false true false false) := by
  refine returnsInHanded_of_change (C := Try.checked) own started (by kernel_rfl) Try.func5
    (ChangeSpec.witness6 (enc := enc) (C := Try.checked) false ⟨#[], #[.string ByteArray.empty, .int .i64 0], []⟩ 8 (by kernel_rfl) (by kernel_rfl) (by kernel_rfl) (by kernel_rfl)) ?_
  intro W base args ds gs before hval0 hW hcnd _
  have hval : ∀ (j : Nat) t v, Try.f5.params[j]? = some t → args[j]? = some v → Value.okWide Try.prog W .any base t v := hval0
  have hW' := hW
  obtain ⟨p, q, hA0, hV, rfl, hfz, hnd⟩ := hW
  have hA : DataW.TrodAll enc Try.prog W 0 (fun _ => true) true Try.f5.params.toList args.toList ds p := hA0
  rw [Try.params5] at hA hval
  obtain ⟨v0, vs0, d0, ds0, p0, q0, hargs, rfl, rfl, h0, r0⟩ := trodAll_cons hA
  obtain ⟨v1, vs1, d1, ds1, p1, q1, rfl, rfl, rfl, h1, r1⟩ := trodAll_cons r0
  obtain ⟨rfl, rfl, rfl⟩ := trodAll_nil r1
  obtain rfl : args = #[v0, v1] := by cases args; simp_all
  obtain ⟨rfl, rfl⟩ := trodVars_none hV
  obtain ⟨a0, rfl, rfl, rfl, w0⟩ := open_string Try.underlying9 (hval 0 9 v0 rfl rfl) h0
  obtain ⟨a1, rfl, rfl, rfl, w1⟩ := open_int Try.underlying3 (hval 1 3 v1 rfl rfl) h1
  clear hA0 hval0
  simp only [List.append_nil] at hW'
  refine (walk a0 a1 w0 w1 W).mono fun e W' ⟨he, bel⟩ => ?_
  subst he
  exact ⟨_, rfl, _, _, _, [], [], [], hW', (trodAll_cons_mk (shut_bool Try.underlying4 _) trodAll_mk0), (trodAll_cons_mk (shut_string Try.underlying9 w0) (trodAll_cons_mk (shut_int Try.underlying3 w1) trodAll_mk0)), rfl, bel.frame _, fun h => by cases h⟩

theorem over : Rows.fnSkipSpaceLooksOnlyAheadRow.holds Try.pinned (OpenSpec.ofChange Rows.fnSkipSpaceLooksOnlyAheadSpec) :=
  OpenClaim.holds_of_wide 5 Try.f5 rfl rfl rfl rfl rfl rfl rfl ⟨rfl, rfl, rfl, rfl, rfl⟩ rfl rfl rfl rfl rfl (by kernel_rfl) Try.func5 (by kernel_rfl)
    (of_decide_eq_true (by kernel_rfl)) (by unfold Func.isWrapper; first | (rw [if_pos (by decide +kernel)]; kernel_rfl) | (rw [if_neg (by decide +kernel)]; exact ⟨rfl, rfl⟩))
    (fun os started H enc _ => lifted os started H enc)

theorem proved : Rows.FnSkipSpaceLooksOnlyAheadSaid :=
  over
end Go.Proofs.Qxb6601301a.fnSkipSpaceLooksOnlyAhead
