import Derived.Test.Qxb6601301aRows
import Derived.WalkKit
import Derived.ProofKit
import Derived.OpenShut
import Derived.ShutString
import Derived.Below
import Derived.HandedShaped
import Derived.Test.Qxb6601301aTok
import Derived.Test.Qxb6601301aTokModel
namespace Go.Proofs.Qxb6601301a.fnTokenMatchesModel
open Go.ChangeShapes Go.WideShapes Go.ChangeAt Go.RowKit
open Go.ChangeMaps (open_string shut_string)
set_option linter.unusedVariables false

theorem own : ownKnob Try.prog.godebug = none := by kernel_rfl

open Tk TokP

set_option maxRecDepth 100000 in
set_option maxHeartbeats 1000000 in
theorem core (s B : ByteArray) (n E : Nat) (bs : Bool) (w : World) (hs : s.size ≤ 1048576) (hn : n < s.size) (z1 : Calls Try.prog 15 #[.string s, .int .i64 (n : Int), .bool bs] w fun e w' => e = .returned (.tuple #[.string B, .int .i64 (E : Int)]) ∧ Below w.heap.size w w')
    (z2 : ∀ w', Calls Try.prog 16 #[.string s, .int .i64 (n : Int), .bool bs] w' fun e w'' => e = .returned (.tuple #[.string B, .int .i64 (E : Int)]) ∧ Below w'.heap.size w' w'') :
    Calls Try.prog 6 #[.string s, .int .i64 (n : Int), .bool bs] w fun e w' => e = .returned (.bool true) ∧ Below w.heap.size w w' := by
  have Z1 : Hid (Calls Try.prog 15 #[.string s, .int .i64 (n : Int), .bool bs] w fun e w' => e = .returned (.tuple #[.string B, .int .i64 (E : Int)]) ∧ Below w.heap.size w w') := z1
  have Z2 : Hid (∀ w', Calls Try.prog 16 #[.string s, .int .i64 (n : Int), .bool bs] w' fun e w'' => e = .returned (.tuple #[.string B, .int .i64 (E : Int)]) ∧ Below w'.heap.size w' w'') := z2
  clear z1 z2
  go_enter Try.func6, Try.ntmps6
  go_wp2_with (first | (go_at_call 14; go_in) | fail)
  refine Z1.out.mono ?_
  rintro e w1 ⟨rfl, hb1⟩
  have B1 : Hid (Below w.heap.size w w1) := hb1
  clear hb1
  go_wp2_with fail
  refine (Z2.out w1).mono ?_
  rintro e w2 ⟨rfl, hb2⟩
  have B2 : Hid (Below w.heap.size w w2) := B1.out.trans (hb2.mono B1.out.size)
  clear hb2
  go_wp2
  go_ret
  refine ⟨ret_bool ?_, B2.out⟩
  try simp

set_option maxRecDepth 100000 in
set_option maxHeartbeats 400000 in
theorem walk (a0 : ByteArray) (a1 : Int) (a2 : Bool) (w0 : a0.size ≤ maxLen) (w1 : (Lit.int .i64 a1).wf = true) (w : World) (hm : ∃ m, w.cell? ⟨0, 0, none⟩ = some (.int .i64 m)) :
    Calls Try.prog 6 #[.string a0, .int .i64 a1, .bool a2] w fun e w' => e = .returned (.bool true) ∧ Below w.heap.size w w' := by
  unfold maxLen at w0
  by_cases hs : a0.size ≤ 1048576
  · by_cases h0 : a1 < 0
    · clear hm
      go_enter Try.func6, Try.ntmps6
      go_wp2
      go_ret
      exact ⟨rfl, Below.refl _ _⟩
    · obtain ⟨n, rfl⟩ : ∃ n : Nat, a1 = n := ⟨a1.toNat, by omega⟩
      by_cases hn : n < a0.size
      · obtain ⟨m, hm⟩ := hm
        obtain ⟨L, E, hT⟩ := tk_some a0 a2 n
        exact core a0 ⟨L.toArray⟩ n E a2 w hs hn (token15 a0 n a2 m L E w hs hn hm hT) (fun w' => model16 a0 n a2 L E w' hs hn hT)
      · clear hm
        go_enter Try.func6, Try.ntmps6
        go_wp2
        go_ret
        exact ⟨rfl, Below.refl _ _⟩
  · clear hm
    go_enter Try.func6, Try.ntmps6
    go_wp2
    go_ret
    exact ⟨rfl, Below.refl _ _⟩

set_option maxRecDepth 100000 in
theorem lifted (os : Os) (started : os.Started) (H : Type) (enc : TypeId × Value → H) :
    ReturnsInHanded {} Try.checked os 6 .any (Rows.fnTokenMatchesModelSpec.pre6 enc Try.prog Try.f6 Rows.fnTokenMatchesModelRow.domain false) (Rows.fnTokenMatchesModelSpec.post enc Try.prog Try.f6 false true false false) := by
  refine returnsInHanded_of_change_shaped (C := Try.checked) own started (by kernel_rfl) Try.func6
    (ChangeSpec.witness6 (enc := enc) (C := Try.checked) false ⟨#[], #[.string ByteArray.empty, .int .i64 0, .bool false], []⟩ 8 (by kernel_rfl) (by kernel_rfl) (by kernel_rfl) (by kernel_rfl)) ?_
  intro W base args ds gs before hval0 hW hcnd _ hsh _
  have hval : ∀ (j : Nat) t v, Try.f6.params[j]? = some t → args[j]? = some v → Value.okWide Try.prog W .any base t v := hval0
  have hW' := hW
  obtain ⟨p, q, hA0, hV, rfl, hfz, hnd⟩ := hW
  have hA : DataW.TrodAll enc Try.prog W 0 (fun _ => true) true Try.f6.params.toList args.toList ds p := hA0
  rw [Try.params6] at hA hval
  obtain ⟨v0, vs0, d0, ds0, p0, q0, hargs, rfl, rfl, h0, r0⟩ := trodAll_cons hA
  obtain ⟨v1, vs1, d1, ds1, p1, q1, rfl, rfl, rfl, h1, r1⟩ := trodAll_cons r0
  obtain ⟨v2, vs2, d2, ds2, p2, q2, rfl, rfl, rfl, h2, r2⟩ := trodAll_cons r1
  obtain ⟨rfl, rfl, rfl⟩ := trodAll_nil r2
  obtain rfl : args = #[v0, v1, v2] := by cases args; simp_all
  obtain ⟨rfl, rfl⟩ := trodVars_none hV
  obtain ⟨a0, rfl, rfl, rfl, w0⟩ := open_string Try.underlying9 (hval 0 9 v0 rfl rfl) h0
  obtain ⟨a1, rfl, rfl, rfl, w1⟩ := open_int Try.underlying3 (hval 1 3 v1 rfl rfl) h1
  obtain ⟨a2, rfl, rfl, rfl⟩ := open_bool Try.underlying4 (hval 2 4 v2 rfl rfl) h2
  clear hA0 hval0
  simp only [List.append_nil] at hW'
  refine (walk a0 a1 a2 w0 w1 W (Try.laysM143.s1_3 W hsh)).mono fun e W' ⟨he, bel⟩ => ?_
  subst he
  exact ⟨_, rfl, _, _, _, [], [], [], hW', (trodAll_cons_mk (shut_bool Try.underlying4 _) trodAll_mk0), (trodAll_cons_mk (shut_string Try.underlying9 w0) (trodAll_cons_mk (shut_int Try.underlying3 w1) (trodAll_cons_mk (shut_bool Try.underlying4 _) trodAll_mk0))), rfl, bel.frame _, fun h => by cases h⟩

theorem over : Rows.fnTokenMatchesModelRow.holds Try.pinned (OpenSpec.ofChange Rows.fnTokenMatchesModelSpec) :=
  OpenClaim.holds_of_wide 6 Try.f6 rfl rfl rfl rfl rfl rfl rfl ⟨rfl, rfl, rfl, rfl, rfl⟩ rfl rfl rfl rfl rfl (by kernel_rfl) Try.func6 (by kernel_rfl)
    (of_decide_eq_true (by kernel_rfl)) (by unfold Func.isWrapper; first | (rw [if_pos (by decide +kernel)]; kernel_rfl) | (rw [if_neg (by decide +kernel)]; exact ⟨rfl, rfl⟩))
    (fun os started H enc _ => lifted os started H enc)

theorem proved : Rows.FnTokenMatchesModelSaid :=
  over
end Go.Proofs.Qxb6601301a.fnTokenMatchesModel
