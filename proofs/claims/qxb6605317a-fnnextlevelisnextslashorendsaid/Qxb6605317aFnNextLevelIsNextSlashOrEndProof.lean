import Derived.Test.Qxb6605317aRows
import Derived.WalkKit
import Derived.ProofKit
import Derived.OpenShut
import Derived.ShutString
import Derived.Below
import Derived.Test.Qxb6605317aNext
namespace Go.Proofs.Qxb6605317a.fnNextLevelIsNextSlashOrEnd
open Go.ChangeShapes Go.WideShapes Go.ChangeAt Go.RowKit
open Go.ChangeMaps (open_string shut_string)
set_option linter.unusedVariables false

theorem own : ownKnob Try.prog.godebug = none := by kernel_rfl

open Wk

set_option maxRecDepth 100000 in
set_option maxHeartbeats 1000000 in
theorem core (s : ByteArray) (p R : Nat) (w : World) (hs : s.size ≤ 65536) (hp : p < s.size + 1) (hp2 : (p : Int) - 1 < (s.size : Int)) (h : NX s p R) :
    Calls Try.prog 3 #[.string s, .int .i64 ((p : Int) - 1)] w fun e w' => e = .returned (.bool true) ∧ Below w.heap.size w w' := by
  obtain ⟨h1, h2, h3, h4⟩ := h
  have hall : Hid (∀ j (h : j < s.size), p ≤ j → j < R → ¬ s[j] = 47) := h4
  have HX : Hid (NX s p R) := ⟨h1, h2, h3, h4⟩
  clear h4
  have hbr : Hid (R < s.size ∧ (∃ h : R < s.size, ((s[R].toNat : Int) != 47) = false) ∨ R = s.size) := by
    rcases Nat.lt_or_ge R s.size with h | h
    · exact Or.inl ⟨h, h, by rw [h3 h]; rfl⟩
    · exact Or.inr (by omega)
  clear h3
  have fin : ∀ (hR : R < s.size ∨ R = s.size) (hb : ∀ h : R < s.size, ((s[R].toNat : Int) != 47) = false),
      Calls Try.prog 3 #[.string s, .int .i64 ((p : Int) - 1)] w fun e w' => e = .returned (.bool true) ∧ Below w.heap.size w w' := by
    intro hR hb
    rcases hR with hR | hR
    · have hbb := hb hR
      clear hb
      go_enter Try.func3, Try.ntmps3
      go_wp2_with (first
        | (go_at_call 5; go_in)
        | (go_at_call 6; refine (next6 s p R _ (by omega) (by omega) HX.out).mono ?_; rintro e w' ⟨rfl, hw⟩; rw [hw]; clear hw))
      go_loop [7] (fun q => ∃ j : Nat, p ≤ j ∧ j ≤ R ∧ q = .int .i64 j) (fun q => R - (intOf q).toNat)
      case atStart => exact ⟨p, by omega, h1, by go_num⟩
      case round =>
        obtain ⟨j, hj1, hj2, rfl⟩ := hrel
        by_cases hlt : j < R
        · have hjs : j < s.size := by omega
          have hne : ((s[j].toNat : Int) == 47) = false := by
            have := hall.out j hjs hj1 hlt
            have h47 : ¬ s[j].toNat = 47 := fun e => this (UInt8.toNat_inj.1 e)
            simp; omega
          go_wp2
          go_round
          case rel => exact ⟨j + 1, by omega, by omega, by go_num⟩
          case measure => simp [intOf]; omega
        · go_wp2
          go_ret
          exact ⟨rfl, Below.refl _ _⟩
    · clear hb
      have HR : Hid (R = s.size) := hR
      have hnl : ¬ (R : Int) < (s.size : Int) := by omega
      clear hR
      go_enter Try.func3, Try.ntmps3
      go_wp2_with (first
        | (go_at_call 5; go_in)
        | (go_at_call 6; refine (next6 s p R _ (by omega) (by omega) HX.out).mono ?_; rintro e w' ⟨rfl, hw⟩; rw [hw]; clear hw))
      go_loop [7] (fun q => ∃ j : Nat, p ≤ j ∧ j ≤ R ∧ q = .int .i64 j) (fun q => R - (intOf q).toNat)
      case atStart => exact ⟨p, by omega, h1, by go_num⟩
      case round =>
        obtain ⟨j, hj1, hj2, rfl⟩ := hrel
        by_cases hlt : j < R
        · have hjs : j < s.size := by omega
          have hne : ((s[j].toNat : Int) == 47) = false := by
            have := hall.out j hjs hj1 hlt
            have h47 : ¬ s[j].toNat = 47 := fun e => this (UInt8.toNat_inj.1 e)
            simp; omega
          go_wp2
          go_round
          case rel => exact ⟨j + 1, by omega, by omega, by go_num⟩
          case measure => simp [intOf]; omega
        · go_wp2
          go_ret
          exact ⟨rfl, Below.refl _ _⟩
  rcases hbr.out with ⟨hR, _, hb⟩ | hR
  · exact fin (Or.inl hR) (fun _ => hb)
  · exact fin (Or.inr hR) (fun h => by omega)

set_option maxRecDepth 100000 in
set_option maxHeartbeats 400000 in
theorem walk (a0 : ByteArray) (a1 : Int) (w0 : a0.size ≤ maxLen) (w1 : (Lit.int .i64 a1).wf = true) (w : World) :
    Calls Try.prog 3 #[.string a0, .int .i64 a1] w fun e w' => e = .returned (.bool true) ∧ Below w.heap.size w w' := by
  unfold maxLen at w0
  by_cases hs : a0.size ≤ 1048576
  · by_cases hs2 : a0.size ≤ 65536
    · by_cases h0 : a1 < -1
      · go_enter Try.func3, Try.ntmps3
        go_wp2
        go_ret
        exact ⟨rfl, Below.refl _ _⟩
      · by_cases hn : a1 < (a0.size : Int)
        · obtain ⟨p, hp⟩ : ∃ p : Nat, a1 = (p : Int) - 1 := ⟨(a1 + 1).toNat, by omega⟩
          subst hp
          obtain ⟨R, hR⟩ := nx_some a0 p (by omega)
          exact core a0 p R w hs2 (by omega) hn hR
        · go_enter Try.func3, Try.ntmps3
          go_wp2
          go_ret
          exact ⟨rfl, Below.refl _ _⟩
    · go_enter Try.func3, Try.ntmps3
      go_wp2
      go_ret
      exact ⟨rfl, Below.refl _ _⟩
  · go_enter Try.func3, Try.ntmps3
    go_wp2
    go_ret
    exact ⟨rfl, Below.refl _ _⟩

set_option maxRecDepth 100000 in
theorem lifted (os : Os) (started : os.Started) (H : Type) (enc : TypeId × Value → H) :
    ReturnsInHanded {} Try.checked os 3 .any (Rows.fnNextLevelIsNextSlashOrEndSpec.pre6 enc Try.prog Try.f3 Rows.fnNextLevelIsNextSlashOrEndRow.domain false) (Rows.fnNextLevelIsNextSlashOrEndSpec.post enc Try.prog Try.f3 false true false false) := by
  refine returnsInHanded_of_change (C := Try.checked) own started (by kernel_rfl) Try.func3
    (ChangeSpec.witness6 (enc := enc) (C := Try.checked) false ⟨#[], #[.string ByteArray.empty, .int .i64 0], []⟩ 8 (by kernel_rfl) (by kernel_rfl) (by kernel_rfl) (by kernel_rfl)) ?_
  intro W base args ds gs before hval0 hW hcnd _
  have hval : ∀ (j : Nat) t v, Try.f3.params[j]? = some t → args[j]? = some v → Value.okWide Try.prog W .any base t v := hval0
  have hW' := hW
  obtain ⟨p, q, hA0, hV, rfl, hfz, hnd⟩ := hW
  have hA : DataW.TrodAll enc Try.prog W 0 (fun _ => true) true Try.f3.params.toList args.toList ds p := hA0
  rw [Try.params3] at hA hval
  obtain ⟨v0, vs0, d0, ds0, p0, q0, hargs, rfl, rfl, h0, r0⟩ := trodAll_cons hA
  obtain ⟨v1, vs1, d1, ds1, p1, q1, rfl, rfl, rfl, h1, r1⟩ := trodAll_cons r0
  obtain ⟨rfl, rfl, rfl⟩ := trodAll_nil r1
  obtain rfl : args = #[v0, v1] := by cases args; simp_all
  obtain ⟨rfl, rfl⟩ := trodVars_none hV
  obtain ⟨a0, rfl, rfl, rfl, w0⟩ := open_string Try.underlying9 (hval 0 9 v0 rfl rfl) h0
  obtain ⟨a1, rfl, rfl, rfl, w1⟩ := open_int Try.underlying3 (hval 1 3 v1 rfl rfl) h1
  clear hA0 hval0
  simp only [List.append_nil] at hW'
  refine (walk a0 a1 w0 w1 W).mono fun e W' ⟨he, bel⟩ => ?_
  subst he
  exact ⟨_, rfl, _, _, _, [], [], [], hW', (trodAll_cons_mk (shut_bool Try.underlying4 _) trodAll_mk0), (trodAll_cons_mk (shut_string Try.underlying9 w0) (trodAll_cons_mk (shut_int Try.underlying3 w1) trodAll_mk0)), rfl, bel.frame _, fun h => by cases h⟩

theorem over : Rows.fnNextLevelIsNextSlashOrEndRow.holds Try.pinned (OpenSpec.ofChange Rows.fnNextLevelIsNextSlashOrEndSpec) :=
  OpenClaim.holds_of_wide 3 Try.f3 rfl rfl rfl rfl rfl rfl rfl ⟨rfl, rfl, rfl, rfl, rfl⟩ rfl rfl rfl rfl rfl (by kernel_rfl) Try.func3 (by kernel_rfl)
    (of_decide_eq_true (by kernel_rfl)) (by unfold Func.isWrapper; first | (rw [if_pos (by decide +kernel)]; kernel_rfl) | (rw [if_neg (by decide +kernel)]; exact ⟨rfl, rfl⟩))
    (fun os started H enc _ => lifted os started H enc)

theorem proved : Rows.FnNextLevelIsNextSlashOrEndSaid :=
  over
end Go.Proofs.Qxb6605317a.fnNextLevelIsNextSlashOrEnd
