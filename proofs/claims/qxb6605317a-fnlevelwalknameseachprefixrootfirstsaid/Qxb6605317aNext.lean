import Derived.Test.Qxb6605317aProg
import Derived.WalkKit
import Derived.WalkSpells
import Derived.Below
import Derived.Lib.Walk
import Derived.Lib.Bytealg
import Derived.Lib.IndexBytes
import Derived.Lib.IndexLaws
namespace Go.Proofs.Qxb6605317a.Wk
open Go.RowKit
set_option linter.unusedSimpArgs false
set_option linter.unusedVariables false

theorem ret_bool {a b : Bool} (h : a = b) : Ending.returned (.bool a) = .returned (.bool b) := by rw [h]
theorem ret_int {k : IntKind} {a b : Int} (h : a = b) : Ending.returned (.int k a) = .returned (.int k b) := by rw [h]

/-- R is the first slash from p on, or the text's end. -/
def NX (s : ByteArray) (p R : Nat) : Prop := p ≤ R ∧ R ≤ s.size ∧ (∀ h : R < s.size, s[R] = 47) ∧ ∀ j (h : j < s.size), p ≤ j → j < R → ¬ s[j] = 47

theorem NX.uniq {s : ByteArray} {p R Q : Nat} (h : NX s p R) (k : NX s p Q) : R = Q := by
  obtain ⟨a1, a2, a3, a4⟩ := h
  obtain ⟨b1, b2, b3, b4⟩ := k
  rcases Nat.lt_trichotomy R Q with h | h | h
  · exact absurd (a3 (by omega)) (b4 R (by omega) a1 h)
  · exact h
  · exact absurd (b3 (by omega)) (a4 Q (by omega) b1 h)

theorem drop_at (s : ByteArray) (p k : Nat) (h : p + k < s.size) : (s.data.toList.drop p)[k]? = some (s[p + k]) := by
  rw [List.getElem?_drop]
  exact Lib.data_getElem? s (p + k) h

theorem nx_miss (s : ByteArray) (p : Nat) (hp : p ≤ s.size) (h : Lib.indexByte (s.data.toList.drop p) 47 = -1) : NX s p s.size := by
  refine ⟨hp, Nat.le_refl _, fun h => absurd h (Nat.lt_irrefl _), fun j hj h1 h2 e => ?_⟩
  have := Lib.indexByte_none h (j - p)
  rw [drop_at s p (j - p) (by omega)] at this
  apply this
  congr 1
  have e2 : p + (j - p) = j := by omega
  simp only [e2]
  exact e
theorem nx_hit (s : ByteArray) (p z : Nat) (h : Lib.indexByte (s.data.toList.drop p) 47 = z) : NX s p (p + z) := by
  obtain ⟨h1, h2⟩ := Lib.indexByte_some h
  have hlt : p + z < s.size := by
    obtain ⟨h3, _⟩ := List.getElem?_eq_some_iff.1 h1
    rw [List.length_drop] at h3
    have e : s.data.toList.length = s.size := by simp
    omega
  refine ⟨by omega, by omega, fun hh => ?_, fun j hj h3 h4 e => ?_⟩
  · rw [drop_at s p z hlt] at h1
    exact Option.some.inj h1
  · have := h2 (j - p) (by omega)
    rw [drop_at s p (j - p) (by omega)] at this
    apply this
    congr 1
    have e2 : p + (j - p) = j := by omega
    simp only [e2]
    exact e
theorem nx_cases (s : ByteArray) (p R : Nat) (hp : p ≤ s.size) (h : NX s p R) : (Lib.indexByte (s.extract p s.size).data.toList 47 = -1 ∧ R = s.size) ∨ ∃ z : Nat, Lib.indexByte (s.extract p s.size).data.toList 47 = z ∧ R = p + z := by
  rw [Lib.extract_to_end]
  have hge := Lib.indexByte_ge (s.data.toList.drop p) 47
  by_cases hz : Lib.indexByte (s.data.toList.drop p) 47 = -1
  · exact Or.inl ⟨hz, h.uniq (nx_miss s p hp hz)⟩
  · obtain ⟨z, hz2⟩ : ∃ z : Nat, Lib.indexByte (s.data.toList.drop p) 47 = z := ⟨(Lib.indexByte (s.data.toList.drop p) 47).toNat, by omega⟩
    exact Or.inr ⟨z, hz2, h.uniq (nx_hit s p z hz2)⟩
theorem nx_some (s : ByteArray) (p : Nat) (hp : p ≤ s.size) : ∃ R, NX s p R := by
  have hge := Lib.indexByte_ge (s.data.toList.drop p) 47
  by_cases hz : Lib.indexByte (s.data.toList.drop p) 47 = -1
  · exact ⟨_, nx_miss s p hp hz⟩
  · exact ⟨_, nx_hit s p (Lib.indexByte (s.data.toList.drop p) 47).toNat (by omega)⟩

set_option maxHeartbeats 1000000 in
set_option maxRecDepth 100000 in
theorem indexByte14 (s : ByteArray) (c : Int) (w : World) :
    Calls Try.prog 14 #[.string s, .int .u8 c] w fun e w' => e = .returned (.int .i64 (Lib.indexByte s.data.toList c.toNat.toUInt8)) ∧ w' = w := by
  go_enter Try.func14, Try.ntmps14
  go_wp2
  rw [run_callFunc_extern Try.func15 (by kernel_rfl) (by kernel_rfl) (by kernel_rfl) (e := Extern.BytealgIndexByte.indexByte) (by kernel_rfl), Lib.run_indexByteString]
  simp only [Result.andThen]
  rw [Oper.upon_value]
  go_wp2
  go_ret
  exact ⟨rfl, rfl⟩

set_option maxHeartbeats 1000000 in
theorem slash12 (s : ByteArray) (z : Int) (w : World) (h : Hid (Lib.indexByte s.data.toList 47 = z)) :
    Calls Try.prog 12 #[.string s, .int .u8 47] w fun e w' => e = .returned (.int .i64 z) ∧ w' = w := by
  go_enter Try.func12, Try.ntmps12
  go_wp2_with (go_at_call 14; refine (indexByte14 _ _ _).mono ?_; rintro e w' ⟨rfl, hw⟩; rw [hw]; clear hw)
  go_ret
  exact ⟨ret_int h.out, rfl⟩

set_option maxHeartbeats 1000000 in
set_option maxRecDepth 100000 in
theorem next10 (s : ByteArray) (p R : Nat) (w : World) (hs : s.size ≤ 1048576) (hp : p ≤ s.size) (h : NX s p R) :
    Calls Try.prog 10 #[.string s, .int .i64 ((p : Int) - 1)] w fun e w' => e = .returned (.int .i64 (R : Int)) ∧ w' = w := by
  have hr : R ≤ s.size := h.2.1
  rcases nx_cases s p R hp h with ⟨h1, h2⟩ | ⟨z, h1, h2⟩
  · have H1 : Hid (Lib.indexByte (s.extract p s.size).data.toList 47 = -1) := h1
    have H2 : Hid (R = s.size) := h2
    clear h h1 h2
    go_enter Try.func10, Try.ntmps10
    go_wp2_with (go_at_call 12; refine (slash12 _ (-1) _ H1).mono ?_; rintro e w' ⟨rfl, hw⟩; rw [hw]; clear hw)
    go_ret
    exact ⟨ret_int (by rw [H2.out]), rfl⟩
  · have H1 : Hid (Lib.indexByte (s.extract p s.size).data.toList 47 = (z : Int)) := h1
    have H2 : Hid (R = p + z) := h2
    have hz : z ≤ s.size := by omega
    clear h h1 h2
    go_enter Try.func10, Try.ntmps10
    go_wp2_with (go_at_call 12; refine (slash12 _ z _ H1).mono ?_; rintro e w' ⟨rfl, hw⟩; rw [hw]; clear hw)
    go_ret
    exact ⟨ret_int (by rw [H2.out]; omega), rfl⟩

set_option maxHeartbeats 1000000 in
theorem next6 (s : ByteArray) (p R : Nat) (w : World) (hs : s.size ≤ 1048576) (hp : p ≤ s.size) (h : NX s p R) :
    Calls Try.prog 6 #[.string s, .int .i64 ((p : Int) - 1)] w fun e w' => e = .returned (.int .i64 (R : Int)) ∧ w' = w := by
  have H : Hid (NX s p R) := h
  clear h
  go_enter Try.func6, Try.ntmps6
  go_wp2_with (go_at_call 10; refine (next10 s p R _ hs hp H.out).mono ?_; rintro e w' ⟨rfl, hw⟩; rw [hw]; clear hw)
  go_ret
  exact ⟨rfl, rfl⟩
end Go.Proofs.Qxb6605317a.Wk
