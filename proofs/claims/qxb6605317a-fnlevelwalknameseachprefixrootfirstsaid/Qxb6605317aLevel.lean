import Derived.Test.Qxb6605317aNext
import Derived.RegionTactic
import Derived.ChangeAlike
import Derived.BigRegion
import Derived.BigQuiet
import Derived.Laws.ResultCell
import Derived.WalkSmall
namespace Go.Proofs.Qxb6605317a.Wk
open Go.RowKit
set_option linter.unusedSimpArgs false
set_option linter.unusedVariables false

/-- The mode that is wanted above: 1 above 1 and 3, else 2. -/
def inten (m : Int) : Int := if m = 1 ∨ m = 3 then 1 else 2
theorem inten_1 : inten 1 = 1 := rfl
theorem inten_3 : inten 3 = 1 := rfl
theorem inten_2 {m : Int} (h1 : ¬ m = 1) (h3 : ¬ m = 3) : inten m = 2 := by
  unfold inten; rw [if_neg (by omega)]

set_option maxHeartbeats 400000 in
set_option maxRecDepth 100000 in
theorem inten13 (m : Int) (w : World) :
    Calls Try.prog 13 #[.int .u8 m] w fun e w' => e = .returned (.int .u8 (inten m)) ∧ w' = w := by
  by_cases h1 : m = 1
  · subst h1
    go_enter Try.func13, Try.ntmps13
    go_wp2
    go_ret
    exact ⟨rfl, rfl⟩
  · by_cases h3 : m = 3
    · subst h3
      go_enter Try.func13, Try.ntmps13
      go_wp2
      go_ret
      exact ⟨rfl, rfl⟩
    · have hb1 : (m == 1) = false := by simpa using h1
      have hb3 : (m == 3) = false := by simpa using h3
      have H : Hid (inten m = 2) := inten_2 h1 h3
      clear h1 h3
      go_enter Try.func13, Try.ntmps13
      go_wp2
      go_ret
      exact ⟨ret_int H.out.symm, rfl⟩

set_option maxHeartbeats 400000 in
set_option maxRecDepth 100000 in
theorem inten9 (m : Int) (w : World) :
    Calls Try.prog 9 #[.int .u8 m] w fun e w' => e = .returned (.int .u8 (inten m)) ∧ w' = w := by
  by_cases h1 : m = 1
  · subst h1
    go_enter Try.func9, Try.ntmps9
    go_wp2
    go_ret
    exact ⟨rfl, rfl⟩
  · by_cases h3 : m = 3
    · subst h3
      go_enter Try.func9, Try.ntmps9
      go_wp2
      go_ret
      exact ⟨rfl, rfl⟩
    · have hb1 : (m == 1) = false := by simpa using h1
      have hb3 : (m == 3) = false := by simpa using h3
      have H : Hid (inten m = 2) := inten_2 h1 h3
      clear h1 h3
      go_enter Try.func9, Try.ntmps9
      go_wp2
      go_ret
      exact ⟨ret_int H.out.symm, rfl⟩

set_option maxHeartbeats 1000000 in
set_option maxRecDepth 100000 in
theorem level11_up (s l : ByteArray) (m : Int) (pa ke : Bool) (E : Nat) (w : World) (hs : s.size ≤ 1048576) (hE : E < s.size) :
    Calls Try.prog 11 #[.agg #[.string s, .int .u8 m, .bool pa, .bool ke, .string l], .int .i64 (E : Int)] w fun e w' => e = .returned (.agg #[.string (s.extract 0 E), .int .u8 (inten m), .bool false, .bool false]) ∧ Below w.heap.size w w' := by
  go_enter Try.func11, Try.ntmps11
  go_wp2
  go_region
  go_wp2_with (go_at_call 13; refine (inten13 _ _).mono ?_; rintro e w' ⟨rfl, hw⟩; rw [hw]; clear hw)
  refine bodyPost_ret (v := .agg #[.string (s.extract 0 E), .int .u8 (inten m), .bool false, .bool false]) (by simp [results, Try.results11, go_sem]) rfl ⟨rfl, ?_⟩
  exact ((((Below.refl _ _).alloc (Nat.le_refl _) _).alloc (by simp) _).alloc (by simp; omega) _).drew

set_option maxHeartbeats 1000000 in
set_option maxRecDepth 100000 in
theorem level11_at (s l : ByteArray) (m : Int) (pa ke : Bool) (E : Nat) (w : World) (hs : s.size ≤ 1048576) (hE : E ≤ s.size) (hE2 : ¬ E < s.size) :
    Calls Try.prog 11 #[.agg #[.string s, .int .u8 m, .bool pa, .bool ke, .string l], .int .i64 (E : Int)] w fun e w' => e = .returned (.agg #[.string (s.extract 0 E), .int .u8 m, .bool pa, .bool (ke && !pa)]) ∧ Below w.heap.size w w' := by
  cases ke
  all_goals
    go_enter Try.func11, Try.ntmps11
    go_wp2
    go_region
    go_wp2
    refine bodyPost_ret (by simp [results, Try.results11, go_sem]) rfl ⟨rfl, ?_⟩
    exact ((((Below.refl _ _).alloc (Nat.le_refl _) _).alloc (by simp) _).alloc (by simp; omega) _).drew

set_option maxHeartbeats 1000000 in
set_option maxRecDepth 100000 in
theorem level8 (s l : ByteArray) (m : Int) (pa ke : Bool) (E : Nat) (m2 : Int) (p2 k2 : Bool) (w : World) (hs : s.size ≤ 1048576) (hE : E ≤ s.size)
    (z : ∀ w, Calls Try.prog 11 #[.agg #[.string s, .int .u8 m, .bool pa, .bool ke, .string l], .int .i64 (E : Int)] w fun e w' => e = .returned (.agg #[.string (s.extract 0 E), .int .u8 m2, .bool p2, .bool k2]) ∧ Below w.heap.size w w') :
    Calls Try.prog 8 #[.string s, .int .u8 m, .bool pa, .bool ke, .string l, .int .i64 (E : Int)] w fun e w' => e = .returned (.tuple #[.string (s.extract 0 E), .int .u8 m2, .bool p2, .bool k2]) ∧ Below w.heap.size w w' := by
  have Z : Hid (∀ w, Calls Try.prog 11 #[.agg #[.string s, .int .u8 m, .bool pa, .bool ke, .string l], .int .i64 (E : Int)] w fun e w' => e = .returned (.agg #[.string (s.extract 0 E), .int .u8 m2, .bool p2, .bool k2]) ∧ Below w.heap.size w w') := z
  clear z
  go_enter Try.func8, Try.ntmps8
  go_wp2_with (go_at_call 11; refine (Z.out _).mono ?_; rintro e w1 ⟨rfl, hb1⟩)
  go_quiet (fail)
  go_wp2
  refine bodyPost_ret (v := .tuple #[.string (s.extract 0 E), .int .u8 m2, .bool p2, .bool k2]) (by simp [results, Try.results8, go_sem]) rfl ⟨rfl, ?_⟩
  exact below_drewN (hb1.alloc hb1.size _) _

theorem level_up (s l : ByteArray) (m : Int) (pa ke : Bool) (E : Nat) (w : World) (hs : s.size ≤ 1048576) (hE : E < s.size) :
    Calls Try.prog 8 #[.string s, .int .u8 m, .bool pa, .bool ke, .string l, .int .i64 (E : Int)] w fun e w' => e = .returned (.tuple #[.string (s.extract 0 E), .int .u8 (inten m), .bool false, .bool false]) ∧ Below w.heap.size w w' :=
  level8 s l m pa ke E (inten m) false false w hs (by omega) (fun w => level11_up s l m pa ke E w hs hE)
theorem level_at (s l : ByteArray) (m : Int) (pa ke : Bool) (E : Nat) (w : World) (hs : s.size ≤ 1048576) (hE : E ≤ s.size) (hE2 : ¬ E < s.size) :
    Calls Try.prog 8 #[.string s, .int .u8 m, .bool pa, .bool ke, .string l, .int .i64 (E : Int)] w fun e w' => e = .returned (.tuple #[.string (s.extract 0 E), .int .u8 m, .bool pa, .bool (ke && !pa)]) ∧ Below w.heap.size w w' :=
  level8 s l m pa ke E m pa (ke && !pa) w hs hE (fun w => level11_at s l m pa ke E w hs hE hE2)
end Go.Proofs.Qxb6605317a.Wk
