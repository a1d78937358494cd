import Derived.Test.Qxb6601301aShelf
import Derived.WalkKit
import Derived.Lib.Walk
import Derived.Lib.Bytealg
import Derived.Lib.IndexAny
import Derived.Lib.IndexBytes
import Derived.Lib.OthersKept
import Derived.Laws.RangeAny
import Derived.Laws.Runes
import Derived.Laws.Strings3
import Derived.Deep.LoopGhost
import Derived.WalkMore
import Derived.BigQuiet
import Derived.WalkSmall
import Derived.Deep.RegionWith
import Derived.Deep.QuietTactic
namespace Go.Proofs.Qxb6601301a.Wk
open Go.RowKit
set_option linter.unusedSimpArgs false
set_option linter.unusedVariables false

theorem get_bang (s : ByteArray) (p : Nat) (h : p < s.size) : s.get! p = s[p]'h := get_at s p h

/-- Every byte that one step of a range over a string takes, from a byte beyond ASCII on, lies beyond ASCII. -/
theorem decode_cont (s : ByteArray) (pos : Nat) (h : pos < s.size) (ha : 128 ≤ (s[pos]'h).toNat) :
    ∀ j, j < (Utf8.decode s pos).2 → ∃ hj : pos + j < s.size, 128 ≤ (s[pos + j]'hj).toNat := by
  have hn : ¬ (s[pos]'h).toNat < 128 := by omega
  have step : ∀ k, (decide (pos + k < s.size) && (s.get! (pos + k)).toNat / 64 == 2) = true → ∃ hj : pos + k < s.size, 128 ≤ (s[pos + k]'hj).toNat := by
    intro k hk
    simp at hk
    refine ⟨hk.1, ?_⟩
    have e := get_bang s (pos + k) hk.1
    rw [e] at hk
    omega
  have zero : ∃ hj : pos + 0 < s.size, 128 ≤ (s[pos + 0]'hj).toNat := ⟨h, ha⟩
  intro j
  simp only [Utf8.decode, get_at s pos h, hn, if_false]
  intro hj
  have one : j < 1 → ∃ hj : pos + j < s.size, 128 ≤ (s[pos + j]'hj).toNat := by
    intro h1
    have : j = 0 := by omega
    subst this; exact zero
  split at hj
  · rename_i c
    rw [Bool.and_eq_true] at c
    split at hj
    · have hj' : j < 2 := hj
      by_cases h0 : j < 1
      · exact one h0
      · obtain rfl : j = 1 := by omega
        exact step 1 c.2
    · exact one hj
  · split at hj
    · rename_i c
      rw [Bool.and_eq_true, Bool.and_eq_true] at c
      split at hj
      · have hj' : j < 3 := hj
        by_cases h0 : j < 1
        · exact one h0
        · by_cases h1 : j = 1
          · subst h1; exact step 1 c.1.2
          · obtain rfl : j = 2 := by omega
            exact step 2 c.2
      · exact one hj
    · split at hj
      · rename_i c
        rw [Bool.and_eq_true, Bool.and_eq_true, Bool.and_eq_true] at c
        split at hj
        · have hj' : j < 4 := hj
          by_cases h0 : j < 1
          · exact one h0
          · by_cases h1 : j = 1
            · subst h1; exact step 1 c.1.1.2
            · by_cases h2 : j = 2
              · subst h2; exact step 2 c.1.2
              · obtain rfl : j = 3 := by omega
                exact step 3 c.2
        · exact one hj
      · exact one hj

theorem noAny_skip {s : ByteArray} {pos n : Nat} (hno : Lib.NoAny s.data.toList [10, 13] pos) (hall : ∀ j, j < n → ∃ hj : pos + j < s.size, 128 ≤ (s[pos + j]'hj).toNat) :
    Lib.NoAny s.data.toList [10, 13] (pos + n) := by
  intro j b hj hb
  by_cases h : j < pos
  · exact hno j b h hb
  · obtain ⟨hlt, h128⟩ := hall (j - pos) (by omega)
    have e : pos + (j - pos) = j := by omega
    have hb' : s.data.toList[j]? = some (s[pos + (j - pos)]'hlt) := by
      have : j < s.data.toList.length := by simp; show j < s.size; omega
      rw [List.getElem?_eq_getElem this]
      congr 1
      simp only [e]
      rfl
    rw [hb'] at hb
    have hbb := Option.some.inj hb
    rw [hbb] at h128
    have h1 : b ≠ 10 := by intro e; subst e; revert h128; decide
    have h2 : b ≠ 13 := by intro e; subst e; revert h128; decide
    simp [h1, h2]

theorem skip_le {s : ByteArray} {pos n : Nat} (hp : pos < s.size) (hall : ∀ j, j < n → ∃ hj : pos + j < s.size, 128 ≤ (s[pos + j]'hj).toNat) : pos + n ≤ s.size := by
  by_cases h : n = 0
  · omega
  · obtain ⟨hlt, _⟩ := hall (n - 1) (by omega)
    omega
set_option maxHeartbeats 1000000 in
set_option maxRecDepth 100000 in
theorem indexRune_valid (r : Int) (S E : ByteArray) (w : World) (hS : S.size = 2) (hS1 : ∀ h : 1 < S.size, (S[1]'h).toNat < 128) (hE : Utf8.encode r = E) (h0 : 128 ≤ r) (hr : (r == 65533) = false) (hv : r < 55296 ∨ (57343 < r ∧ r ≤ 1114111))
    (h2 : 2 ≤ E.size) (h4 : E.size ≤ 4) (hl : ∀ h : E.size - 1 < E.size, 128 ≤ (E[E.size - 1]'h).toNat) :
    Calls Try.prog 39 #[.string S, .int .i32 r] w fun e w' => e = .returned (.int .i64 (-1)) ∧ Below w.heap.size w w' := by
  by_cases hs : E.size = 2
  · have hl' : ∀ h : 1 < E.size, 128 ≤ (E[1]'h).toNat := by
      intro h
      have := hl (by omega)
      simpa [hs] using this
    have hne : (((S[1]'(by omega)).toNat : Int) != ((E[1]'(by omega)).toNat : Int)) = true := by have := hl' (by omega); have := hS1 (by omega); simp; omega
    clear hl hl' hS1
    rcases hv with hv | ⟨hv1, hv2⟩
    all_goals
      go_enter Try.func39, Try.ntmps39
      go_wp2
      go_step3
      go_wp2
      refine wp_loop_rounds 1 ?_
      rw [rounds_succ]
      go_wp2
      go_step3
      go_wp2
      go_quiet (fail)
      go_wp2
      go_region_with (go_at_call 27; refine (Try.strings_IndexByte _ _ _).mono ?_; rintro e w' ⟨rfl, rfl⟩)
      all_goals
        go_wp2
        rw [Exit.noGoto_ret]
        go_wp2
        rw [Exit.noGoto_ret]
        go_ret
        exact ⟨rfl, by repeat (first | exact Below.refl _ _ | apply Below.drew | apply below_drewN)⟩
  · clear hl
    have hs3 : 3 ≤ E.size := by omega
    rcases hv with hv | ⟨hv1, hv2⟩
    all_goals
      go_enter Try.func39, Try.ntmps39
      go_wp2
      go_step3
      go_wp2
      refine wp_loop_rounds 1 ?_
      rw [rounds_succ]
      go_wp2
      rw [Exit.noGoto_ret]
      go_ret
      exact ⟨rfl, Below.refl _ _⟩

set_option maxHeartbeats 1000000 in
set_option maxRecDepth 100000 in
theorem indexRune_bad (r : Int) (w : World) (h0 : 128 ≤ r) (hr : (r == 65533) = false) (hv : ¬ (r < 55296 ∨ (57343 < r ∧ r ≤ 1114111))) :
    Calls Try.prog 39 #[.string ⟨#[10, 13]⟩, .int .i32 r] w fun e w' => e = .returned (.int .i64 (-1)) ∧ Below w.heap.size w w' := by
  have hv1 : 55296 ≤ r := by omega
  by_cases hv2 : 57343 < r
  · have hv3 : 1114111 < r := by omega
    clear hv
    go_enter Try.func39, Try.ntmps39
    go_wp2
    go_ret
    exact ⟨rfl, Below.refl _ _⟩
  · clear hv
    go_enter Try.func39, Try.ntmps39
    go_wp2
    go_ret
    exact ⟨rfl, Below.refl _ _⟩

set_option maxHeartbeats 1000000 in
set_option maxRecDepth 100000 in
theorem indexRune_error (w : World) :
    Calls Try.prog 39 #[.string ⟨#[10, 13]⟩, .int .i32 65533] w fun e w' => e = .returned (.int .i64 (-1)) ∧ Below w.heap.size w w' := by
  go_enter Try.func39, Try.ntmps39
  go_wp2
  go_loopg [5, 6] 2 (fun g _ _ wx => ∃ i : Nat, i + g = 2 ∧ wx = w.iter ⟨#[10, 13]⟩ i)
  case atStart => exact ⟨0, by omega, rfl⟩
  case round =>
    obtain ⟨i, hig, rfl⟩ := hrel
    cases gk with
    | zero =>
      obtain rfl : i = 2 := by omega
      have hnx := fun ty => run_next_end (P := Try.prog) w ⟨#[10, 13]⟩ 2 ty (by decide)
      go_wp2
      go_ret
      exact ⟨rfl, (Below.refl _ _).alloc (Nat.le_refl _) _⟩
    | succ g =>
      have hi : i = 0 ∨ i = 1 := by omega
      have n0 : ∀ ty, (Instr.next (.pointer (some ⟨w.heap.size, 0, none⟩)) true ty).run Try.prog (w.iter ⟨#[10, 13]⟩ 0) = .ok (.tuple #[.bool true, .int .i64 0, .int .i32 10]) (w.iter ⟨#[10, 13]⟩ 1) := fun ty => run_next_ascii w ⟨#[10, 13]⟩ 0 ty (by decide) (by decide)
      have n1 : ∀ ty, (Instr.next (.pointer (some ⟨w.heap.size, 0, none⟩)) true ty).run Try.prog (w.iter ⟨#[10, 13]⟩ 1) = .ok (.tuple #[.bool true, .int .i64 1, .int .i32 13]) (w.iter ⟨#[10, 13]⟩ 2) := fun ty => run_next_ascii w ⟨#[10, 13]⟩ 1 ty (by decide) (by decide)
      rcases hi with rfl | rfl
      · go_wp2
        go_roundg g
        case measure => omega
        case rel => exact ⟨1, by omega, rfl⟩
      · go_wp2
        go_roundg g
        case measure => omega
        case rel => exact ⟨2, by omega, rfl⟩

theorem indexRune_high (r : Int) (w : World) (h0 : 128 ≤ r) :
    Calls Try.prog 39 #[.string ⟨#[10, 13]⟩, .int .i32 r] w fun e w' => e = .returned (.int .i64 (-1)) ∧ Below w.heap.size w w' := by
  by_cases hr : r = 65533
  · subst hr; exact indexRune_error w
  · by_cases hv : r < 55296 ∨ (57343 < r ∧ r ≤ 1114111)
    · have hval : Utf8.valid r = true := by
        rw [validRune_eq]; unfold validRune; exact decide_eq_true (by omega)
      obtain ⟨f1, f2, f3⟩ := encode_facts r hval h0
      exact indexRune_valid r ⟨#[10, 13]⟩ (Utf8.encode r) w rfl (fun h => (show (13 : UInt8).toNat < 128 by decide)) rfl h0 (by simpa using hr) hv f1 f2 f3
    · exact indexRune_bad r w h0 (by simpa using hr) hv
end Go.Proofs.Qxb6601301a.Wk
