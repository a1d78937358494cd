import Derived.Test.Qxb6601301aRune
namespace Go.Proofs.Qxb6601301a.Wk
open Go.RowKit
set_option linter.unusedSimpArgs false
set_option linter.unusedVariables false

theorem contains_high {x : UInt8} (h : 128 ≤ x.toNat) : ([10, 13] : List UInt8).contains x = false := by
  have h1 : x ≠ 10 := by intro e; subst e; revert h; decide
  have h2 : x ≠ 13 := by intro e; subst e; revert h; decide
  simp [h1, h2]

set_option maxHeartbeats 4000000 in
set_option maxRecDepth 1000000 in
/-- strings.IndexAny of the two line ends in a text of at most 8 bytes, whatever they are. -/
theorem indexAny_short (s : ByteArray) (w : World) (h8 : s.size ≤ 8) :
    Calls Try.prog 29 #[.string s, .string ⟨#[10, 13]⟩] w fun e w' => e = .returned (.int .i64 (Lib.indexAny s.data.toList [10, 13])) ∧ Below w.heap.size w w' := by
  have h8z : decide ((8 : Int) < (s.size : Int)) = false := decide_eq_false (by omega)
  go_enter Try.func29, Try.ntmps29
  go_wp2_with (go_at_call 40; refine (Try.strings_shouldUseASCIISet _ _).mono ?_; rintro e w' ⟨rfl, hw⟩; rw [hw, h8z])
  go_loopg [9, 10] s.size (fun g _ _ wx => ∃ i : Nat, i + g = s.size ∧ Hid (wx.heap[w.heap.size]? = some (.stringIter s i)) ∧ Hid (Below w.heap.size w wx) ∧ Hid (Lib.NoAny s.data.toList [10, 13] i))
  case atStart => exact ⟨0, by omega, World.iter_heap w s 0, (Below.refl _ _).alloc (Nat.le_refl _) _, Lib.NoAny.zero _ _⟩
  case round =>
    obtain ⟨i, hig, hit, hbe, hno⟩ := hrel
    cases gk with
    | zero =>
      obtain rfl : i = s.size := by omega
      have hnx := fun ty => Lib.run_next_end_at (P := Try.prog) wr w.heap.size s s.size ty hit.out (by omega)
      go_wp2
      go_ret
      exact ⟨by rw [Lib.indexAny_none (by rw [← Lib.size_eq]; exact hno.out)]; rfl, hbe.out⟩
    | succ g =>
      have hi : i < s.size := by omega
      obtain ⟨x, hx⟩ : ∃ x : UInt8, s[i]'hi = x := ⟨_, rfl⟩
      have hxl : s.data.toList[i]? = some x := by rw [← hx]; exact Lib.data_getElem? s i hi
      by_cases hlow : x.toNat < 128
      · have hnx := fun ty => Lib.run_next_ascii_at (P := Try.prog) wr w.heap.size s i ty hit.out hi (by rw [hx]; exact hlow)
        rw [hx] at hnx
        have Hx : Hid (s.data.toList[i]? = some x) := hxl
        clear hxl hx
        have hcon := Lib.contains_iff_indexByte [10, 13] x
        have hback : ((x.toNat : Int)).toNat.toUInt8 = x := by simp
        have hit2 : Hid ((wr.iterAt w.heap.size s (i + 1)).heap[w.heap.size]? = some (.stringIter s (i + 1))) := Lib.iterAt_heap wr w.heap.size s i (i + 1) hit.out
        have hbe2 : Hid (Below w.heap.size w (wr.iterAt w.heap.size s (i + 1))) := Lib.below_iterAt hbe.out (Nat.le_refl _) s (i + 1)
        cases hin : ([10, 13] : List UInt8).contains x
        · rw [hin] at hcon
          have hlt : ¬ ((0 : Int) ≤ Lib.indexByte [10, 13] x) := of_decide_eq_false hcon.symm
          clear hcon
          have Hin : Hid (([10, 13] : List UInt8).contains x = false) := hin
          clear hin
          go_wp2_with (go_at_call 39; refine (Try.strings_IndexRune_ascii _ _ _ (by omega) (by omega)).mono ?_; rintro e w' ⟨rfl, hw⟩; rw [hw, hback])
          go_roundg g
          case measure => omega
          case rel => exact ⟨i + 1, by omega, hit2, hbe2, hno.out.succ Hx.out Hin.out⟩
        · rw [hin] at hcon
          have hge : (0 : Int) ≤ Lib.indexByte [10, 13] x := of_decide_eq_true hcon.symm
          clear hcon
          have Hin : Hid (([10, 13] : List UInt8).contains x = true) := hin
          clear hin
          go_wp2_with (go_at_call 39; refine (Try.strings_IndexRune_ascii _ _ _ (by omega) (by omega)).mono ?_; rintro e w' ⟨rfl, hw⟩; rw [hw, hback])
          go_ret
          exact ⟨by rw [Lib.indexAny_hit hno.out Hx.out Hin.out]; rfl, hbe2.out⟩
      · have hge : 128 ≤ (s[i]'hi).toNat := by rw [hx]; omega
        have hnx := fun ty => Lib.run_next_any_at (P := Try.prog) wr w.heap.size s i ty hit.out hi
        have hall := decode_cont s i hi hge
        have h12 := decode_high s i hi hge
        generalize Utf8.decode s i = R at hnx hall h12
        obtain ⟨r, n⟩ := R
        simp only at hnx hall h12
        obtain ⟨hr, hn1⟩ := h12
        have hle := skip_le hi hall
        have hno2 : Hid (Lib.NoAny s.data.toList [10, 13] (i + n)) := noAny_skip hno.out hall
        have hit2 : Hid ((wr.iterAt w.heap.size s (i + n)).heap[w.heap.size]? = some (.stringIter s (i + n))) := Lib.iterAt_heap wr w.heap.size s i (i + n) hit.out
        have hbe2 : Hid (Below w.heap.size w (wr.iterAt w.heap.size s (i + n))) := Lib.below_iterAt hbe.out (Nat.le_refl _) s (i + n)
        have hsz : Hid (w.heap.size < (wr.iterAt w.heap.size s (i + n)).heap.size) := (Array.getElem?_eq_some_iff.1 hit2.out).1
        clear hall hge hx hxl hlow
        go_wp2_with (go_at_call 39; refine (indexRune_high _ _ (by omega)).mono ?_; rintro e w' ⟨rfl, hw⟩)
        have hw2 : Hid (Below (wr.iterAt w.heap.size s (i + n)).heap.size (wr.iterAt w.heap.size s (i + n)) w') := hw
        go_roundg (s.size - (i + n))
        case measure => omega
        case rel => exact ⟨i + n, by omega, (hw2.out.block w.heap.size hsz.out).trans hit2.out, hbe2.out.trans (hw2.out.mono (Nat.le_of_lt hsz.out)), hno2⟩

theorem nl_ascii : ∀ (j : Nat) (b : UInt8), ([10, 13] : List UInt8)[j]? = some b → b.toNat < 128 := by
  intro j b h
  match j, h with
  | 0, h => cases h; decide
  | 1, h => cases h; decide
  | j + 2, h => simp at h

/-- strings.IndexAny of the two line ends, in whatever text below the model's bound. -/
theorem indexAny_nl (s : ByteArray) (w : World) (hs : s.size < 4294967281) :
    Calls Try.prog 29 #[.string s, .string ⟨#[10, 13]⟩] w fun e w' => e = .returned (.int .i64 (Lib.indexAny s.data.toList [10, 13])) ∧ Below w.heap.size w w' := by
  by_cases h8 : s.size ≤ 8
  · exact indexAny_short s w h8
  · have h116 : (Try.prog.info? 38).map (fun i => (i.zero, i.size)) = some (some (.agg (Array.replicate 256 (.bool false))), 256) := by kernel_rfl
    refine (Try.strings_IndexAny_long (zero_of_info h116).1 s ⟨#[10, 13]⟩ w (by decide) (by omega) hs (by decide) nl_ascii).mono ?_
    rintro e w' ⟨rfl, rfl⟩
    exact ⟨rfl, ((Below.refl _ _).alloc (Nat.le_refl _) _).alloc (by simp) _⟩
end Go.Proofs.Qxb6601301a.Wk
