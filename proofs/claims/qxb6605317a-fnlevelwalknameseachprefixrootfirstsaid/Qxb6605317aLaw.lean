import Derived.Test.Qxb6605317aEnds
import Derived.Test.Qxb6605317aLevel
import Derived.OwnWalk
namespace Go.Proofs.Qxb6605317a.Wk
open Go.RowKit
set_option linter.unusedSimpArgs false
set_option linter.unusedVariables false

theorem info3 : (Try.prog.info? 3).map (fun i => (i.zero, i.size, i.bytes)) = some (some (.int .i64 0), 1, 8) := by kernel_rfl
def vals (L : List Nat) : List Value := L.map (fun (t : Nat) => Value.int .i64 (t : Int))
theorem vals_snoc (L : List Nat) (x : Nat) : vals (L ++ [x]) = vals L ++ [.int .i64 (x : Int)] := by simp [vals]

theorem below_app {w wr w1 : World} {v : Value} {n : Nat} {xs : List Value} {o : Obj} (hbe : Below w.heap.size w wr) (hown : wr.ownsRow w.heap.size 3 1 v n xs) (hg : (wr.alloc o).grownBy w1 v.ownBlock) : Below w.heap.size w w1 :=
  Below.grown (hbe.alloc hbe.size o) hg (by have := hbe.size; simp; omega) (fun k hk => (hown.lt k hk).1)
theorem own_snoc {w1 : World} {b : Nat} {v : Value} {L : List Nat} {x : Nat} (h : w1.ownsRow b 3 1 v (L.length + 1) (vals L ++ [.int .i64 (x : Int)])) : w1.ownsRow b 3 1 v (L ++ [x]).length (vals (L ++ [x])) := by
  rw [vals_snoc, List.length_append]
  exact h
theorem add_at (b j : Nat) : (⟨b, 0, none⟩ : Addr).add j = ⟨b, j, none⟩ := by
  by_cases h : j = 0
  · subst h; simp [Addr.add]
  · simp [Addr.add, h]
theorem row_cells {w1 : World} {b : Nat} {v : Value} {M : List Nat} (h : w1.ownsRow b 3 1 v M.length (vals M)) (hM : 1 ≤ M.length) :
    ∃ g cap, v = .slice (some ⟨g, 0, none⟩) M.length cap ∧ g < w1.heap.size ∧ ∀ t, t < M.length → w1.cell? ⟨g, t, none⟩ = some (.int .i64 ((M.getD t 0 : Nat) : Int)) := by
  have hc := fun g (hg : v.ownBlock = some g) => h.cells hg
  have hlt := h.lt
  obtain ⟨_, hv | ⟨g, cap, cur, hv, _⟩⟩ := h
  · omega
  · subst hv
    refine ⟨g, cap, rfl, (hlt g rfl).2, fun t ht => ?_⟩
    have := hc g rfl t (.int .i64 ((M.getD t 0 : Nat) : Int)) (by
      unfold vals
      rw [List.getElem?_map, List.getElem?_eq_getElem ht, List.getD_eq_getElem?_getD, List.getElem?_eq_getElem ht]
      rfl)
    rw [add_at] at this
    exact this
theorem ne47 {c : UInt8} (h : ¬ c = 47) : ((c.toNat : Int) == 47) = false := by
  have : ¬ c.toNat = 47 := fun e => h (UInt8.toNat_inj.1 e)
  simp; omega

set_option maxRecDepth 100000 in
set_option maxHeartbeats 2000000 in
theorem law_core (s l : ByteArray) (m : Int) (pa ke : Bool) (w : World) (hs : s.size ≤ 65536) (hl : l.size ≤ 65536) :
    Calls Try.prog 4 #[.string s, .int .u8 m, .bool pa, .bool ke, .string l] w fun e w' => e = .returned (.bool true) ∧ Below w.heap.size w w' := by
  obtain ⟨i0, hi, hz0, hz1, hz2⟩ := info_parts info3
  have hmk : ∀ wx, (Instr.makeSlice 25 (.int .i64 0) (.int .i64 8)).run Try.prog wx = .ok (.slice (some ⟨wx.heap.size, 0, none⟩) 0 8) (wx.alloc (.cells #[.int .i64 0, .int .i64 0, .int .i64 0, .int .i64 0, .int .i64 0, .int .i64 0, .int .i64 0, .int .i64 0] 3)) := fun _ => by kernel_rfl
  go_enter Try.func4, Try.ntmps4
  go_wp2_with (go_at_call 7; go_in)
  clear hmk
  go_loopw [12, 13] (fun v p wr => ∃ (j : Nat) (L : List Nat), j ≤ s.size ∧ p = .int .i64 j ∧ Hid (wr.ownsRow w.heap.size 3 1 v L.length (vals L)) ∧ Hid (Inv s L j) ∧ Hid (Below w.heap.size w wr)) (fun _ p _ => s.size - (intOf p).toNat)
  case atStart => exact ⟨0, [], by omega, rfl, World.ownsRow_made w _ 8 (Nat.le_refl _) (by decide) rfl, inv_zero s, (Below.refl _ _).alloc (Nat.le_refl _) _⟩
  case round =>
    obtain ⟨j, L, hj, rfl, hown, hinv, hbe⟩ := hrel
    have hLj : L.length ≤ j := hinv.out.2.1
    by_cases hlt : j < s.size
    · by_cases h47 : s[j] = 47
      · have hb47 : ((s[j].toNat : Int) == 47) = true := by rw [h47]; rfl
        have hinv2 : Hid (Inv s (L ++ [j]) (j + 1)) := inv_slash hinv.out hlt h47
        clear h47 hinv
        go_wp2_with (at_builtin; refine wpList_append_own _ rfl _ _ 25 rfl w.heap.size 3 i0 (.int .i64 0) 1 8 Try.underlying25 hi hz0 hz1 hz2 rfl (by decide) _ _ _ rfl (hown.out.alloc _) ⟨wr.heap.size, 0, none⟩ 1 1 [.int .i64 (j : Int)] rfl rfl ?c1 ?c2 ?c3 ?c4 ?c5 ?_)
        case c1 =>
          intro t u ht
          match t, ht with
          | 0, ht => simp at ht; subst ht; simp [Addr.add]
        case c2 => intro u hu; simp at hu; subst hu; rfl
        case c3 => unfold maxLen; omega
        case c4 => omega
        case c5 => have := hbe.out.size; simp; omega
        intro v' w1 hown' hgrow _
        have hown2 : Hid (w1.ownsRow w.heap.size 3 1 v' (L ++ [j]).length (vals (L ++ [j]))) := own_snoc hown'
        have hbe2 : Hid (Below w.heap.size w w1) := below_app hbe.out hown.out hgrow
        clear hown' hgrow
        go_wp2
        go_roundw
        case rel => exact ⟨j + 1, L ++ [j], by omega, by go_num, hown2, hinv2, hbe2⟩
        case measure => simp [intOf]; omega
      · have hb47 := ne47 h47
        have hinv2 : Hid (Inv s L (j + 1)) := inv_other hinv.out hlt h47
        clear h47
        go_wp2
        go_roundw
        case rel => exact ⟨j + 1, L, by omega, by go_num, hown, hinv2, hbe⟩
        case measure => simp [intOf]; omega
    · have hends := ends_of hinv.out hlt
      have HEnds : Hid (Ends s (L ++ [s.size])) := hends
      clear hends
      go_wp2_with (at_builtin; refine wpList_append_own _ rfl _ _ 25 rfl w.heap.size 3 i0 (.int .i64 0) 1 8 Try.underlying25 hi hz0 hz1 hz2 rfl (by decide) _ _ _ rfl (hown.out.alloc _) ⟨wr.heap.size, 0, none⟩ 1 1 [.int .i64 (s.size : Int)] rfl rfl ?d1 ?d2 ?d3 ?d4 ?d5 ?_)
      case d1 =>
        intro t u ht
        match t, ht with
        | 0, ht => simp at ht; subst ht; simp [Addr.add]
      case d2 => intro u hu; simp at hu; subst hu; rfl
      case d3 => unfold maxLen; omega
      case d4 => omega
      case d5 => have := hbe.out.size; simp; omega
      intro v' w1 hown' hgrow _
      have hown2 : w1.ownsRow w.heap.size 3 1 v' (L ++ [s.size]).length (vals (L ++ [s.size])) := own_snoc hown'
      have hbe2 : Hid (Below w.heap.size w w1) := below_app hbe.out hown.out hgrow
      clear hown' hgrow hown hinv hbe hLj
      generalize L ++ [s.size] = M at hown2 HEnds
      obtain ⟨g, cap, hv, hg, hcells⟩ := row_cells hown2 HEnds.out.1
      have HC : Hid (∀ t, t < M.length → w1.cell? ⟨g, t, none⟩ = some (.int .i64 ((M.getD t 0 : Nat) : Int))) := hcells
      have HG : Hid (g < w1.heap.size) := hg
      have hM1 : 1 ≤ M.length := HEnds.out.1
      have hM2 : M.length ≤ s.size + 1 := HEnds.out.2.1
      clear hown2 hcells hg
      rw [hv]
      clear hv
      go_wp2
      go_loopw [14, 15] (fun e q wr2 => ∃ (k P : Nat), k ≤ M.length ∧ q = .int .i64 k ∧ e = .int .i64 ((P : Int) - 1) ∧ P ≤ s.size + 1 ∧ Hid (st M k = P) ∧ Hid (Below w1.heap.size w1 wr2)) (fun _ q _ => M.length - (intOf q).toNat)
      case atStart => exact ⟨0, 0, by omega, rfl, rfl, by omega, rfl, Below.refl _ _⟩
      case round =>
        obtain ⟨k, P, hk, rfl, rfl, hPs, hst, hb⟩ := hrel
        by_cases hkl : k < M.length
        · have hnx := (HEnds.out.2.2.1 k hkl).1
          have hPn := (HEnds.out.2.2.1 k hkl).2
          rw [hst.out] at hnx hPn
          have hcell : _ := (hb.out.cell (p := ⟨g, k, none⟩) HG.out).trans (HC.out k hkl)
          have hstn : st M (k + 1) = M.getD k 0 + 1 := rfl
          have hlast1 : k + 1 < M.length → M.getD k 0 < s.size := HEnds.out.2.2.2.1 k
          have hlast2 : k + 1 = M.length → M.getD k 0 = s.size := fun e => by have := HEnds.out.2.2.2.2; rw [← e] at this; exact this
          generalize M.getD k 0 = R at hnx hcell hstn hlast1 hlast2
          have hRs : R ≤ s.size := hnx.2.1
          have HNX : Hid (NX s P R) := hnx
          have HST : Hid (st M (k + 1) = R + 1) := hstn
          clear hnx hstn hst
          by_cases hlst : k + 1 = M.length
          · have hRe : ¬ R < s.size := by have := hlast2 hlst; omega
            have hkb : ((k : Int) == (M.length : Int) - 1) = true := by simp; omega
            clear hlast1 hlast2 hlst
            cases ke
            all_goals cases pa
            all_goals
              go_wp2_with (first
                | (go_at_call 6; refine (next6 s P R _ (by omega) hPn HNX.out).mono ?_; rintro e w' ⟨rfl, hw⟩; rw [hw]; clear hw)
                | (go_at_call 8; refine (level_at s l m _ _ R _ (by omega) hRs hRe).mono ?_; rintro e w3 ⟨rfl, hb3⟩))
              have hb4 : Hid (Below w1.heap.size w1 w3) := hb.out.trans (hb3.mono hb.out.size)
              clear hb3
              go_roundw
              case rel => exact ⟨k + 1, R + 1, by omega, by go_num, by go_num, by omega, HST, hb4⟩
              case measure => simp [intOf]; omega
          · have hRe : R < s.size := hlast1 (by omega)
            have hkb : ((k : Int) == (M.length : Int) - 1) = false := by simp; omega
            clear hlast1 hlast2 hlst
            go_wp2_with (first
              | (go_at_call 6; refine (next6 s P R _ (by omega) hPn HNX.out).mono ?_; rintro e w' ⟨rfl, hw⟩; rw [hw]; clear hw)
              | (go_at_call 8; refine (level_up s l m pa ke R _ (by omega) hRe).mono ?_; rintro e w3 ⟨rfl, hb3⟩)
              | (go_at_call 9; refine (inten9 m _).mono ?_; rintro e w' ⟨rfl, hw⟩; rw [hw]; clear hw))
            have hb4 : Hid (Below w1.heap.size w1 w3) := hb.out.trans (hb3.mono hb.out.size)
            clear hb3
            go_roundw
            case rel => exact ⟨k + 1, R + 1, by omega, by go_num, by go_num, by omega, HST, hb4⟩
            case measure => simp [intOf]; omega
        · go_wp2
          go_ret
          exact ⟨rfl, hbe2.out.trans (hb.out.mono hbe2.out.size)⟩
end Go.Proofs.Qxb6605317a.Wk
