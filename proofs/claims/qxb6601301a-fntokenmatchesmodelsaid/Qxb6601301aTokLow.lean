import Derived.Test.Qxb6601301aTokBytes
import Derived.Laws.IdiomStrings
import Derived.WalkSmall
import Derived.WalkSpells
import Derived.Deep.OwnRows
namespace Go.Proofs.Qxb6601301a.Tk
open Go.RowKit TokP
set_option linter.unusedSimpArgs false
set_option linter.unusedVariables false

/-- The bytes half way: the first k folded. -/
def mid (s : ByteArray) (k : Nat) : List UInt8 := (s.data.toList.take k).map low ++ s.data.toList.drop k
theorem mid_zero (s : ByteArray) : mid s 0 = s.data.toList := by simp [mid]
theorem mid_all (s : ByteArray) (k : Nat) (h : s.size ≤ k) : mid s k = s.data.toList.map low := by
  have e : s.data.toList.length = s.size := by simp
  unfold mid
  rw [List.take_of_length_le (by omega), List.drop_eq_nil_of_le (by omega), List.append_nil]
theorem mid_length (s : ByteArray) (k : Nat) : (mid s k).length = s.size := by
  have e : s.data.toList.length = s.size := by simp
  unfold mid
  rw [List.length_append, List.length_map, List.length_take, List.length_drop]
  omega
theorem mid_at (s : ByteArray) (k : Nat) (h : k < s.size) : (mid s k)[k]? = some s[k] := by
  have e : s.data.toList.length = s.size := by simp
  unfold mid
  rw [List.getElem?_append_right (by rw [List.length_map, List.length_take]; omega), List.length_map, List.length_take, drop_cons s k h]
  have : k - min k s.data.toList.length = 0 := by omega
  rw [this]; rfl
theorem mid_succ (s : ByteArray) (k : Nat) (h : k < s.size) : mid s (k + 1) = (mid s k).set k (low s[k]) := by
  have e : s.data.toList.length = s.size := by simp
  have hl : ((s.data.toList.take k).map low).length = k := by rw [List.length_map, List.length_take]; omega
  unfold mid
  rw [List.set_append_right _ _ (by omega), hl, Nat.sub_self, drop_cons s k h]
  have hk : k < s.data.toList.length := by omega
  rw [List.take_succ_eq_append_getElem hk, List.map_append]
  simp
  rfl
theorem mid_same (s : ByteArray) (k : Nat) (h : k < s.size) (hl : low s[k] = s[k]) : mid s (k + 1) = mid s k := by
  rw [mid_succ s k h, hl]
  apply List.ext_getElem?
  intro j
  rw [List.getElem?_set]
  split
  · rename_i hj
    subst hj
    rw [mid_at s k h]
    rw [if_pos (by rw [mid_length]; exact h)]
  · rfl

/-- Block b holds the bytes l, and they may be written. -/
def Row (w : World) (b : Nat) (l : List UInt8) : Prop :=
  (∀ j (h : j < l.length), w.cell? ⟨b, j, none⟩ = some (.int .u8 (l[j].toNat : Int))) ∧ (∀ j, j < l.length → w.frozen? ⟨b, j, none⟩ = false)

theorem Row.cellAt {w : World} {b : Nat} {l : List UInt8} (h : Row w b l) {j : Nat} {x : UInt8} (hj : l[j]? = some x) : w.cell? ⟨b, j, none⟩ = some (.int .u8 (x.toNat : Int)) := by
  obtain ⟨h1, h2⟩ := List.getElem?_eq_some_iff.1 hj
  rw [h.1 j h1, h2]
theorem Row.set {w : World} {b : Nat} {l : List UInt8} (h : Row w b l) (k : Nat) (x : UInt8) (hk : k < l.length) : Row (w.setCell ⟨b, k, none⟩ (.int .u8 (x.toNat : Int))) b (l.set k x) := by
  refine ⟨fun j hj => ?_, fun j hj => ?_⟩
  · rw [List.length_set] at hj
    by_cases e : k = j
    · subst e
      have hc := h.1 k hk
      rw [World.cell?_setCell_same (w := w) (a := ⟨b, k, none⟩) (v := .int .u8 (x.toNat : Int)) hc]
      simp
    · rw [World.cell?_setCell_other (w := w) (a := ⟨b, k, none⟩) (b := ⟨b, j, none⟩) (v := .int .u8 (x.toNat : Int)) (by intro e2; apply e; injection e2), h.1 j hj]
      simp [List.getElem_set, e]
  · rw [List.length_set] at hj
    rw [World.frozen?_setCell]
    exact h.2 j hj
theorem row_new (s : ByteArray) (cap : Nat) (w : World) : Row (w.drew.alloc (.cells (bytesRow s cap) 5 ((bytesRow s cap).size, (bytesRow s cap).size + 1))) w.heap.size s.data.toList := by
  have hl : s.data.toList.length = s.data.size := by simp
  refine ⟨fun j hj => ?_, fun j hj => ?_⟩
  · have hj' : j < s.data.size := by omega
    have h1 := World.cell?_alloc_mark w.drew (bytesRow s cap) 5 ((bytesRow s cap).size, (bytesRow s cap).size + 1) j
    refine Eq.trans h1 ?_
    rw [bytesRow_at s cap j hj']
    simp
  · have h1 := World.frozen?_alloc_mark w.drew (bytesRow s cap) 5 (bytesRow s cap).size ((bytesRow s cap).size + 1) j
    refine Eq.trans h1 ?_
    have : s.data.size ≤ (bytesRow s cap).size := by unfold bytesRow; simp
    have : ¬ (bytesRow s cap).size ≤ j := by omega
    simp [this]
theorem add_at (b j : Nat) : (⟨b, 0, none⟩ : Addr).add j = ⟨b, j, none⟩ := by
  by_cases h : j = 0
  · subst h; simp [Addr.add]
  · simp [Addr.add, h]
theorem low_up {c : UInt8} (h : 65 ≤ c.toNat ∧ c.toNat ≤ 90) : ((low c).toNat : Int) = (c.toNat : Int) + 97 - 65 := by
  unfold low
  rw [if_pos h, UInt8.toNat_add]
  have : (32 : UInt8).toNat = 32 := rfl
  omega
theorem low_no {c : UInt8} (h : ¬ (65 ≤ c.toNat ∧ c.toNat ≤ 90)) : low c = c := by
  unfold low; rw [if_neg h]

set_option maxRecDepth 100000 in
set_option maxHeartbeats 1000000 in
theorem low34 (s : ByteArray) (w : World) (hs : s.size ≤ 1048576) :
    Calls Try.prog 34 #[.string s] w fun e w' => e = .returned (.string ⟨(s.data.toList.map low).toArray⟩) ∧ Below w.heap.size w w' := by
  obtain ⟨cap, hcap⟩ : ∃ cap, cap = grownCap w s.size 0 5 := ⟨_, rfl⟩
  have hconv := run_bytes_of_string (P := Try.prog) w 9 34 5 s Try.underlying9 Try.underlying34 Try.underlying5
  rw [← hcap] at hconv
  clear hcap
  have hrow := row_new s cap w
  generalize bytesRow s cap = C at hconv hrow
  have HR : Hid (Row (w.drew.alloc (.cells C 5 (C.size, C.size + 1))) w.heap.size s.data.toList) := hrow
  clear hrow
  go_enter Try.func34, Try.ntmps34
  go_wp2
  clear hconv
  go_loopw [10] (fun p wr => ∃ k : Nat, k ≤ s.size ∧ p = .int .i64 k ∧ Hid (Row wr w.heap.size (mid s k)) ∧ Hid (Below w.heap.size w wr)) (fun p _ => s.size - (intOf p).toNat)
  case atStart => exact ⟨0, by omega, rfl, by rw [mid_zero]; exact HR.out, ((Below.refl _ _).alloc (Nat.le_refl _) _).drew⟩
  case round =>
    obtain ⟨k, hk, rfl, hrw, hbe⟩ := hrel
    clear HR
    by_cases hlt : k < s.size
    · have hcell := Row.cellAt hrw.out (mid_at s k hlt)
      have hfz := hrw.out.2 k (by rw [mid_length]; exact hlt)
      by_cases hup : 65 ≤ s[k].toNat ∧ s[k].toNat ≤ 90
      · have hval := low_up hup
        have hnew := Row.set hrw.out k (low s[k]) (by rw [mid_length]; exact hlt)
        rw [← mid_succ s k hlt, hval] at hnew
        have HN : Hid (Row (wr.setCell ⟨w.heap.size, k, none⟩ (.int .u8 ((s[k].toNat : Int) + 97 - 65))) w.heap.size (mid s (k + 1))) := hnew
        clear hnew hval
        obtain ⟨h1, h2⟩ := hup
        go_wp2
        go_roundw
        case rel => exact ⟨k + 1, by omega, by go_num, HN, hbe.out.setCell (Nat.le_refl _) _⟩
        case measure => simp [intOf]; omega
      · have hnew : Hid (Row wr w.heap.size (mid s (k + 1))) := by rw [mid_same s k hlt (low_no hup)]; exact hrw
        have HU : Hid (¬ (65 ≤ s[k].toNat ∧ s[k].toNat ≤ 90)) := hup
        clear hup
        go_wp2
        all_goals first
        | (exfalso; have := HU.out; omega)
        | go_roundw
          case rel => exact ⟨k + 1, by omega, by go_num, hnew, hbe⟩
          case measure => simp [intOf]; omega
    · have hm := mid_all s k (by omega)
      have hback := run_convert_bytes_back (P := Try.prog) wr 34 9 5 ⟨w.heap.size, 0, none⟩ cap (s.data.toList.map low) Try.underlying34 Try.underlying5 Try.underlying9 (fun j hj => by
        have := hrw.out.1
        rw [hm] at this
        rw [add_at]
        exact this j hj)
      have hln : (s.data.toList.map low).length = s.size := by simp
      rw [hln] at hback
      clear hm hln
      go_wp2
      go_ret
      exact ⟨rfl, hbe.out⟩

theorem or_up_nat : ∀ n : Fin 256, (65 ≤ n.val ∧ n.val ≤ 90) → (n.val ||| 32) = n.val + 32 := by decide +kernel
theorem or_up {c : UInt8} (h : 65 ≤ c.toNat ∧ c.toNat ≤ 90) : bits .or .u8 (c.toNat : Int) 32 = (c.toNat : Int) + 32 := by
  have hc : c.toNat < 256 := c.toNat_lt
  have e : bits .or .u8 (c.toNat : Int) 32 = ((c.toNat ||| 32 : Nat) : Int) := u8_or_nat c.toNat 32 hc (by decide)
  rw [e, or_up_nat ⟨c.toNat, hc⟩ h]
  simp
theorem row_made (n : Nat) (w : World) : Row (w.alloc (.cells (madeCells #[.int .u8 0] n) 5)) w.heap.size (List.replicate n 0) := by
  have hr := World.rowIs_made w (.int .u8 0) n 5
  refine ⟨fun j hj => ?_, fun j hj => ?_⟩
  · rw [List.length_replicate] at hj
    have h1 : (w.alloc (.cells (madeCells #[.int .u8 0] n) 5)).cell? ⟨w.heap.size, j, none⟩ = (madeCells #[.int .u8 0] n)[j]? := World.cell?_alloc_mark w (madeCells #[.int .u8 0] n) 5 (0, 0) j
    rw [h1]
    simp [madeCells, hj, Nat.mod_one]
  · have h1 := World.frozen?_alloc_mark w (madeCells #[.int .u8 0] n) 5 0 0 j
    refine Eq.trans h1 ?_
    simp
theorem take_set {l : List UInt8} {k : Nat} (x : UInt8) (h : k < l.length) : (l.set k x).take (k + 1) = l.take k ++ [x] := by
  rw [List.take_succ_eq_append_getElem (by simpa using h), List.take_set_of_le (Nat.le_refl _)]
  simp
theorem map_take (s : ByteArray) (k : Nat) (h : k < s.size) : (s.data.toList.map low).take (k + 1) = (s.data.toList.map low).take k ++ [low s[k]] := by
  have e : k < (s.data.toList.map low).length := by simp; exact h
  rw [List.take_succ_eq_append_getElem e]
  congr 2
  simp
  rfl

set_option maxRecDepth 100000 in
set_option maxHeartbeats 1000000 in
theorem low26 (s : ByteArray) (w : World) (hs : s.size ≤ 1048576) :
    Calls Try.prog 26 #[.string s] w fun e w' => e = .returned (.string ⟨(s.data.toList.map low).toArray⟩) ∧ Below w.heap.size w w' := by
  have hmk := run_make_row' (P := Try.prog) 34 5 (.int .u8 0) 1 Try.underlying34 (by kernel_rfl) rfl .i64 .i64 s.size (by omega) (by omega) w
  have hrow := row_made s.size w
  generalize madeCells #[.int .u8 0] s.size = C at hmk hrow
  have HR : Hid (Row (w.alloc (.cells C 5)) w.heap.size (List.replicate s.size 0)) := hrow
  clear hrow
  go_enter Try.func26, Try.ntmps26
  go_wp2
  clear hmk
  go_loopw [4] (fun p wr => ∃ (k : Nat) (l : List UInt8), k ≤ s.size ∧ p = .int .i64 k ∧ Hid (l.length = s.size) ∧ Hid (l.take k = (s.data.toList.map low).take k) ∧ Hid (Row wr w.heap.size l) ∧ Hid (Below w.heap.size w wr)) (fun p _ => s.size - (intOf p).toNat)
  case atStart => exact ⟨0, List.replicate s.size 0, by omega, rfl, by show (List.replicate s.size (0 : UInt8)).length = s.size; simp, by show _ = _; simp, HR.out, (Below.refl _ _).alloc (Nat.le_refl _) _⟩
  case round =>
    obtain ⟨k, l, hk, rfl, hln, htk, hrw, hbe⟩ := hrel
    clear HR
    by_cases hlt : k < s.size
    · have hkl : k < l.length := by rw [hln.out]; exact hlt
      have hcell := hrw.out.1 k hkl
      have hfz := hrw.out.2 k hkl
      have hnew := Row.set hrw.out k (low s[k]) hkl
      have hln2 : Hid ((l.set k (low s[k])).length = s.size) := by show _ = _; rw [List.length_set]; exact hln.out
      have htk2 : Hid ((l.set k (low s[k])).take (k + 1) = (s.data.toList.map low).take (k + 1)) := by show _ = _; rw [take_set _ hkl, htk.out, map_take s k hlt]
      by_cases hup : 65 ≤ s[k].toNat ∧ s[k].toNat ≤ 90
      · have hval : ((low s[k]).toNat : Int) = (s[k].toNat : Int) + 32 := by rw [low_up hup]; omega
        have hor := or_up hup
        rw [hval] at hnew
        have HN : Hid (Row (wr.setCell ⟨w.heap.size, k, none⟩ (.int .u8 ((s[k].toNat : Int) + 32))) w.heap.size (l.set k (low s[k]))) := hnew
        clear hnew hval
        obtain ⟨h1, h2⟩ := hup
        go_wp2
        go_roundw
        case rel => exact ⟨k + 1, _, by omega, by go_num, hln2, htk2, HN, hbe.out.setCell (Nat.le_refl _) _⟩
        case measure => simp [intOf]; omega
      · rw [low_no hup] at hnew
        have HN : Hid (Row (wr.setCell ⟨w.heap.size, k, none⟩ (.int .u8 (s[k].toNat : Int))) w.heap.size (l.set k s[k])) := hnew
        rw [low_no hup] at hln2 htk2
        have HU : Hid (¬ (65 ≤ s[k].toNat ∧ s[k].toNat ≤ 90)) := hup
        clear hup hnew
        go_wp2
        all_goals first
        | (exfalso; have := HU.out; omega)
        | go_roundw
          case rel => exact ⟨k + 1, _, by omega, by go_num, hln2, htk2, HN, hbe.out.setCell (Nat.le_refl _) _⟩
          case measure => simp [intOf]; omega
    · have hm : l = s.data.toList.map low := by
        have h1 := htk.out
        have hl2 : (s.data.toList.map low).length = s.size := by simp
        rw [List.take_of_length_le (by rw [hln.out]; omega), List.take_of_length_le (by omega)] at h1
        exact h1
      have hback := run_convert_bytes_back (P := Try.prog) wr 34 9 5 ⟨w.heap.size, 0, none⟩ s.size (s.data.toList.map low) Try.underlying34 Try.underlying5 Try.underlying9 (fun j hj => by
        have := hrw.out.1
        rw [hm] at this
        rw [add_at]
        exact this j hj)
      have hln3 : (s.data.toList.map low).length = s.size := by simp
      rw [hln3] at hback
      clear hm hln3
      go_wp2
      go_ret
      exact ⟨rfl, hbe.out⟩
end Go.Proofs.Qxb6601301a.Tk
