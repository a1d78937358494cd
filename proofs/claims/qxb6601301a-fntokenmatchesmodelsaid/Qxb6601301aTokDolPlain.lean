import Derived.Test.Qxb6601301aTokPlain
namespace Go.Proofs.Qxb6601301a.TokP
open Go.RowKit

def dolAt (s : ByteArray) (i : Nat) : Nat := i + dol (s.data.toList.drop i)
/-- Where the tag of a dollar at i ends. -/
def dj (s : ByteArray) (i : Nat) : Nat := wat s isTag (i + 1)

theorem dj_eq (s : ByteArray) (i : Nat) : dj s i = i + 1 + dolTag (s.data.toList.drop i) := by
  unfold dj wat dolTag
  rw [List.drop_drop]
theorem head_drop (s : ByteArray) (p : Nat) : (s.data.toList.drop p).head? = some 36 ↔ ∃ h : p < s.size, s[p] = 36 := by
  by_cases h : p < s.size
  · rw [drop_cons s p h]
    exact ⟨fun e => ⟨h, by simpa using e⟩, fun ⟨_, e⟩ => by simp [e]⟩
  · rw [drop_end s p (by omega)]
    exact ⟨fun e => (by cases e), fun ⟨h', _⟩ => absurd h' h⟩
theorem dol_head (s : ByteArray) (i : Nat) : ((s.data.toList.drop i).drop (1 + dolTag (s.data.toList.drop i))).head? = some 36 ↔ ∃ h : dj s i < s.size, s[dj s i] = 36 := by
  rw [List.drop_drop, ← head_drop, dj_eq]
  have e : i + (1 + dolTag (s.data.toList.drop i)) = i + 1 + dolTag (s.data.toList.drop i) := by omega
  rw [e]
/-- The search that decides where the quote comes again. -/
def dz (s : ByteArray) (i J : Nat) : Int := Lib.index (s.extract (J + 1) s.size).data.toList (s.extract i (J + 1)).data.toList
theorem dz_eq (s : ByteArray) (i : Nat) : Lib.index ((s.data.toList.drop i).drop (dolTag (s.data.toList.drop i) + 2)) ((s.data.toList.drop i).take (dolTag (s.data.toList.drop i) + 2)) = dz s i (dj s i) := by
  unfold dz
  rw [Lib.extract_to_end, Lib.extract_data, List.drop_drop, dj_eq]
  have e1 : i + (dolTag (s.data.toList.drop i) + 2) = i + 1 + dolTag (s.data.toList.drop i) + 1 := by omega
  have e2 : i + 1 + dolTag (s.data.toList.drop i) + 1 - i = dolTag (s.data.toList.drop i) + 2 := by omega
  rw [e1, e2]

theorem dolAt_no (s : ByteArray) (i : Nat) (h : ¬ ∃ h : dj s i < s.size, s[dj s i] = 36) : dolAt s i = i + 1 := by
  unfold dolAt dol
  rw [if_neg (fun e => h ((dol_head s i).1 e))]
theorem dolAt_miss (s : ByteArray) (i : Nat) (hi : i ≤ s.size) (h : ∃ h : dj s i < s.size, s[dj s i] = 36) (hz : dz s i (dj s i) < 0) : dolAt s i = s.size := by
  unfold dolAt dol
  rw [if_pos ((dol_head s i).2 h), dz_eq, if_pos hz, List.length_drop]
  have e : s.data.toList.length = s.size := by simp
  omega
theorem dolAt_hit (s : ByteArray) (i z : Nat) (h : ∃ h : dj s i < s.size, s[dj s i] = 36) (hz : dz s i (dj s i) = z) : dolAt s i = dj s i + 1 + z + (dj s i + 1 - i) := by
  unfold dolAt dol
  rw [if_pos ((dol_head s i).2 h), dz_eq, if_neg (by omega), hz]
  have := dj_eq s i
  simp
  omega
theorem dz_room (s : ByteArray) (i J z : Nat) (hi : i ≤ J) (hJ : J < s.size) (hz : dz s i J = z) : J + 1 + z + (J + 1 - i) ≤ s.size := by
  have h := Lib.index_room (s.extract (J + 1) s.size).data.toList (s.extract i (J + 1)).data.toList (by unfold dz at hz; omega)
  unfold dz at hz
  rw [hz, ← Lib.size_eq, ← Lib.size_eq] at h
  simp at h
  omega
theorem dz_ge (s : ByteArray) (i J : Nat) : -1 ≤ dz s i J := Lib.index_ge _ _

/-- Do the n bytes at a read as the n bytes at b? -/
def same (s : ByteArray) (a b n : Nat) : Bool := (s.data.toList.drop a).take n == (s.data.toList.drop b).take n
theorem same_zero (s : ByteArray) (a b : Nat) : same s a b 0 = true := by simp [same]
theorem take_snoc (s : ByteArray) (a t : Nat) (h : a + t < s.size) : (s.data.toList.drop a).take (t + 1) = (s.data.toList.drop a).take t ++ [s[a + t]] := by
  have h' : t < (s.data.toList.drop a).length := by
    rw [List.length_drop]
    have e : s.data.toList.length = s.size := by simp
    omega
  rw [List.take_succ_eq_append_getElem h']
  congr 2
  rw [List.getElem_drop]
  rfl
theorem same_succ (s : ByteArray) (a b t : Nat) (ha : a + t < s.size) (hb : b + t < s.size) (h : same s a b t = true) (he : s[a + t] = s[b + t]) : same s a b (t + 1) = true := by
  unfold same at *
  rw [take_snoc s a t ha, take_snoc s b t hb, he]
  simp at h ⊢
  exact h
theorem same_not (s : ByteArray) (a b t n : Nat) (ht : t < n) (ha : a + t < s.size) (hb : b + t < s.size) (he : ¬ s[a + t] = s[b + t]) : same s a b n = false := by
  cases h : same s a b n with
  | false => rfl
  | true =>
    exfalso
    unfold same at h
    have h2 : (s.data.toList.drop a).take n = (s.data.toList.drop b).take n := by simpa using h
    apply he
    have h3 := congrArg (fun l => l.take (t + 1)) h2
    simp only [List.take_take, Nat.min_eq_left (show t + 1 ≤ n by omega)] at h3
    rw [take_snoc s a t ha, take_snoc s b t hb] at h3
    have := List.append_inj_right' h3 rfl
    simpa using this

theorem occ_same (s : ByteArray) (i J x : Nat) (hi : i ≤ J) (hJ : J < s.size) (hx : J + 1 ≤ x) (hr : x + (J + 1 - i) ≤ s.size) :
    Lib.occAt (s.extract (J + 1) s.size).data.toList (s.extract i (J + 1)).data.toList (x - (J + 1)) = same s i x (J + 1 - i) := by
  unfold Lib.occAt same
  rw [Lib.extract_to_end, Lib.extract_data, List.drop_drop]
  have e : J + 1 + (x - (J + 1)) = x := by omega
  rw [e]
  have hl : ((s.data.toList.drop i).take (J + 1 - i)).length = J + 1 - i := by
    rw [List.length_take, List.length_drop]
    have e : s.data.toList.length = s.size := by simp
    omega
  have hl2 : ((s.data.toList.drop x).take (J + 1 - i)).length = J + 1 - i := by
    rw [List.length_take, List.length_drop]
    have e : s.data.toList.length = s.size := by simp
    omega
  rw [Bool.eq_iff_iff, List.isPrefixOf_iff_prefix, List.prefix_iff_eq_take, hl]
  simp
theorem dz_found (s : ByteArray) (i J x : Nat) (hi : i ≤ J) (hJ : J < s.size) (hx : J + 1 ≤ x) (hr : x + (J + 1 - i) ≤ s.size)
    (hno : Lib.NoOcc (s.extract (J + 1) s.size).data.toList (s.extract i (J + 1)).data.toList (x - (J + 1))) (h : same s i x (J + 1 - i) = true) : dz s i J = ((x - (J + 1) : Nat) : Int) := by
  unfold dz
  refine Lib.index_hit hno ?_ (by rw [occ_same s i J x hi hJ hx hr]; exact h)
  rw [← Lib.size_eq]; simp; omega
theorem dz_lost (s : ByteArray) (i J x : Nat) (hi : i ≤ J) (hJ : J < s.size) (hx : J + 1 ≤ x) (hr : s.size < x + (J + 1 - i))
    (hno : Lib.NoOcc (s.extract (J + 1) s.size).data.toList (s.extract i (J + 1)).data.toList (x - (J + 1))) : dz s i J = -1 := by
  unfold dz
  have hl : (s.extract i (J + 1)).data.toList.length = J + 1 - i := by
    rw [← Lib.size_eq]; simp; omega
  refine Lib.index_past (fun e => ?_) hno ?_
  · rw [e] at hl; simp at hl; omega
  · rw [hl, ← Lib.size_eq]; simp; omega
end Go.Proofs.Qxb6601301a.TokP
