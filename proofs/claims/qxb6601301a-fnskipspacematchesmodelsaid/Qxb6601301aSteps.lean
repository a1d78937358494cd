import Derived.Test.Qxb6601301aPlain2
import Derived.Test.Qxb6601301aProg
import Derived.WalkKit
import Derived.Below
namespace Go.Proofs.Qxb6601301a.Wk
open Go.RowKit Plain

theorem ret_bool {a b : Bool} (h : a = b) : Ending.returned (.bool a) = .returned (.bool b) := by rw [h]
theorem ret_int {k : IntKind} {a b : Int} (h : a = b) : Ending.returned (.int k a) = .returned (.int k b) := by rw [h]

theorem st_nl {s : ByteArray} {k T : Nat} (hk : k < s.size) (h : Hid (at_ s (-1) k = T)) (hc : s[k].toNat = 10 ∨ s[k].toNat = 13) : Hid (at_ s 0 (k + 1) = T) := by
  have e := atl_nl s k hk ((nl_iff _).2 hc); rw [← h.out, e]; exact rfl
theorem st_ln {s : ByteArray} {k T : Nat} (hk : k < s.size) (h : Hid (at_ s (-1) k = T)) (hc : ¬ (s[k].toNat = 10 ∨ s[k].toNat = 13)) : Hid (at_ s (-1) (k + 1) = T) := by
  have e := atl_other s k hk (fun x => hc ((nl_iff _).1 x)); rw [← h.out, e]; exact rfl
theorem st_sp {s : ByteArray} {k T : Nat} (hk : k < s.size) (h : Hid (at_ s 0 k = T)) (hc : isSp s[k] = true) : Hid (at_ s 0 (k + 1) = T) := by
  have e := at0_space s k hk hc; rw [← h.out, e]; exact rfl
theorem st_da {s : ByteArray} {k T : Nat} (h : Hid (at_ s 0 k = T)) (hc : two s 45 45 k = true) : Hid (at_ s (-1) (k + 2) = T) := by
  have e := at0_dash s k hc; rw [← h.out, e]; exact rfl
theorem st_op {s : ByteArray} {k T : Nat} (h : Hid (at_ s 0 k = T)) (hc : two s 47 42 k = true) : Hid (at_ s 1 (k + 2) = T) := by
  have e := at0_open s k hc; rw [← h.out, e]; exact rfl
theorem st_stop {s : ByteArray} {k T : Nat} (hk : k < s.size) (h : Hid (at_ s 0 k = T)) (hc : isSp s[k] = false) (h1 : two s 45 45 k = false) (h2 : two s 47 42 k = false) : (k : Int) = (T : Int) := by
  have e := at0_stop s k hk hc h1 h2; have := h.out; omega
theorem st_in {s : ByteArray} {k T : Nat} {z : Int} (hz : 0 < z) (h : Hid (at_ s z k = T)) (hc : two s 47 42 k = true) : Hid (at_ s (z + 1) (k + 2) = T) := by
  have e := atb_open s z k hz hc; rw [← h.out, e]; exact rfl
theorem st_out {s : ByteArray} {k T : Nat} {z : Int} (hz : 0 < z) (h : Hid (at_ s z k = T)) (hc : two s 42 47 k = true) : Hid (at_ s (z - 1) (k + 2) = T) := by
  have e := atb_close s z k hz hc; rw [← h.out, e]; exact rfl
theorem st_on {s : ByteArray} {k T : Nat} {z : Int} (hk : k < s.size) (hz : 0 < z) (h : Hid (at_ s z k = T)) (h1 : two s 47 42 k = false) (h2 : two s 42 47 k = false) : Hid (at_ s z (k + 1) = T) := by
  have e := atb_other s z k hz hk h1 h2; rw [← h.out, e]; exact rfl
theorem st_end {s : ByteArray} {k T : Nat} {z : Int} (hk : ¬ k < s.size) (h : Hid (at_ s z k = T)) : (k : Int) = (T : Int) := by
  have e := at_end s z k (by omega); have := h.out; omega

end Go.Proofs.Qxb6601301a.Wk
