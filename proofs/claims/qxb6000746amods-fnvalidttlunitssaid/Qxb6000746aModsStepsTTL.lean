/-
  THE STEPS OF validTTL's AND utoa's ROUNDS, in the walk's own forms. By an AI agent.
-/
import Derived.Test.Qxb6000746aModsPlainTTL
import Derived.WalkKit
namespace Go.Proofs.Qxb6000746aMods.Ttl
open Go.RowKit

theorem ret_bool {a b : Bool} (h : a = b) : Ending.returned (.bool a) = .returned (.bool b) := by rw [h]

theorem drop_at (s : ByteArray) (k : Nat) (h : k < s.size) : s.data.toList.drop k = s[k] :: s.data.toList.drop (k + 1) :=
  List.drop_eq_getElem_cons (by simpa using h)

theorem bits_fin : ∀ n : Fin 256, bits BinOp.or IntKind.u8 ((n.val : Nat) : Int) 32 = (((n.val ||| 32 : Nat)) : Int) := by decide +kernel

theorem bits_or32 (c : UInt8) : bits BinOp.or IntKind.u8 (c.toNat : Int) 32 = ((c ||| 32).toNat : Int) := by
  have := bits_fin ⟨c.toNat, UInt8.toNat_lt c⟩
  rw [or32]
  exact this

theorem u115 (c : UInt8) (h : (bits BinOp.or IntKind.u8 (c.toNat : Int) 32 == 115) = true) : unitN (c ||| 32).toNat = 1 := by
  rw [bits_or32, beq_iff_eq] at h
  rw [show (c ||| 32).toNat = 115 from by omega]; decide
theorem u109 (c : UInt8) (h : (bits BinOp.or IntKind.u8 (c.toNat : Int) 32 == 109) = true) : unitN (c ||| 32).toNat = 60 := by
  rw [bits_or32, beq_iff_eq] at h
  rw [show (c ||| 32).toNat = 109 from by omega]; decide
theorem u104 (c : UInt8) (h : (bits BinOp.or IntKind.u8 (c.toNat : Int) 32 == 104) = true) : unitN (c ||| 32).toNat = 3600 := by
  rw [bits_or32, beq_iff_eq] at h
  rw [show (c ||| 32).toNat = 104 from by omega]; decide
theorem u100 (c : UInt8) (h : (bits BinOp.or IntKind.u8 (c.toNat : Int) 32 == 100) = true) : unitN (c ||| 32).toNat = 86400 := by
  rw [bits_or32, beq_iff_eq] at h
  rw [show (c ||| 32).toNat = 100 from by omega]; decide
theorem u119 (c : UInt8) (h : (bits BinOp.or IntKind.u8 (c.toNat : Int) 32 == 119) = true) : unitN (c ||| 32).toNat = 604800 := by
  rw [bits_or32, beq_iff_eq] at h
  rw [show (c ||| 32).toNat = 119 from by omega]; decide
theorem u0 (c : UInt8) (h1 : (bits BinOp.or IntKind.u8 (c.toNat : Int) 32 == 115) = false) (h2 : (bits BinOp.or IntKind.u8 (c.toNat : Int) 32 == 109) = false)
    (h3 : (bits BinOp.or IntKind.u8 (c.toNat : Int) 32 == 104) = false) (h4 : (bits BinOp.or IntKind.u8 (c.toNat : Int) 32 == 100) = false)
    (h5 : (bits BinOp.or IntKind.u8 (c.toNat : Int) 32 == 119) = false) : unitN (c ||| 32).toNat = 0 := by
  rw [bits_or32, beq_eq_false_iff_ne] at h1 h2 h3 h4 h5
  unfold unitN
  rw [if_neg (by omega), if_neg (by omega), if_neg (by omega), if_neg (by omega), if_neg (by omega)]

/-- A digit is read. -/
theorem st_digit (s : ByteArray) (k t n : Nat) (d : Bool) (h : k < s.size) (h1 : (48 : Int) ≤ (s[k].toNat : Int)) (h2 : (s[k].toNat : Int) ≤ 57)
    (h3 : (n : Int) * 10 + ((s[k].toNat : Int) - 48) ≤ 4294967295) (HG : Hid (go (s.data.toList.drop k) t n d = go s.data.toList 0 0 false)) :
    Hid (go (s.data.toList.drop (k + 1)) t (n * 10 + (s[k].toNat - 48)) true = go s.data.toList 0 0 false) := by
  have e := HG.out
  rw [drop_at s k h, go, if_pos ⟨by omega, by omega⟩, if_neg (by omega)] at e
  exact e

theorem st_over (s : ByteArray) (k t n : Nat) (d : Bool) (h : k < s.size) (h1 : (48 : Int) ≤ (s[k].toNat : Int)) (h2 : (s[k].toNat : Int) ≤ 57)
    (h3 : (4294967295 : Int) < (n : Int) * 10 + ((s[k].toNat : Int) - 48)) (HG : Hid (go (s.data.toList.drop k) t n d = go s.data.toList 0 0 false)) :
    ttlB s.data.toList = false := by
  have e := HG.out
  rw [drop_at s k h, go, if_pos ⟨by omega, by omega⟩, if_pos (by omega)] at e
  unfold ttlB
  rw [← e, Bool.and_false]

theorem st_unit (s : ByteArray) (k t n m : Nat) (d : Bool) (h : k < s.size) (h1 : ¬ (48 ≤ s[k].toNat ∧ s[k].toNat ≤ 57)) (hm : unitN (s[k] ||| 32).toNat = m) (hm0 : m ≠ 0)
    (hd : d = true) (h3 : n * m ≤ 4294967295 - t) (HG : Hid (go (s.data.toList.drop k) t n d = go s.data.toList 0 0 false)) :
    Hid (go (s.data.toList.drop (k + 1)) (t + n * m) 0 false = go s.data.toList 0 0 false) := by
  have e := HG.out
  rw [drop_at s k h, go, if_neg h1, hm, if_neg (by rintro (h | h | h) <;> first | exact hm0 h | (rw [hd] at h; exact absurd h (by decide)) | omega)] at e
  exact e

theorem st_bad (s : ByteArray) (k t n m : Nat) (d : Bool) (h : k < s.size) (h1 : ¬ (48 ≤ s[k].toNat ∧ s[k].toNat ≤ 57)) (hm : unitN (s[k] ||| 32).toNat = m)
    (h3 : m = 0 ∨ d = false ∨ 4294967295 - t < n * m) (HG : Hid (go (s.data.toList.drop k) t n d = go s.data.toList 0 0 false)) :
    ttlB s.data.toList = false := by
  have e := HG.out
  rw [drop_at s k h, go, if_neg h1, hm, if_pos h3] at e
  unfold ttlB
  rw [← e, Bool.and_false]

theorem st_end (s : ByteArray) (k t n : Nat) (d : Bool) (h : s.size ≤ k) (ht : t ≤ 4294967295) (HG : Hid (go (s.data.toList.drop k) t n d = go s.data.toList 0 0 false)) :
    go s.data.toList 0 0 false = decide ((n : Int) ≤ 4294967295 - (t : Int)) := by
  have e := HG.out
  rw [List.drop_of_length_le (by simpa using h), go] at e
  rw [← e]
  exact decide_eq_decide.2 (by omega)

theorem fin_nil (s : ByteArray) (h : s.toList = []) : ttlB s.data.toList = false := by
  rw [ByteArray.toList_eq] at h
  rw [h]
  rfl

theorem fin_cons (s : ByteArray) (n t : Nat) (HE : Hid (go s.data.toList 0 0 false = decide ((n : Int) ≤ 4294967295 - (t : Int)))) :
    ttlB s.data.toList = (!s.toList.isEmpty && decide ((n : Int) ≤ 4294967295 - (t : Int))) := by
  unfold ttlB
  rw [HE.out, ByteArray.toList_eq]

end Go.Proofs.Qxb6000746aMods.Ttl
