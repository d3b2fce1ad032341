/-
  THE WALKS OF zzSum, zzSame, zzCount, FinalState. By an AI agent.
-/
import Derived.Test.Qxb6000802aModsRows
import Derived.Test.Qxb6000802aModsWalkExp
import Derived.WalkKit
import Derived.ProofKit
import Derived.RegionTactic
import Derived.BigQuiet
import Derived.WalkSmall
namespace Go.Proofs.Qxb6000802aMods
open Go.ChangeShapes Go.WideShapes Go.ChangeAt Go.RowKit

namespace Tr
theorem ret_int {a b : Int} (h : a = b) : Ending.returned (.int .i64 a) = .returned (.int .i64 b) := by rw [h]
theorem ret_bool {a b : Bool} (h : a = b) : Ending.returned (.bool a) = .returned (.bool b) := by rw [h]
/-- Are the first j balances the same? -/
def eqTo (f g : Nat → Int) : Nat → Bool
  | 0 => true
  | j + 1 => eqTo f g j && decide (f j = g j)
theorem eqTo_iff (f g : Nat → Int) (j : Nat) : eqTo f g j = true ↔ ∀ a, a < j → f a = g a := by
  induction j with
  | zero => simp [eqTo]
  | succ j ih =>
    rw [eqTo, Bool.and_eq_true, ih, decide_eq_true_iff]
    constructor
    · rintro ⟨h1, h2⟩ a ha
      rcases Nat.lt_or_ge a j with h | h
      · exact h1 a h
      · rw [show a = j from by omega]; exact h2
    · intro h
      exact ⟨fun a ha => h a (by omega), h j (by omega)⟩
theorem eqTo_no (f g : Nat → Int) (k j : Nat) (hk : k < j) (h : f k ≠ g k) : eqTo f g j = false := by
  cases he : eqTo f g j with
  | false => rfl
  | true => exact absurd ((eqTo_iff f g j).1 he k hk) h
end Tr

set_option maxHeartbeats 400000 in
theorem zzSum_any (b : Nat) (f : Nat → Int) (w : World) (hr : Tr.Row w b f) (hf : ∀ a, -10000 ≤ f a ∧ f a ≤ 10000) :
    Calls Trym.prog 11 #[.slice (some ⟨b, 0, none⟩) 10 10] w fun e w' => e = .returned (.int .i64 (Tr.sumTo f 10)) ∧ w' = w := by
  have HF : Hid (∀ a, -10000 ≤ f a ∧ f a ≤ 10000) := hf
  clear hf
  go_enter Trym.func11, Trym.ntmps11
  go_wp2
  go_loop [3, 4] (fun tv kv => ∃ k : Nat, k ≤ 10 ∧ kv = .int .i64 k ∧ tv = .int .i64 (Tr.sumTo f k)) (fun _ kv => 10 - (intOf kv).toNat)
  case atStart => exact ⟨0, by omega, rfl, rfl⟩
  case round =>
    obtain ⟨k, hk, rfl, rfl⟩ := hrel
    by_cases hlt : k < 10
    · have hc := hr.cell k hlt
      have h1 := HF.out k
      have h2 := Tr.sumTo_lo f HF.out k hk
      go_wp2
      go_round
      case rel => exact ⟨k + 1, by omega, by go_num, rfl⟩
      case measure => simp [intOf]; omega
    · go_wp2
      go_ret
      exact ⟨Tr.ret_int (by rw [show k = 10 from by omega]), rfl⟩

set_option maxHeartbeats 400000 in
theorem zzCount_any (n r : Int) (w : World) (hn : n ≤ 65537) (h0 : 0 ≤ r) (h9 : r < 10) :
    Calls Trym.prog 12 #[.int .i64 n, .int .i64 r] w fun e w' => e = .returned (.int .i64 (Tr.cnt n.toNat r.toNat)) ∧ w' = w := by
  by_cases h : n ≤ 0
  · go_enter Trym.func12, Trym.ntmps12
    go_wp2
    go_ret
    exact ⟨Tr.ret_int (by unfold Tr.cnt; omega), rfl⟩
  · by_cases hr : r < n % 10
    · go_enter Trym.func12, Trym.ntmps12
      go_wp2
      go_ret
      exact ⟨Tr.ret_int (by unfold Tr.cnt; omega), rfl⟩
    · go_enter Trym.func12, Trym.ntmps12
      go_wp2
      go_ret
      exact ⟨Tr.ret_int (by unfold Tr.cnt; omega), rfl⟩

set_option maxHeartbeats 400000 in
theorem zzSame_any (b c : Nat) (f g : Nat → Int) (w : World) (hr : Tr.Row w b f) (hs : Tr.Row w c g) :
    Calls Trym.prog 10 #[.slice (some ⟨b, 0, none⟩) 10 10, .slice (some ⟨c, 0, none⟩) 10 10] w fun e w' => e = .returned (.bool (Tr.eqTo f g 10)) ∧ Below w.heap.size w w' := by
  go_enter Trym.func10, Trym.ntmps10
  go_wp2
  go_loopw [5] (fun kv wr => ∃ k : Nat, k ≤ 10 ∧ kv = .int .i64 k ∧ Below w.heap.size w wr ∧ Hid (Tr.eqTo f g k = true)) (fun kv _ => 10 - (intOf kv).toNat)
  case atStart => exact ⟨0, by omega, rfl, Below.refl _ _, rfl⟩
  case round =>
    obtain ⟨k, hk, rfl, HB, HA⟩ := hrel
    by_cases hlt : k < 10
    · have c1 := (hr.below HB hr.lt).cell k hlt
      have c2 := (hs.below HB hs.lt).cell k hlt
      have hl : (k : Int) < 10 := by omega
      by_cases he : f k = g k
      · have he' : (f k != g k) = false := by simp [he]
        have HEq : Hid (f k = g k) := he
        clear he
        go_wp2
        go_quiet (fail)
        go_wp2
        go_roundw
        case rel => exact ⟨k + 1, by omega, by go_num, below_drewN HB _, by show _ = _; rw [Tr.eqTo, HA.out, HEq.out]; simp⟩
        case measure => simp [intOf]; omega
      · have he' : (f k != g k) = true := by simp [he]
        have HN := Tr.eqTo_no f g k 10 hlt he
        have HEq : Hid (Tr.eqTo f g 10 = false) := HN
        clear he HN
        go_wp2
        go_quiet (fail)
        go_wp2
        go_ret
        exact ⟨Tr.ret_bool (by rw [HEq.out]), below_drewN HB _⟩
    · have HE : Hid (Tr.eqTo f g 10 = true) := by
        have := HA.out
        rw [show k = 10 from by omega] at this
        exact this
      go_wp2
      go_ret
      exact ⟨Tr.ret_bool (by rw [HE.out]), HB⟩

theorem finalState_any (i : Int) (w : World) (h0 : 0 ≤ i) :
    Calls Trym.prog 8 #[.int .i64 i] w fun e w' => e = .returned (.string (if (i % 10 == 0) = true then ⟨#[99, 111, 109, 112, 101, 110, 115, 97, 116, 101, 100]⟩ else ⟨#[115, 117, 99, 99, 101, 101, 100, 101, 100]⟩)) ∧ w' = w := by
  cases h : (i % 10 == 0) with
  | true =>
    go_enter Trym.func8, Trym.ntmps8
    go_wp2_with (go_at_call 13; refine (refused_any _ _ h0).mono ?_; rintro _ w' ⟨rfl, rfl⟩)
    go_ret
    exact ⟨rfl, rfl⟩
  | false =>
    go_enter Trym.func8, Trym.ntmps8
    go_wp2_with (go_at_call 13; refine (refused_any _ _ h0).mono ?_; rintro _ w' ⟨rfl, rfl⟩)
    go_ret
    exact ⟨rfl, rfl⟩
end Go.Proofs.Qxb6000802aMods
