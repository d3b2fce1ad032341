/-
  THE WALK OF FnExpectedMatchesCountingModel. By an AI agent.
-/
import Derived.Test.Qxb6000802aModsRows
import Derived.Test.Qxb6000802aModsWalkSum
import Derived.WalkKit
import Derived.ProofKit
namespace Go.Proofs.Qxb6000802aMods
open Go.ChangeShapes Go.WideShapes Go.ChangeAt Go.RowKit

namespace Tr
theorem cnt_lo (n r : Nat) (h : n ≤ 65537) : (cnt n r : Int) ≤ 7000 := by unfold cnt; omega
end Tr

set_option maxHeartbeats 400000 in
theorem walk5_out (n : Int) (w : World) (hn : 65536 < n) :
    Calls Trym.prog 5 #[.int .i64 n] w fun e w' => e = .returned (.bool true) ∧ Below w.heap.size w w' := by
  go_enter Trym.func5, Trym.ntmps5
  go_wp2
  go_ret
  exact ⟨rfl, Below.refl _ _⟩

set_option maxHeartbeats 400000 in
theorem walk5 (n : Int) (w : World) (hn : n ≤ 65536) (hl : -9223372036854775808 ≤ n) :
    Calls Trym.prog 5 #[.int .i64 n] w fun e w' => e = .returned (.bool true) ∧ Below w.heap.size w w' := by
  go_enter Trym.func5, Trym.ntmps5
  go_wp2_with fail
  refine (expected_any n _ (by omega) hl).mono ?_
  rintro _ w1 ⟨bd, bc, rfl, HI⟩
  go_wp2_with fail
  go_loop [5] (fun kv => ∃ k : Nat, k ≤ 10 ∧ kv = .int .i64 k) (fun kv => 10 - (intOf kv).toNat)
  case atStart => exact ⟨0, by omega, rfl⟩
  case round =>
    obtain ⟨k, hk, rfl⟩ := hrel
    by_cases hlt : k < 10
    · have g1 := HI.rd.cell k hlt
      have g2 := HI.rc.cell k hlt
      have b1 := Tr.cnt_lo n.toNat k (by omega)
      have b2 := Tr.cnt_lo n.toNat ((k + 9) % 10) (by omega)
      by_cases h0 : k = 0
      · have h0' : ((k : Int) != 0) = false := by simp [h0]
        have h1' : (((k : Int) + 9) % 10 != 0) = true := by rw [bne_iff_ne]; omega
        have c1 : w1.cell? ⟨bd, k, none⟩ = some (.int .i64 1000) := by rw [g1]; unfold Tr.dB; rw [if_pos h0]
        have c2 : w1.cell? ⟨bc, k, none⟩ = some (.int .i64 (1000 + (Tr.cnt n.toNat ((k + 9) % 10) : Int))) := by rw [g2]; unfold Tr.cB; rw [if_neg (by omega)]
        have HR : Hid ((((k : Int) + 9) % 10).toNat = (k + 9) % 10) := by show _ = _; omega
        clear g1 g2 h0
        go_wp2_with (go_at_call 12; refine (zzCount_any _ _ _ (by omega) (by omega) (by omega)).mono ?_; rintro _ w' ⟨rfl, rfl⟩; rw [HR.out])
        go_round
        case rel => exact ⟨k + 1, by omega, by go_num⟩
        case measure => simp [intOf]; omega
      · by_cases h1 : k = 1
        · have h0' : ((k : Int) != 0) = true := by rw [bne_iff_ne]; omega
          have h1' : (((k : Int) + 9) % 10 != 0) = false := by rw [bne_eq_false_iff_eq]; omega
          have c1 : w1.cell? ⟨bd, k, none⟩ = some (.int .i64 (1000 - (Tr.cnt n.toNat k : Int))) := by rw [g1]; unfold Tr.dB; rw [if_neg h0]
          have c2 : w1.cell? ⟨bc, k, none⟩ = some (.int .i64 1000) := by rw [g2]; unfold Tr.cB; rw [if_pos (by omega)]
          clear g1 g2 h0 h1
          go_wp2_with (go_at_call 12; refine (zzCount_any _ _ _ (by omega) (by omega) (by omega)).mono ?_; rintro _ w' ⟨rfl, rfl⟩; rw [Int.toNat_natCast])
          go_round
          case rel => exact ⟨k + 1, by omega, by go_num⟩
          case measure => simp [intOf]; omega
        · have h0' : ((k : Int) != 0) = true := by rw [bne_iff_ne]; omega
          have h1' : (((k : Int) + 9) % 10 != 0) = true := by rw [bne_iff_ne]; omega
          have c1 : w1.cell? ⟨bd, k, none⟩ = some (.int .i64 (1000 - (Tr.cnt n.toNat k : Int))) := by rw [g1]; unfold Tr.dB; rw [if_neg h0]
          have c2 : w1.cell? ⟨bc, k, none⟩ = some (.int .i64 (1000 + (Tr.cnt n.toNat ((k + 9) % 10) : Int))) := by rw [g2]; unfold Tr.cB; rw [if_neg (by omega)]
          have HR : Hid ((((k : Int) + 9) % 10).toNat = (k + 9) % 10) := by show _ = _; omega
          clear g1 g2 h0 h1
          go_wp2_with (go_at_call 12; refine (zzCount_any _ _ _ (by omega) (by omega) (by omega)).mono ?_; rintro _ w' ⟨rfl, rfl⟩; first | rw [Int.toNat_natCast] | rw [HR.out])
          go_round
          case rel => exact ⟨k + 1, by omega, by go_num⟩
          case measure => simp [intOf]; omega
    · have hb := HI.below
      go_wp2
      go_ret
      exact ⟨rfl, hb⟩
end Go.Proofs.Qxb6000802aMods
