/-
  THE WALK OF FnExpectedConservesMoney. By an AI agent.
-/
import Derived.Test.Qxb6000802aModsRows
import Derived.Test.Qxb6000802aModsWalkSum
import Derived.WalkKit
import Derived.ProofKit
namespace Go.Proofs.Qxb6000802aMods
open Go.ChangeShapes Go.WideShapes Go.ChangeAt Go.RowKit

namespace Tr
theorem dB_any (k a : Nat) (h : k ≤ 65537) : -10000 ≤ dB k a ∧ dB k a ≤ 10000 := by have := dB_lo k a h; omega
theorem cB_any (k a : Nat) (h : k ≤ 65537) : -10000 ≤ cB k a ∧ cB k a ≤ 10000 := by have := cB_lo k a h; omega
end Tr

set_option maxHeartbeats 400000 in
theorem walk6_out (n : Int) (w : World) (hn : 65536 < n) :
    Calls Trym.prog 6 #[.int .i64 n] w fun e w' => e = .returned (.bool true) ∧ Below w.heap.size w w' := by
  go_enter Trym.func6, Trym.ntmps6
  go_wp2
  go_ret
  exact ⟨rfl, Below.refl _ _⟩

set_option maxHeartbeats 400000 in
theorem walk6 (n : Int) (w : World) (hn : n ≤ 65536) (hl : -9223372036854775808 ≤ n) :
    Calls Trym.prog 6 #[.int .i64 n] w fun e w' => e = .returned (.bool true) ∧ Below w.heap.size w w' := by
  have hk : n.toNat ≤ 65537 := by omega
  generalize hM : Tr.moved n.toNat = M
  have HM : Hid (Tr.moved n.toNat = M) := hM
  have hM2 : M ≤ 65536 := by rw [← hM]; unfold Tr.moved; omega
  by_cases h0 : 0 < n
  · have hMa : n - (n + 9) / 10 ≤ (M : Int) := by rw [← hM]; unfold Tr.moved; omega
    have hMb : (M : Int) ≤ n - (n + 9) / 10 := by rw [← hM]; unfold Tr.moved; omega
    clear hM
    go_enter Trym.func6, Trym.ntmps6
    go_wp2_with fail
    refine (expected_any n _ (by omega) hl).mono ?_
    rintro _ w1 ⟨bd, bc, rfl, HI⟩
    go_wp2_with fail
    refine (zzSum_any _ _ _ HI.rd (fun a => Tr.dB_any _ a hk)).mono ?_
    rintro _ w2 ⟨rfl, rfl⟩
    rw [Tr.sum_d, HM.out]
    go_wp2_with fail
    refine (zzSum_any _ _ _ HI.rc (fun a => Tr.cB_any _ a hk)).mono ?_
    rintro _ w3 ⟨rfl, rfl⟩
    rw [Tr.sum_c, HM.out]
    have hb := HI.below
    clear HI
    go_wp2
    go_ret
    exact ⟨rfl, hb⟩
  · have hMa : M = 0 := by rw [← hM]; unfold Tr.moved; omega
    subst hMa
    clear hM
    go_enter Trym.func6, Trym.ntmps6
    go_wp2_with fail
    refine (expected_any n _ (by omega) hl).mono ?_
    rintro _ w1 ⟨bd, bc, rfl, HI⟩
    go_wp2_with fail
    refine (zzSum_any _ _ _ HI.rd (fun a => Tr.dB_any _ a hk)).mono ?_
    rintro _ w2 ⟨rfl, rfl⟩
    rw [Tr.sum_d, HM.out]
    go_wp2_with fail
    refine (zzSum_any _ _ _ HI.rc (fun a => Tr.cB_any _ a hk)).mono ?_
    rintro _ w3 ⟨rfl, rfl⟩
    rw [Tr.sum_c, HM.out]
    have hb := HI.below
    clear HI
    go_wp2
    go_ret
    exact ⟨rfl, hb⟩
end Go.Proofs.Qxb6000802aMods
