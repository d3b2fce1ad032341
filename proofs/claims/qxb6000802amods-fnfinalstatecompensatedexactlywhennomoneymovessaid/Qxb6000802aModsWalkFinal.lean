/-
  THE WALK OF FnFinalStateCompensatedExactlyWhenNoMoneyMoves. By an AI agent.
-/
import Derived.Test.Qxb6000802aModsRows
import Derived.Test.Qxb6000802aModsWalkSum
import Derived.WalkKit
import Derived.ProofKit
namespace Go.Proofs.Qxb6000802aMods
open Go.ChangeShapes Go.WideShapes Go.ChangeAt Go.RowKit

namespace Tr
theorem dB_fits (k a : Nat) (h : k ≤ 65537) : -10000 ≤ dB k a ∧ dB k a ≤ 10000 := by have := dB_lo k a h; omega
theorem cB_fits (k a : Nat) (h : k ≤ 65537) : -10000 ≤ cB k a ∧ cB k a ≤ 10000 := by have := cB_lo k a h; omega
theorem eq_d (k : Nat) (h : k % 10 = 0) : eqTo (dB k) (dB (k + 1)) 10 = true := (eqTo_iff _ _ _).2 fun a ha => (dB_same k a h ha).symm
theorem eq_c (k : Nat) (h : k % 10 = 0) : eqTo (cB k) (cB (k + 1)) 10 = true := (eqTo_iff _ _ _).2 fun a _ => (cB_same k a h).symm
theorem ne_d (k : Nat) (h : k % 10 ≠ 0) : eqTo (dB k) (dB (k + 1)) 10 = false := by
  refine eqTo_no _ _ (k % 10) 10 (by omega) ?_
  rw [dB_step k (k % 10) h (by omega), if_pos rfl]
  omega
end Tr

set_option maxHeartbeats 400000 in
theorem walk4_out (n : Int) (w : World) (hn : n < 0 ∨ 65536 < n) :
    Calls Trym.prog 4 #[.int .i64 n] w fun e w' => e = .returned (.bool true) ∧ Below w.heap.size w w' := by
  rcases hn with hn | hn
  · go_enter Trym.func4, Trym.ntmps4
    go_wp2
    go_ret
    exact ⟨rfl, Below.refl _ _⟩
  · have h0 : ¬ n < 0 := by omega
    go_enter Trym.func4, Trym.ntmps4
    go_wp2
    go_ret
    exact ⟨rfl, Below.refl _ _⟩

set_option maxHeartbeats 400000 in
theorem walk4_comp (k : Nat) (w : World) (hk : k ≤ 65536) (h10 : k % 10 = 0) :
    Calls Trym.prog 4 #[.int .i64 k] w fun e w' => e = .returned (.bool true) ∧ Below w.heap.size w w' := by
  have E1 : Hid (Tr.eqTo (Tr.dB k) (Tr.dB (k + 1)) 10 = true) := Tr.eq_d k h10
  have E2 : Hid (Tr.eqTo (Tr.cB k) (Tr.cB (k + 1)) 10 = true) := Tr.eq_c k h10
  have H10 : Hid (((k : Int) % 10 == 0) = true) := by show _ = _; rw [beq_iff_eq]; omega
  have h65 : decide ((65536 : Int) < (k : Int)) = false := decide_eq_false (by omega)
  clear h10
  go_enter Trym.func4, Trym.ntmps4
  go_wp2_with fail
  refine (expected_any (k : Int) _ (by omega) (by omega)).mono ?_
  rintro _ w1 ⟨b0, c0, rfl, HI⟩
  rw [Int.toNat_natCast] at HI
  go_wp2_with fail
  refine (expected_any ((k : Int) + 1) _ (by omega) (by omega)).mono ?_
  rintro _ w2 ⟨b1, c1, rfl, HJ⟩
  rw [show ((k : Int) + 1).toNat = k + 1 from by omega] at HJ
  have rd0 := HI.rd.below HJ.below HI.rd.lt
  have rc0 := HI.rc.below HJ.below HI.rc.lt
  have rd1 := HJ.rd
  have rc1 := HJ.rc
  have hb2 : Below w.heap.size w w2 := HI.below.trans (HJ.below.mono HI.below.size)
  clear HI HJ
  go_wp2_with fail
  refine (zzSame_any _ _ _ _ _ rd0 rd1).mono ?_
  rintro _ w3 ⟨rfl, hb3⟩
  rw [E1.out]
  have rc0' := rc0.below hb3 rc0.lt
  have rc1' := rc1.below hb3 rc1.lt
  have hb4 : Below w.heap.size w w3 := hb2.trans (hb3.mono hb2.size)
  clear rd0 rd1 rc0 rc1 hb2 hb3
  go_wp2_with fail
  refine (zzSame_any _ _ _ _ _ rc0' rc1').mono ?_
  rintro _ w4 ⟨rfl, hb5⟩
  rw [E2.out]
  have hb6 : Below w.heap.size w w4 := hb4.trans (hb5.mono hb4.size)
  clear rc0' rc1' hb4 hb5
  go_wp2_with fail
  refine (finalState_any _ _ (by omega)).mono ?_
  rintro _ w5 ⟨rfl, rfl⟩
  rw [if_pos H10.out]
  go_wp2_with fail
  go_ret
  exact ⟨rfl, hb6⟩

set_option maxHeartbeats 400000 in
theorem walk4_succ (k : Nat) (w : World) (hk : k ≤ 65536) (h10 : k % 10 ≠ 0) :
    Calls Trym.prog 4 #[.int .i64 k] w fun e w' => e = .returned (.bool true) ∧ Below w.heap.size w w' := by
  have E1 : Hid (Tr.eqTo (Tr.dB k) (Tr.dB (k + 1)) 10 = false) := Tr.ne_d k h10
  have H10 : Hid (¬ ((k : Int) % 10 == 0) = true) := by show ¬ _; rw [beq_iff_eq]; omega
  have h65 : decide ((65536 : Int) < (k : Int)) = false := decide_eq_false (by omega)
  generalize hS : Tr.sumTo (Tr.dB k) 10 = S
  generalize hT : Tr.sumTo (Tr.cB k) 10 = T
  have HS : Hid (Tr.sumTo (Tr.dB k) 10 = S) := hS
  have HT : Hid (Tr.sumTo (Tr.cB k) 10 = T) := hT
  have HS1 : Hid (Tr.sumTo (Tr.dB (k + 1)) 10 = S - 1) := by show _ = _; rw [Tr.sum_d_succ, if_neg h10, hS]
  have HT1 : Hid (Tr.sumTo (Tr.cB (k + 1)) 10 = T + 1) := by show _ = _; rw [Tr.sum_c_succ, if_neg h10, hT]
  have bS : -100000 ≤ S ∧ S ≤ 100000 := by rw [← hS]; exact Tr.sumTo_lo _ (fun a => Tr.dB_fits k a (by omega)) 10 (by omega)
  have bT : -100000 ≤ T ∧ T ≤ 100000 := by rw [← hT]; exact Tr.sumTo_lo _ (fun a => Tr.cB_fits k a (by omega)) 10 (by omega)
  clear h10 hS hT
  go_enter Trym.func4, Trym.ntmps4
  go_wp2_with fail
  refine (expected_any (k : Int) _ (by omega) (by omega)).mono ?_
  rintro _ w1 ⟨b0, c0, rfl, HI⟩
  rw [Int.toNat_natCast] at HI
  go_wp2_with fail
  refine (expected_any ((k : Int) + 1) _ (by omega) (by omega)).mono ?_
  rintro _ w2 ⟨b1, c1, rfl, HJ⟩
  rw [show ((k : Int) + 1).toNat = k + 1 from by omega] at HJ
  have rd0 := HI.rd.below HJ.below HI.rd.lt
  have rc0 := HI.rc.below HJ.below HI.rc.lt
  have rd1 := HJ.rd
  have rc1 := HJ.rc
  have hb2 : Below w.heap.size w w2 := HI.below.trans (HJ.below.mono HI.below.size)
  clear HI HJ
  go_wp2_with fail
  refine (zzSame_any _ _ _ _ _ rd0 rd1).mono ?_
  rintro _ w3 ⟨rfl, hb3⟩
  rw [E1.out]
  have rc0' := rc0.below hb3 rc0.lt
  have rc1' := rc1.below hb3 rc1.lt
  have rd0' := rd0.below hb3 rd0.lt
  have rd1' := rd1.below hb3 rd1.lt
  have hb4 : Below w.heap.size w w3 := hb2.trans (hb3.mono hb2.size)
  clear rd0 rd1 rc0 rc1 hb2 hb3
  go_wp2_with fail
  refine (finalState_any _ _ (by omega)).mono ?_
  rintro _ w5 ⟨rfl, rfl⟩
  rw [if_neg H10.out]
  go_wp2_with fail
  refine (zzSum_any _ _ _ rd1' (fun a => Tr.dB_fits _ a (by omega))).mono ?_
  rintro _ w6 ⟨rfl, rfl⟩
  rw [HS1.out]
  go_wp2_with fail
  refine (zzSum_any _ _ _ rd0' (fun a => Tr.dB_fits _ a (by omega))).mono ?_
  rintro _ w6 ⟨rfl, rfl⟩
  rw [HS.out]
  go_wp2_with fail
  refine (zzSum_any _ _ _ rc1' (fun a => Tr.cB_fits _ a (by omega))).mono ?_
  rintro _ w6 ⟨rfl, rfl⟩
  rw [HT1.out]
  go_wp2_with fail
  refine (zzSum_any _ _ _ rc0' (fun a => Tr.cB_fits _ a (by omega))).mono ?_
  rintro _ w6 ⟨rfl, rfl⟩
  rw [HT.out]
  go_wp2
  go_ret
  exact ⟨rfl, hb4⟩
end Go.Proofs.Qxb6000802aMods
