/-
  THE WALKS OF Refused, accounts, Expected. By an AI agent.
-/
import Derived.Test.Qxb6000802aModsRows
import Derived.Test.Qxb6000802aModsMem
import Derived.WalkKit
import Derived.ProofKit
import Derived.RegionTactic
import Derived.Deep.DeepCutAuto
namespace Go.Proofs.Qxb6000802aMods
open Go.ChangeShapes Go.WideShapes Go.ChangeAt Go.RowKit

theorem refused_any (i : Int) (w : World) (h0 : 0 ≤ i) :
    Calls Trym.prog 13 #[.int .i64 i] w fun e w' => e = .returned (.bool (i % 10 == 0)) ∧ w' = w := by
  go_enter Trym.func13, Trym.ntmps13
  go_wp2
  go_ret
  exact ⟨rfl, rfl⟩

theorem accounts_any (i : Int) (w : World) (h0 : 0 ≤ i) (h1 : i ≤ 65537) :
    Calls Trym.prog 14 #[.int .i64 i] w fun e w' => e = .returned (.tuple #[.int .i64 (i % 10), .int .i64 ((i + 1) % 10)]) ∧ w' = w := by
  go_enter Trym.func14, Trym.ntmps14
  go_wp2
  go_ret2
  exact ⟨rfl, rfl⟩

theorem make10 : ∀ w : World, (Instr.makeSlice 24 (.int .i64 10) (.int .i64 10)).run Trym.prog w = .ok (.slice (some ⟨w.heap.size, 0, none⟩) 10 10) (w.alloc (.cells Tr.zeros 3)) := fun _ => by kernel_rfl

set_option maxHeartbeats 400000 in
theorem expected_any (n : Int) (w : World) (hn : n ≤ 65537) (hl : -9223372036854775808 ≤ n) :
    Calls Trym.prog 9 #[.int .i64 n] w fun e w' => ∃ bd bc : Nat, e = .returned (.tuple #[.slice (some ⟨bd, 0, none⟩) 10 10, .slice (some ⟨bc, 0, none⟩) 10 10]) ∧ Tr.MInv w bd bc (Tr.dB n.toNat) (Tr.cB n.toNat) w' := by
  have hmk := make10
  go_enter Trym.func9, Trym.ntmps9
  go_upto_region 1 with fail
  go_cut [2, 3] from 8 (fun d c wc => ∃ bd bc : Nat, d = .slice (some ⟨bd, 0, none⟩) 10 10 ∧ c = .slice (some ⟨bc, 0, none⟩) 10 10 ∧ Tr.MInv w bd bc (Tr.opened 0) (Tr.opened 0) wc)
  case first =>
    go_region
    all_goals (try go_wp2)
    all_goals go_meet
    · exact ⟨_, _, rfl, rfl, (Tr.made_dc w).drew⟩
    · exact ⟨_, _, rfl, rfl, (Tr.made_cd w).drew⟩
  case rest =>
    obtain ⟨bd, bc, rfl, rfl, HI⟩ := hcut
    clear hmk
    go_wp2
    go_loopw [10] (fun iv wr => ∃ k : Nat, k ≤ 10 ∧ iv = .int .i64 k ∧ Tr.MInv w bd bc (Tr.opened k) (Tr.opened k) wr) (fun iv _ => 10 - (intOf iv).toNat)
    case atStart => exact ⟨0, by omega, rfl, HI⟩
    case round =>
      obtain ⟨k, hk, rfl, HK⟩ := hrel
      clear HI
      by_cases hlt : k < 10
      · have c1 := HK.rd.cell k hlt
        have c2 := HK.rc.cell k hlt
        have f1 := HK.rd.free k
        have f2 := HK.rc.free k
        have hne := HK.ne
        go_wp2
        go_roundw
        case rel => exact ⟨k + 1, by omega, by go_num, HK.opens⟩
        case measure => simp [intOf]; omega
      · have HB : Tr.MInv w bd bc (Tr.dB 0) (Tr.cB 0) wr := by
          have e : k = 10 := by omega
          rw [e] at HK
          exact HK.begin
        clear HK
        go_wp2
        go_loopw [21] (fun iv wr => ∃ k : Nat, k ≤ n.toNat ∧ iv = .int .i64 k ∧ Tr.MInv w bd bc (Tr.dB k) (Tr.cB k) wr) (fun iv _ => n.toNat - (intOf iv).toNat)
        case atStart => exact ⟨0, Nat.zero_le _, rfl, HB⟩
        case round =>
          obtain ⟨j, hj, rfl, HK⟩ := hrel
          clear HB
          by_cases hln : (j : Int) < n
          · have hj6 : j ≤ 65536 := by omega
            by_cases h10 : j % 10 = 0
            · have H10 : Hid (((j : Int) % 10 == 0) = true) := by show _ = _; rw [beq_iff_eq]; omega
              have HS := HK.skip h10
              clear h10 HK
              go_wp2_with (go_at_call 13; refine (refused_any _ _ (by omega)).mono ?_; rintro _ w' ⟨rfl, rfl⟩; rw [H10.out])
              go_roundw
              case rel => exact ⟨j + 1, by omega, by go_num, HS⟩
              case measure => simp [intOf]; omega
            · have H10 : Hid (((j : Int) % 10 == 0) = false) := by show _ = _; rw [beq_eq_false_iff_ne]; omega
              have HM := HK.move h10
              have c1 := HK.rd.cell (j % 10) (by omega)
              have c2 := HK.rc.cell ((j + 1) % 10) (by omega)
              have f1 := HK.rd.free (j % 10)
              have f2 := HK.rc.free ((j + 1) % 10)
              have hne := HK.ne
              have b1 := Tr.dB_lo j (j % 10) (by omega)
              have b2 := Tr.cB_lo j ((j + 1) % 10) (by omega)
              clear h10 HK
              go_wp2_with (first | (go_at_call 13; refine (refused_any _ _ (by omega)).mono ?_; rintro _ w' ⟨rfl, rfl⟩; rw [H10.out]) | (go_at_call 14; refine (accounts_any _ _ (by omega) (by omega)).mono ?_; rintro _ w' ⟨rfl, rfl⟩))
              go_roundw
              case rel => exact ⟨j + 1, by omega, by go_num, HM⟩
              case measure => simp [intOf]; omega
          · have HE : Tr.MInv w bd bc (Tr.dB n.toNat) (Tr.cB n.toNat) wr := by
              have e : n.toNat = j := by omega
              rw [e]
              exact HK
            clear HK
            go_wp2
            go_ret2
            exact ⟨bd, bc, rfl, HE⟩
end Go.Proofs.Qxb6000802aMods
