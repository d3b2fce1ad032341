/-
  THE WALK OF validTTL, and of ZZvalidTTL. By an AI agent.
-/
import Derived.Test.Qxb6000746aModsRows
import Derived.Test.Qxb6000746aModsStepsTTL
import Derived.WalkKit
import Derived.ProofKit
namespace Go.Proofs.Qxb6000746aMods
open Go.ChangeShapes Go.WideShapes Go.ChangeAt Go.RowKit

set_option maxHeartbeats 800000 in
theorem validTTL_any (s : ByteArray) (w : World) (hs : s.size ≤ maxLen) :
    Calls Trym.prog 20 #[.string s] w fun e w' => e = .returned (.bool (Ttl.ttlB s.data.toList)) ∧ w' = w := by
  unfold maxLen at hs
  go_enter Trym.func20, Trym.ntmps20
  go_wp2
  go_loop [3, 4, 5, 6] (fun t n d i => ∃ (k t' n' : Nat) (d' : Bool), k ≤ s.size ∧ t = .int .u64 t' ∧ n = .int .u64 n' ∧ d = .bool d' ∧ i = .int .i64 k ∧ t' ≤ 4294967295 ∧ n' ≤ 4294967295 ∧ Hid (Ttl.go (s.data.toList.drop k) t' n' d' = Ttl.go s.data.toList 0 0 false)) (fun _ _ _ i => s.size - (intOf i).toNat)
  case atStart => exact ⟨0, 0, 0, false, Nat.zero_le _, rfl, rfl, rfl, rfl, by omega, by omega, rfl⟩
  case round =>
    obtain ⟨k, t, n, d, hk, rfl, rfl, rfl, rfl, ht, hn, HG⟩ := hrel
    by_cases hlt : k < s.size
    · have hc := UInt8.toNat_lt s[k]
      go_wp2
      all_goals first
        | (go_ret; exact ⟨Ttl.ret_bool (Ttl.st_over s k t n d hlt (by omega) (by omega) (by omega) HG).symm, rfl⟩)
        | (go_ret; exact ⟨Ttl.ret_bool (Ttl.st_bad s k t n 0 d hlt (by omega) (Ttl.u0 _ (by assumption) (by assumption) (by assumption) (by assumption) (by assumption)) (.inl rfl) HG).symm, rfl⟩)
        | (go_round
           case rel => exact ⟨k + 1, t, n * 10 + (s[k].toNat - 48), true, by omega, rfl, by go_num, rfl, by go_num, ht, by omega, Ttl.st_digit s k t n d hlt (by omega) (by omega) (by omega) HG⟩
           case measure => simp [intOf]; omega)
        | (have hu := Ttl.u115 s[k] (by assumption)
           first
           | (go_ret; exact ⟨Ttl.ret_bool (Ttl.st_bad s k t n 1 d hlt (by omega) hu (by first | exact .inr (.inl (by simpa using ‹¬ d = true›)) | exact .inr (.inr (by omega))) HG).symm, rfl⟩)
           | (go_round
              case rel => exact ⟨k + 1, t + n * 1, 0, false, by omega, by go_num, rfl, rfl, by go_num, by omega, by omega, Ttl.st_unit s k t n 1 d hlt (by omega) hu (by decide) (by assumption) (by omega) HG⟩
              case measure => simp [intOf]; omega))
        | (have hu := Ttl.u109 s[k] (by assumption)
           first
           | (go_ret; exact ⟨Ttl.ret_bool (Ttl.st_bad s k t n 60 d hlt (by omega) hu (by first | exact .inr (.inl (by simpa using ‹¬ d = true›)) | exact .inr (.inr (by omega))) HG).symm, rfl⟩)
           | (go_round
              case rel => exact ⟨k + 1, t + n * 60, 0, false, by omega, by go_num, rfl, rfl, by go_num, by omega, by omega, Ttl.st_unit s k t n 60 d hlt (by omega) hu (by decide) (by assumption) (by omega) HG⟩
              case measure => simp [intOf]; omega))
        | (have hu := Ttl.u104 s[k] (by assumption)
           first
           | (go_ret; exact ⟨Ttl.ret_bool (Ttl.st_bad s k t n 3600 d hlt (by omega) hu (by first | exact .inr (.inl (by simpa using ‹¬ d = true›)) | exact .inr (.inr (by omega))) HG).symm, rfl⟩)
           | (go_round
              case rel => exact ⟨k + 1, t + n * 3600, 0, false, by omega, by go_num, rfl, rfl, by go_num, by omega, by omega, Ttl.st_unit s k t n 3600 d hlt (by omega) hu (by decide) (by assumption) (by omega) HG⟩
              case measure => simp [intOf]; omega))
        | (have hu := Ttl.u100 s[k] (by assumption)
           first
           | (go_ret; exact ⟨Ttl.ret_bool (Ttl.st_bad s k t n 86400 d hlt (by omega) hu (by first | exact .inr (.inl (by simpa using ‹¬ d = true›)) | exact .inr (.inr (by omega))) HG).symm, rfl⟩)
           | (go_round
              case rel => exact ⟨k + 1, t + n * 86400, 0, false, by omega, by go_num, rfl, rfl, by go_num, by omega, by omega, Ttl.st_unit s k t n 86400 d hlt (by omega) hu (by decide) (by assumption) (by omega) HG⟩
              case measure => simp [intOf]; omega))
        | (have hu := Ttl.u119 s[k] (by assumption)
           first
           | (go_ret; exact ⟨Ttl.ret_bool (Ttl.st_bad s k t n 604800 d hlt (by omega) hu (by first | exact .inr (.inl (by simpa using ‹¬ d = true›)) | exact .inr (.inr (by omega))) HG).symm, rfl⟩)
           | (go_round
              case rel => exact ⟨k + 1, t + n * 604800, 0, false, by omega, by go_num, rfl, rfl, by go_num, by omega, by omega, Ttl.st_unit s k t n 604800 d hlt (by omega) hu (by decide) (by assumption) (by omega) HG⟩
              case measure => simp [intOf]; omega))
    · have hend := Ttl.st_end s k t n d (by omega) ht HG
      have HE : Hid (Ttl.go s.data.toList 0 0 false = decide ((n : Int) ≤ 4294967295 - (t : Int))) := hend
      clear hend
      go_wp2
      all_goals go_ret
      · exact ⟨Ttl.ret_bool (Ttl.fin_nil s (by assumption)).symm, rfl⟩
      · exact ⟨Ttl.ret_bool (Ttl.fin_cons s n t HE).symm, rfl⟩

theorem zzValidTTL_any (s : ByteArray) (w : World) (hs : s.size ≤ maxLen) :
    Calls Trym.prog 10 #[.string s] w fun e w' => e = .returned (.bool (Ttl.ttlB s.data.toList)) ∧ w' = w := by
  go_enter Trym.func10, Trym.ntmps10
  go_wp2_with (go_at_call 20; refine (validTTL_any _ _ hs).mono ?_; rintro e w' ⟨rfl, rfl⟩)
  go_ret
  exact ⟨rfl, rfl⟩

end Go.Proofs.Qxb6000746aMods
