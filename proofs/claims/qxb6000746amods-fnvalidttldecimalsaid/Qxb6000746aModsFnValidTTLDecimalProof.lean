/-
  THE PROOF OF 'Rows.FnValidTTLDecimalSaid': the frame is the shell's; the walk is told by 'Below'. By an AI agent.
-/
import Derived.Test.Qxb6000746aModsRows
import Derived.Test.Qxb6000746aModsWalkTTL
import Derived.Test.Qxb6000746aModsWalkUtoa
import Derived.WalkKit
import Derived.ProofKit
import Derived.OpenShut
import Derived.ShutString
namespace Go.Proofs.Qxb6000746aMods.fnValidTTLDecimal
open Go.ChangeShapes Go.WideShapes Go.ChangeAt Go.RowKit
open Go.ChangeMaps (open_string shut_string)
set_option linter.unusedVariables false

theorem own : ownKnob Trym.prog.godebug = none := by kernel_rfl

theorem zero_cons (k : Nat) (ds : List UInt8) : Value.string ((⟨#[48]⟩ : ByteArray) ++ ⟨(List.replicate k 48 ++ ds).toArray⟩) = Value.string ⟨(List.replicate (k + 1) 48 ++ ds).toArray⟩ := by
  congr 1

theorem dec_val (x k : Nat) (ds : List UInt8) (hd : Ttl.digs ds) (hne : ds ≠ []) (HV : Hid (Ttl.val 0 ds = x)) :
    Ttl.ttlB (⟨(List.replicate k 48 ++ ds).toArray⟩ : ByteArray).data.toList = decide (x ≤ 4294967295) :=
  Ttl.ttl_decimal ds x k hd hne HV.out

theorem nil_val : Ttl.ttlB (⟨#[]⟩ : ByteArray).data.toList = false := rfl

set_option maxHeartbeats 400000 in
theorem walk' (x z : Nat) (hx : x < 18446744073709551616) (hz : z < 256) (w : World) :
    Calls Trym.prog 3 #[.int .u64 x, .int .u8 z] w fun e w' => e = .returned (.bool true) ∧ Below w.heap.size w w' := by
  go_enter Trym.func3, Trym.ntmps3
  go_wp2_with fail
  refine (utoa_any x _ hx).mono ?_
  rintro e w1 ⟨ds, rfl, hd, hne, hlen, hval, hb⟩
  have HV : Hid (Ttl.val 0 ds = x) := hval
  clear hval
  go_wp2_with fail
  go_loop [5, 6] (fun tv kv => ∃ k : Nat, k ≤ z ∧ kv = .int .u8 k ∧ tv = .string ⟨(List.replicate k 48 ++ ds).toArray⟩) (fun _ kv => z - (intOf kv).toNat)
  case atStart => exact ⟨0, Nat.zero_le _, rfl, rfl⟩
  case round =>
    obtain ⟨k, hk, rfl, rfl⟩ := hrel
    by_cases hlt : k < z
    · go_wp2
      go_round
      case rel => exact ⟨k + 1, by omega, by go_num, zero_cons k ds⟩
      case measure => simp [intOf]; omega
    · go_wp2_with fail
      refine (zzValidTTL_any _ _ ?_).mono ?_
      · simp [ByteArray.size, maxLen]; omega
      rintro e w2 ⟨rfl, rfl⟩
      rw [dec_val x k ds hd hne HV]
      by_cases hle : x ≤ 4294967295
      · have hle' : (x : Int) ≤ 4294967295 := by omega
        rw [decide_eq_true hle]
        go_wp2_with fail
        refine (zzValidTTL_any _ _ (by decide)).mono ?_
        rintro e w3 ⟨rfl, rfl⟩
        rw [nil_val]
        go_wp2
        go_ret
        exact ⟨rfl, hb⟩
      · have hle' : decide ((x : Int) ≤ 4294967295) = false := decide_eq_false (by omega)
        rw [decide_eq_false hle]
        go_wp2_with fail
        refine (zzValidTTL_any _ _ (by decide)).mono ?_
        rintro e w3 ⟨rfl, rfl⟩
        rw [nil_val]
        go_wp2
        go_ret
        exact ⟨rfl, hb⟩

theorem walk (a0 : Int) (a1 : Int) (w0 : (Lit.int .u64 a0).wf = true) (w1 : (Lit.int .u8 a1).wf = true) (w : World) :
    Calls Trym.prog 3 #[.int .u64 a0, .int .u8 a1] w fun e w' => e = .returned (.bool true) ∧ Below w.heap.size w w' := by
  obtain ⟨h0, h0'⟩ := bounds_u64 w0
  obtain ⟨h1, h1'⟩ := bounds_u8 w1
  obtain ⟨x, rfl⟩ := Int.eq_ofNat_of_zero_le h0
  obtain ⟨z, rfl⟩ := Int.eq_ofNat_of_zero_le h1
  exact walk' x z (by omega) (by omega) w

/-! ### THE ROW's STEP: WRITTEN OUT: LEAVE IT -/
set_option maxRecDepth 100000 in
theorem lifted (os : Os) (started : os.Started) (H : Type) (enc : TypeId × Value → H) :
    ReturnsInHanded {} Trym.checked os 3 .any (Rows.fnValidTTLDecimalSpec.pre6 enc Trym.prog Trym.f3 Rows.fnValidTTLDecimalRow.domain false) (Rows.fnValidTTLDecimalSpec.post enc Trym.prog Trym.f3 false true false false) := by
  refine returnsInHanded_of_change (C := Trym.checked) own started (by kernel_rfl) Trym.func3
    (ChangeSpec.witness6 (enc := enc) (C := Trym.checked) false ⟨#[], #[.int .u64 0, .int .u8 0], []⟩ 8 (by kernel_rfl) (by kernel_rfl) (by kernel_rfl) (by kernel_rfl)) ?_
  intro W base args ds gs before hval0 hW hcnd _
  have hval : ∀ (j : Nat) t v, Trym.f3.params[j]? = some t → args[j]? = some v → Value.okWide Trym.prog W .any base t v := hval0
  have hW' := hW
  obtain ⟨p, q, hA0, hV, rfl, hfz, hnd⟩ := hW
  have hA : DataW.TrodAll enc Trym.prog W 0 (fun _ => true) true Trym.f3.params.toList args.toList ds p := hA0
  rw [Trym.params3] at hA hval
  obtain ⟨v0, vs0, d0, ds0, p0, q0, hargs, rfl, rfl, h0, r0⟩ := trodAll_cons hA
  obtain ⟨v1, vs1, d1, ds1, p1, q1, rfl, rfl, rfl, h1, r1⟩ := trodAll_cons r0
  obtain ⟨rfl, rfl, rfl⟩ := trodAll_nil r1
  obtain rfl : args = #[v0, v1] := by cases args; simp_all
  obtain ⟨rfl, rfl⟩ := trodVars_none hV
  obtain ⟨a0, rfl, rfl, rfl, w0⟩ := open_int Trym.underlying22 (hval 0 22 v0 rfl rfl) h0
  obtain ⟨a1, rfl, rfl, rfl, w1⟩ := open_int Trym.underlying5 (hval 1 5 v1 rfl rfl) h1
  clear hA0 hval0
  simp only [List.append_nil] at hW'
  refine (walk a0 a1 w0 w1 W).mono fun e W' ⟨he, hg⟩ => ?_
  subst he
  exact ⟨_, rfl, _, _, _, [], [], [], hW', (trodAll_cons_mk (shut_bool Trym.underlying4 _) trodAll_mk0), (trodAll_cons_mk (shut_int Trym.underlying22 w0) (trodAll_cons_mk (shut_int Trym.underlying5 w1) trodAll_mk0)), rfl, hg.frame _, fun h => by cases h⟩

theorem over : Rows.fnValidTTLDecimalRow.holds Trym.pinned (OpenSpec.ofChange Rows.fnValidTTLDecimalSpec) :=
  OpenClaim.holds_of_wide 3 Trym.f3 rfl rfl rfl rfl rfl rfl rfl ⟨rfl, rfl, rfl, rfl, rfl⟩ rfl rfl rfl rfl rfl (by kernel_rfl) Trym.func3 (by kernel_rfl)
    (of_decide_eq_true (by kernel_rfl)) (by unfold Func.isWrapper; first | (rw [if_pos (by decide +kernel)]; kernel_rfl) | (rw [if_neg (by decide +kernel)]; exact ⟨rfl, rfl⟩))
    (fun os started H enc _ => lifted os started H enc)

/-- ████ THE STATEMENT ████ -/
theorem proved : Rows.FnValidTTLDecimalSaid :=
  over
end Go.Proofs.Qxb6000746aMods.fnValidTTLDecimal
