/-
  THE WALK OF FnDomainEndCutAtEnd. By an AI agent.
-/
import Derived.Test.Qxb6000746aModsRows
import Derived.Test.Qxb6000746aModsWalkIsDom
import Derived.WalkKit
import Derived.ProofKit
namespace Go.Proofs.Qxb6000746aMods
open Go.ChangeShapes Go.WideShapes Go.ChangeAt Go.RowKit

set_option maxHeartbeats 400000 in
theorem zzBytes19 (v : ByteArray) (i : Int) (w : World) (hv : v.size ≤ maxLen) :
    Calls Trym.prog 19 #[.string v, .int .i64 i] w fun e w' => e = .returned (.bool (decide (v.size ≤ 1048576))) ∧ w' = w := by
  unfold maxLen at hv
  by_cases h1 : 1048576 < v.size
  · go_enter Trym.func19, Trym.ntmps19
    go_wp2
    go_ret
    exact ⟨Dom.ret_bool (by simp; omega), rfl⟩
  · go_enter Trym.func19, Trym.ntmps19
    go_wp2
    go_ret
    exact ⟨Dom.ret_bool (by simp; omega), rfl⟩

namespace Dom
theorem cut_dom (v : ByteArray) (i e : Nat) (HE : Hid (dEnd v.data.toList i = e)) (hne : i < e) : isDom (v.extract i e).data.toList = true := by
  rw [ext_str]
  rcases dEnd_dom v.data.toList i with h | h
  · have := HE.out; omega
  · rw [HE.out] at h; exact h
theorem cut_again (v : ByteArray) (i e : Nat) (HE : Hid (dEnd v.data.toList i = e)) (hi : i ≤ v.size) : dEnd (v.extract 0 e).data.toList i = e := by
  rw [ext_str, List.drop_zero, Nat.sub_zero]
  have := dEnd_cut v.data.toList i (by rw [len_str]; exact hi)
  rw [HE.out] at this
  exact this
end Dom

set_option maxHeartbeats 400000 in
theorem walk8 (v : ByteArray) (i : Nat) (w : World) (hv : v.size ≤ 1048576) (hi : i ≤ v.size) :
    Calls Trym.prog 8 #[.string v, .int .i64 i] w fun e w' => e = .returned (.bool true) ∧ Below w.heap.size w w' := by
  have hge := Dom.dEnd_ge v.data.toList i
  have hle := Dom.dEnd_le v.data.toList i (by rw [Dom.len_str]; exact hi)
  rw [Dom.len_str] at hle
  generalize hE : Dom.dEnd v.data.toList i = e at hge hle
  have HE : Hid (Dom.dEnd v.data.toList i = e) := hE
  clear hE
  by_cases hne : i < e
  · have hne' : ((e : Int) == (i : Int)) = false := by rw [beq_eq_false_iff_ne]; omega
    go_enter Trym.func8, Trym.ntmps8
    go_wp2_with fail
    refine (zzBytes19 _ _ _ (by unfold maxLen; omega)).mono ?_
    rintro _ w' ⟨rfl, rfl⟩
    rw [decide_eq_true hv]
    go_wp2_with fail
    refine (zzDomainEnd_any _ _ i _ (by omega) hi rfl).mono ?_
    rintro _ w' ⟨rfl, rfl⟩
    rw [HE.out]
    go_wp2_with fail
    refine (isDomain_any _ _ (by simp; omega)).mono ?_
    rintro _ w' ⟨rfl, rfl⟩
    rw [Dom.cut_dom v i e HE hne]
    go_wp2_with fail
    refine (zzDomainEnd_any _ _ i _ (by simp; omega) (by simp; omega) rfl).mono ?_
    rintro _ w' ⟨rfl, rfl⟩
    rw [Dom.cut_again v i e HE hi]
    go_wp2
    go_ret
    exact ⟨rfl, Below.refl _ _⟩
  · obtain rfl : i = e := by omega
    clear hne hge
    go_enter Trym.func8, Trym.ntmps8
    go_wp2_with fail
    refine (zzBytes19 _ _ _ (by unfold maxLen; omega)).mono ?_
    rintro _ w' ⟨rfl, rfl⟩
    rw [decide_eq_true hv]
    go_wp2_with fail
    refine (zzDomainEnd_any _ _ i _ (by omega) hi rfl).mono ?_
    rintro _ w' ⟨rfl, rfl⟩
    rw [HE.out]
    go_wp2_with fail
    refine (zzDomainEnd_any _ _ i _ (by simp; omega) (by simp; omega) rfl).mono ?_
    rintro _ w' ⟨rfl, rfl⟩
    rw [Dom.cut_again v i i HE hi]
    go_wp2
    go_ret
    exact ⟨rfl, Below.refl _ _⟩

theorem walk8_out (v : ByteArray) (i : Int) (w : World) (hv : v.size ≤ maxLen) (hvx : ¬ v.size ≤ 1048576) :
    Calls Trym.prog 8 #[.string v, .int .i64 i] w fun e w' => e = .returned (.bool true) ∧ Below w.heap.size w w' := by
  go_enter Trym.func8, Trym.ntmps8
  go_wp2_with fail
  refine (zzBytes19 _ _ _ hv).mono ?_
  rintro _ w' ⟨rfl, rfl⟩
  rw [decide_eq_false hvx]
  go_wp2
  go_ret
  exact ⟨rfl, Below.refl _ _⟩

theorem walk8_off (v : ByteArray) (i : Int) (w : World) (hvx : v.size ≤ 1048576) (hi : i < 0 ∨ (v.size : Int) < i) :
    Calls Trym.prog 8 #[.string v, .int .i64 i] w fun e w' => e = .returned (.bool true) ∧ Below w.heap.size w w' := by
  have h1 : decide ((1048576 : Int) < (v.size : Int)) = false := decide_eq_false (by omega)
  rcases hi with hi | hi
  · go_enter Trym.func8, Trym.ntmps8
    go_wp2_with fail
    refine (zzBytes19 _ _ _ (by unfold maxLen; omega)).mono ?_
    rintro _ w' ⟨rfl, rfl⟩
    rw [decide_eq_true hvx]
    go_wp2
    go_ret
    exact ⟨rfl, Below.refl _ _⟩
  · have h4 : ¬ i < 0 := by omega
    go_enter Trym.func8, Trym.ntmps8
    go_wp2_with fail
    refine (zzBytes19 _ _ _ (by unfold maxLen; omega)).mono ?_
    rintro _ w' ⟨rfl, rfl⟩
    rw [decide_eq_true hvx]
    go_wp2
    go_ret
    exact ⟨rfl, Below.refl _ _⟩
end Go.Proofs.Qxb6000746aMods
