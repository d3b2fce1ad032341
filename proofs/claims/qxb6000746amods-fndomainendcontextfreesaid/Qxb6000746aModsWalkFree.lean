/-
  THE WALK OF FnDomainEndContextFree. By an AI agent.
-/
import Derived.Test.Qxb6000746aModsRows
import Derived.Test.Qxb6000746aModsWalkDom
import Derived.WalkKit
import Derived.ProofKit
namespace Go.Proofs.Qxb6000746aMods
open Go.ChangeShapes Go.WideShapes Go.ChangeAt Go.RowKit

set_option maxHeartbeats 400000 in
theorem zzBytes18 (v x : ByteArray) (i : Int) (w : World) (hv : v.size ≤ maxLen) (hx : x.size ≤ maxLen) :
    Calls Trym.prog 18 #[.string v, .string x, .int .i64 i] w fun e w' => e = .returned (.bool (decide (v.size + x.size ≤ 1048576))) ∧ w' = w := by
  unfold maxLen at hv hx
  by_cases h1 : 1048576 < v.size
  · go_enter Trym.func18, Trym.ntmps18
    go_wp2
    go_ret
    exact ⟨Dom.ret_bool (by simp; omega), rfl⟩
  · by_cases h2 : 1048576 < x.size
    · go_enter Trym.func18, Trym.ntmps18
      go_wp2
      go_ret
      exact ⟨Dom.ret_bool (by simp; omega), rfl⟩
    · by_cases h3 : 1048576 < v.size + x.size
      · go_enter Trym.func18, Trym.ntmps18
        go_wp2
        go_ret
        exact ⟨Dom.ret_bool (by simp; omega), rfl⟩
      · go_enter Trym.func18, Trym.ntmps18
        go_wp2
        go_ret
        exact ⟨Dom.ret_bool (by simp; omega), rfl⟩

namespace Dom
theorem ext_list (v : ByteArray) (a b : Nat) : (v.extract a b).data.toList = (v.data.toList.drop a).take (b - a) := by
  rw [ByteArray.data_extract, Array.toList_extract, List.extract_eq_take_drop]
theorem app_list (x v : ByteArray) : (x ++ v).data.toList = x.data.toList ++ v.data.toList := by
  rw [ByteArray.data_append, Array.toList_append]
theorem len_list (v : ByteArray) : v.data.toList.length = v.size := by simp
theorem cf_from (v : ByteArray) (i e : Nat) (HE : Hid (dEnd v.data.toList i = e)) : dEnd (v.extract i v.size).data.toList 0 = e - i := by
  rw [ext_list, List.take_of_length_le (by simp), dEnd_from, HE.out]
theorem cf_ahead (x v : ByteArray) (i e : Nat) (HE : Hid (dEnd v.data.toList i = e)) : dEnd (x ++ v).data.toList (x.size + i) = x.size + e := by
  rw [app_list, ← len_list x, dEnd_ahead, HE.out]
theorem cf_semi (x v : ByteArray) (i e : Nat) (hi : i ≤ v.size) (HE : Hid (dEnd v.data.toList i = e)) : dEnd (v ++ ⟨#[59]⟩ ++ x).data.toList i = e := by
  rw [app_list, app_list, List.append_assoc]
  have := dEnd_semi v.data.toList x.data.toList i (by rw [len_list]; exact hi)
  rw [HE.out] at this
  exact this
end Dom

set_option maxHeartbeats 400000 in
theorem walk7 (v x : ByteArray) (i : Nat) (w : World) (hvx : v.size + x.size ≤ 1048576) (hi : i ≤ v.size) :
    Calls Trym.prog 7 #[.string v, .string x, .int .i64 i] w fun e w' => e = .returned (.bool true) ∧ Below w.heap.size w w' := by
  have hge := Dom.dEnd_ge v.data.toList i
  have hle := Dom.dEnd_le v.data.toList i (by rw [Dom.len_list]; exact hi)
  rw [Dom.len_list] at hle
  generalize hE : Dom.dEnd v.data.toList i = e at hge hle
  have HE : Hid (Dom.dEnd v.data.toList i = e) := hE
  clear hE
  go_enter Trym.func7, Trym.ntmps7
  go_wp2_with fail
  refine (zzBytes18 _ _ _ _ (by unfold maxLen; omega) (by unfold maxLen; omega)).mono ?_
  rintro _ w' ⟨rfl, rfl⟩
  rw [decide_eq_true hvx]
  go_wp2_with fail
  refine (zzDomainEnd_any _ _ i _ (by omega) hi rfl).mono ?_
  rintro _ w' ⟨rfl, rfl⟩
  rw [HE.out]
  go_wp2_with fail
  refine (zzDomainEnd_any _ _ 0 _ (by simp; omega) (by omega) rfl).mono ?_
  rintro _ w' ⟨rfl, rfl⟩
  rw [Dom.cf_from v i e HE, show ((e - i : Nat) : Int) = (e : Int) - (i : Int) from by omega]
  go_wp2_with fail
  refine (zzDomainEnd_any _ _ (x.size + i) _ (by rw [ByteArray.size_append]; omega) (by rw [ByteArray.size_append]; omega) (by omega)).mono ?_
  rintro _ w' ⟨rfl, rfl⟩
  rw [Dom.cf_ahead x v i e HE, show ((x.size + e : Nat) : Int) = (x.size : Int) + (e : Int) from by omega]
  go_wp2_with fail
  refine (zzDomainEnd_any _ _ i _ (by rw [ByteArray.size_append, ByteArray.size_append]; show v.size + 1 + x.size ≤ _; omega) (by rw [ByteArray.size_append, ByteArray.size_append]; omega) rfl).mono ?_
  rintro _ w' ⟨rfl, rfl⟩
  rw [Dom.cf_semi x v i e hi HE]
  go_wp2
  go_ret
  exact ⟨rfl, Below.refl _ _⟩

theorem walk7_out (v x : ByteArray) (i : Int) (w : World) (hv : v.size ≤ maxLen) (hx : x.size ≤ maxLen) (hvx : ¬ v.size + x.size ≤ 1048576) :
    Calls Trym.prog 7 #[.string v, .string x, .int .i64 i] w fun e w' => e = .returned (.bool true) ∧ Below w.heap.size w w' := by
  go_enter Trym.func7, Trym.ntmps7
  go_wp2_with fail
  refine (zzBytes18 _ _ _ _ hv hx).mono ?_
  rintro _ w' ⟨rfl, rfl⟩
  rw [decide_eq_false hvx]
  go_wp2
  go_ret
  exact ⟨rfl, Below.refl _ _⟩

theorem walk7_off (v x : ByteArray) (i : Int) (w : World) (hvx : v.size + x.size ≤ 1048576) (hi : i < 0 ∨ (v.size : Int) < i) :
    Calls Trym.prog 7 #[.string v, .string x, .int .i64 i] w fun e w' => e = .returned (.bool true) ∧ Below w.heap.size w w' := by
  have h1 : decide ((1048576 : Int) < (v.size : Int)) = false := decide_eq_false (by omega)
  have h2 : decide ((1048576 : Int) < (x.size : Int)) = false := decide_eq_false (by omega)
  have h3 : decide ((1048576 : Int) < (v.size : Int) + (x.size : Int)) = false := decide_eq_false (by omega)
  rcases hi with hi | hi
  · go_enter Trym.func7, Trym.ntmps7
    go_wp2_with fail
    refine (zzBytes18 _ _ _ _ (by unfold maxLen; omega) (by unfold maxLen; omega)).mono ?_
    rintro _ w' ⟨rfl, rfl⟩
    rw [decide_eq_true hvx]
    go_wp2
    go_ret
    exact ⟨rfl, Below.refl _ _⟩
  · have h4 : ¬ i < 0 := by omega
    go_enter Trym.func7, Trym.ntmps7
    go_wp2_with fail
    refine (zzBytes18 _ _ _ _ (by unfold maxLen; omega) (by unfold maxLen; omega)).mono ?_
    rintro _ w' ⟨rfl, rfl⟩
    rw [decide_eq_true hvx]
    go_wp2
    go_ret
    exact ⟨rfl, Below.refl _ _⟩
end Go.Proofs.Qxb6000746aMods
