/-
  THE WALK OF FnDomainEndIsLongestDomain. By an AI agent.
-/
import Derived.Test.Qxb6000746aModsRows
import Derived.Test.Qxb6000746aModsWalkIsDom
import Derived.WalkKit
import Derived.ProofKit
namespace Go.Proofs.Qxb6000746aMods
open Go.ChangeShapes Go.WideShapes Go.ChangeAt Go.RowKit

set_option maxHeartbeats 400000 in
theorem zzBytes15 (v : ByteArray) (i : Int) (w : World) (hv : v.size ≤ maxLen) :
    Calls Trym.prog 15 #[.string v, .int .i64 i] w fun e w' => e = .returned (.bool (decide (v.size ≤ 1048576))) ∧ w' = w := by
  unfold maxLen at hv
  by_cases h1 : 1048576 < v.size
  · go_enter Trym.func15, Trym.ntmps15
    go_wp2
    go_ret
    exact ⟨Dom.ret_bool (by simp; omega), rfl⟩
  · go_enter Trym.func15, Trym.ntmps15
    go_wp2
    go_ret
    exact ⟨Dom.ret_bool (by simp; omega), rfl⟩

namespace Dom
theorem ext_le (v : ByteArray) (a b : Nat) : (v.extract a b).size ≤ v.size := by
  rw [ByteArray.size_extract]
  omega
/-- No end behind k is a name's. -/
def NoDom (v : ByteArray) (i k : Nat) : Prop := ∀ k', k < k' → k' ≤ v.data.toList.length → isDom ((v.data.toList.drop i).take (k' - i)) = false
theorem noDom_start (v : ByteArray) (i : Nat) : NoDom v i v.size := fun k' h1 h2 => by rw [len_str] at h2; omega
theorem noDom_step {v : ByteArray} {i k : Nat} (h : NoDom v i (k + 1)) (hb : isDom ((v.data.toList.drop i).take (k + 1 - i)) = false) : NoDom v i k := by
  intro k' h1 h2
  rcases Nat.lt_or_ge (k + 1) k' with h3 | h3
  · exact h k' h3 h2
  · rw [show k' = k + 1 from by omega]; exact hb
theorem noDom_step' {v : ByteArray} {i k : Nat} (h : NoDom v i k) (hk : 0 < k) (hb : isDom ((v.data.toList.drop i).take (k - i)) = false) : NoDom v i (k - 1) := by
  obtain ⟨m, rfl⟩ : ∃ m, k = m + 1 := ⟨k - 1, by omega⟩
  exact noDom_step h hb
end Dom

set_option maxHeartbeats 400000 in
theorem walk6 (v : ByteArray) (i : Nat) (w : World) (hv : v.size ≤ 4096) (hi : i ≤ v.size) :
    Calls Trym.prog 6 #[.string v, .int .i64 i] w fun e w' => e = .returned (.bool true) ∧ Below w.heap.size w w' := by
  have h1 : decide ((4096 : Int) < (v.size : Int)) = false := decide_eq_false (by omega)
  have h2 : decide ((i : Int) < 0) = false := decide_eq_false (by omega)
  have h3 : decide (v.size < i) = false := decide_eq_false (by omega)
  go_enter Trym.func6, Trym.ntmps6
  go_wp2_with fail
  refine (zzBytes15 _ _ _ (by unfold maxLen; omega)).mono ?_
  rintro _ w' ⟨rfl, rfl⟩
  rw [decide_eq_true (show v.size ≤ 1048576 by omega)]
  go_wp2_with fail
  go_loop [5, 6] (fun wv kv => ∃ k : Nat, i ≤ k ∧ k ≤ v.size ∧ wv = .int .i64 i ∧ kv = .int .i64 k ∧ Dom.NoDom v i k) (fun _ kv => (intOf kv).toNat)
  case atStart => exact ⟨v.size, hi, Nat.le_refl _, rfl, rfl, Dom.noDom_start v i⟩
  case round =>
    obtain ⟨k, hk1, hk2, rfl, rfl, HN⟩ := hrel
    by_cases hik : i < k
    · cases hb : Dom.isDom ((v.data.toList.drop i).take (k - i)) with
      | true =>
        have HE : Hid (Dom.dEnd v.data.toList i = k) := Dom.dEnd_found v.data.toList i k hik (by rw [Dom.len_str]; exact hk2) hb HN
        have Hb : Hid (Dom.isDom ((v.data.toList.drop i).take (k - i)) = true) := hb
        clear hb
        go_wp2_with fail
        refine (isDomain_any _ _ (Nat.le_trans (Dom.ext_le _ _ _) (by omega))).mono ?_
        rintro _ w' ⟨rfl, rfl⟩
        rw [Dom.ext_str, Hb.out]
        go_wp2_with fail
        refine (zzDomainEnd_any _ _ i _ (by omega) hi rfl).mono ?_
        rintro _ w' ⟨rfl, rfl⟩
        rw [HE.out]
        go_wp2
        go_ret
        exact ⟨rfl, Below.refl _ _⟩
      | false =>
        have Hb : Hid (Dom.isDom ((v.data.toList.drop i).take (k - i)) = false) := hb
        clear hb
        go_wp2_with (go_at_call 16; refine (isDomain_any _ _ (Nat.le_trans (Dom.ext_le _ _ _) (by omega))).mono ?_; rintro _ w' ⟨rfl, rfl⟩; rw [Dom.ext_str, Hb.out])
        go_round
        case rel => exact ⟨k - 1, by omega, by omega, rfl, by go_num, Dom.noDom_step' HN (by omega) Hb⟩
        case measure => simp [intOf]; omega
    · have HE : Hid (Dom.dEnd v.data.toList i = i) := Dom.dEnd_none v.data.toList i (by rw [Dom.len_str]; exact hi) (by rw [show i = k from by omega]; rw [show i = k from by omega] at HN; exact HN)
      go_wp2_with fail
      refine (zzDomainEnd_any _ _ i _ (by omega) hi rfl).mono ?_
      rintro _ w' ⟨rfl, rfl⟩
      rw [HE.out]
      go_wp2
      go_ret
      exact ⟨rfl, Below.refl _ _⟩

theorem walk6_out (v : ByteArray) (i : Int) (w : World) (hv : v.size ≤ maxLen) (hvx : ¬ v.size ≤ 4096) :
    Calls Trym.prog 6 #[.string v, .int .i64 i] w fun e w' => e = .returned (.bool true) ∧ Below w.heap.size w w' := by
  by_cases h : v.size ≤ 1048576
  · have h1 : decide ((4096 : Int) < (v.size : Int)) = true := decide_eq_true (by omega)
    go_enter Trym.func6, Trym.ntmps6
    go_wp2_with fail
    refine (zzBytes15 _ _ _ hv).mono ?_
    rintro _ w' ⟨rfl, rfl⟩
    rw [decide_eq_true h]
    go_wp2
    go_ret
    exact ⟨rfl, Below.refl _ _⟩
  · go_enter Trym.func6, Trym.ntmps6
    go_wp2_with fail
    refine (zzBytes15 _ _ _ hv).mono ?_
    rintro _ w' ⟨rfl, rfl⟩
    rw [decide_eq_false h]
    go_wp2
    go_ret
    exact ⟨rfl, Below.refl _ _⟩

theorem walk6_off (v : ByteArray) (i : Int) (w : World) (hvx : v.size ≤ 4096) (hi : i < 0 ∨ (v.size : Int) < i) :
    Calls Trym.prog 6 #[.string v, .int .i64 i] w fun e w' => e = .returned (.bool true) ∧ Below w.heap.size w w' := by
  have h1 : decide ((4096 : Int) < (v.size : Int)) = false := decide_eq_false (by omega)
  rcases hi with hi | hi
  · go_enter Trym.func6, Trym.ntmps6
    go_wp2_with fail
    refine (zzBytes15 _ _ _ (by unfold maxLen; omega)).mono ?_
    rintro _ w' ⟨rfl, rfl⟩
    rw [decide_eq_true (show v.size ≤ 1048576 by omega)]
    go_wp2
    go_ret
    exact ⟨rfl, Below.refl _ _⟩
  · have h4 : ¬ i < 0 := by omega
    go_enter Trym.func6, Trym.ntmps6
    go_wp2_with fail
    refine (zzBytes15 _ _ _ (by unfold maxLen; omega)).mono ?_
    rintro _ w' ⟨rfl, rfl⟩
    rw [decide_eq_true (show v.size ≤ 1048576 by omega)]
    go_wp2
    go_ret
    exact ⟨rfl, Below.refl _ _⟩
end Go.Proofs.Qxb6000746aMods
