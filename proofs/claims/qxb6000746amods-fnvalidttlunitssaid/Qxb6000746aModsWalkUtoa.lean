/-
  THE WALK OF utoa. By an AI agent.
-/
import Derived.Test.Qxb6000746aModsRows
import Derived.Test.Qxb6000746aModsStepsTTL
import Derived.WalkKit
import Derived.ProofKit
import Derived.Laws.IdiomStrings
namespace Go.Proofs.Qxb6000746aMods
open Go.ChangeShapes Go.WideShapes Go.ChangeAt Go.RowKit

namespace Ttl
/-- What holds at the head of utoa's round: the digits acc lie at the array's end, x' is what is left of x0. -/
def UInv (x0 x' i' : Nat) (acc : List UInt8) (arr : Array Value) : Prop :=
  i' + acc.length = 20 ∧ x' < 10 ^ i' ∧ digs acc ∧ val x' acc = x0 ∧ arr.size = 20 ∧ (∀ j, (h : j < acc.length) → arr[i' + j]? = some (.int .u8 (acc[j].toNat : Int)))

theorem uinv_start (x : Nat) (arr : Array Value) (hx : x < 18446744073709551616) (h : arr.size = 20) : UInv x x 20 [] arr :=
  ⟨by simp, Nat.lt_of_lt_of_le hx (by decide), digs_nil, rfl, h, fun j hj => absurd hj (by simp)⟩

theorem uinv_pos {x0 x' i' : Nat} {acc : List UInt8} {arr : Array Value} (h : UInv x0 x' i' acc arr) (hp : x' ≠ 0) : 1 ≤ i' := by
  have h2 := h.2.1
  cases i' with
  | zero => simp at h2; omega
  | succ i => omega

theorem uinv_lt {x0 x' i' : Nat} {acc : List UInt8} {arr : Array Value} (h : UInv x0 x' i' acc arr) (hx : x0 < 18446744073709551616) : x' < 18446744073709551616 := by
  have := val_ge acc x'
  rw [h.2.2.2.1] at this
  omega

theorem uinv_step {x0 x' i : Nat} {acc : List UInt8} {arr : Array Value} (h : UInv x0 x' (i + 1) acc arr) :
    UInv x0 (x' / 10) i (UInt8.ofNat (48 + x' % 10) :: acc) (arr.setIfInBounds i (.int .u8 (48 + (x' : Int) % 10))) := by
  obtain ⟨h1, h2, h3, h4, h5, h6⟩ := h
  have hc : (UInt8.ofNat (48 + x' % 10)).toNat = 48 + x' % 10 := by
    rw [UInt8.toNat_ofNat']
    omega
  refine ⟨by simp; omega, ?_, digs_cons _ _ x' hc h3, by rw [val_step x' _ acc hc]; exact h4, by simpa using h5, ?_⟩
  · rw [Nat.pow_succ] at h2
    omega
  · intro j hj
    rw [Array.getElem?_setIfInBounds]
    cases j with
    | zero =>
      rw [if_pos (by omega), if_pos (by omega)]
      simp only [List.getElem_cons_zero]
      rw [hc]
      have e : (48 : Int) + (x' : Int) % 10 = ((48 + x' % 10 : Nat) : Int) := by omega
      rw [e]
    | succ j =>
      rw [if_neg (by omega)]
      have := h6 j (by simpa using hj)
      rw [show i + (j + 1) = i + 1 + j from by omega, this]
      simp

theorem uinv_ne {x0 i' : Nat} {acc : List UInt8} {arr : Array Value} (h : UInv x0 0 i' acc arr) (hx : x0 ≠ 0) : acc ≠ [] := by
  intro e
  subst e
  have := h.2.2.2.1
  exact hx this.symm
end Ttl

theorem Trym.elem35 : Trym.prog.underlying 35 = some (.array 20 5) := by kernel_rfl
theorem Trym.cells5 : Trym.prog.cellsOf 5 = 1 := by kernel_rfl

theorem slice35 (B i : Nat) (hi : i < 20) (w : World) : (Instr.sliceAt 35 (.pointer (some ⟨B, 0, none⟩)) (some (.int .i64 (i : Int))) none none).run Trym.prog w = .ok (.slice (some ⟨B, i, none⟩) (20 - i) (20 - i)) w := by
  rw [run_sliceAt_array_l (P := Trym.prog) w 35 ⟨B, 0, none⟩ (by kernel_rfl) .i64 (i : Int) (by omega) (by rw [show Trym.prog.arrayLen 35 = 20 from by kernel_rfl]; omega)]
  rw [show Trym.prog.arrayLen 35 = 20 from by kernel_rfl, show Trym.prog.elem 35 = 5 from by kernel_rfl]
  have hne : ¬ (20 = i) := by omega
  simp [slicedAt, hne, Addr.add, go_sem]
  exact fun h => h.symm

set_option maxHeartbeats 400000 in
theorem utoa_any (x : Nat) (w : World) (hx : x < 18446744073709551616) :
    Calls Trym.prog 9 #[.int .u64 x] w fun e w' => ∃ ds : List UInt8, e = .returned (.string ⟨ds.toArray⟩) ∧ Ttl.digs ds ∧ ds ≠ [] ∧ ds.length ≤ 20 ∧ Ttl.val 0 ds = x ∧ Below w.heap.size w w' := by
  by_cases h0 : x = 0
  · subst h0
    go_enter Trym.func9, Trym.ntmps9
    go_wp2
    go_ret
    exact ⟨[48], rfl, by intro c hc; simp at hc; subst hc; decide, by simp, by simp, by decide, Below.refl _ _⟩
  · have h0' : ((x : Int) == 0) = false := by rw [beq_eq_false_iff_ne]; omega
    go_enter Trym.func9, Trym.ntmps9
    go_wp2
    go_loopw [0, 4] (fun xv iv wr => ∃ (x' i' : Nat) (acc : List UInt8) (arr : Array Value), xv = .int .u64 x' ∧ iv = .int .i64 i' ∧ wr = w.alloc (.cells arr 35) ∧ Ttl.UInv x x' i' acc arr)
      (fun xv _ _ => (intOf xv).toNat)
    case atStart => exact ⟨x, 20, [], _, rfl, rfl, rfl, Ttl.uinv_start x _ hx rfl⟩
    case round =>
      obtain ⟨x', i', acc, arr, rfl, rfl, rfl, HI⟩ := hrel
      have hi20 : i' ≤ 20 := by have := HI.1; omega
      by_cases hpos : x' = 0
      · subst hpos
        have hne := Ttl.uinv_ne HI h0
        have hi : i' < 20 := by
          have := HI.1
          have := List.length_pos_iff.2 hne
          omega
        have hlen : Hid (acc.length = 20 - i') := by have := HI.1; show _ = _; omega
        have hsl := slice35 w.heap.size i' hi
        have hcv := run_convert_bytes_back (P := Trym.prog) (w.alloc (.cells arr 35)) 27 9 5 ⟨w.heap.size, i', none⟩ (20 - i') acc Trym.underlying27 Trym.underlying5 Trym.underlying9
          (fun j hj => by
            have := HI.2.2.2.2.2 j hj
            rw [add_plain, World.cell?_alloc_mark]
            exact this)
        rw [hlen.out] at hcv
        go_wp2
        go_ret
        exact ⟨acc, rfl, HI.2.2.1, hne, by have := HI.1; omega, HI.2.2.2.1, (Below.refl _ _).alloc (Nat.le_refl _) _⟩
      · have hi1 := Ttl.uinv_pos HI hpos
        have hx' := Ttl.uinv_lt HI hx
        obtain ⟨i, rfl⟩ : ∃ i, i' = i + 1 := ⟨i' - 1, by omega⟩
        obtain ⟨vo, hvo⟩ : ∃ v, arr[i]? = some v := ⟨arr[i]'(by have := HI.2.2.2.2.1; omega), Array.getElem?_eq_getElem _⟩
        go_wp2
        go_roundw
        case rel => exact ⟨x' / 10, i, _, _, by go_num, rfl, rfl, Ttl.uinv_step HI⟩
        case measure => simp [intOf]; omega
end Go.Proofs.Qxb6000746aMods
