/-
  THE WALK OF appendUnit: a buffer of bytes of the call's own, carried from append to append. By an AI agent.
-/
import Derived.Test.Qxb6000746aModsRows
import Derived.Test.Qxb6000746aModsWalkUtoa
import Derived.WalkKit
import Derived.ProofKit
import Derived.OwnWalk
import Derived.Lib.BufSteps
namespace Go.Proofs.Qxb6000746aMods
open Go.ChangeShapes Go.WideShapes Go.ChangeAt Go.RowKit

theorem Trym.info5 : (Trym.prog.info? 5).map (fun i => (i.zero, i.size, i.bytes)) = some (some (.int .u8 0), 1, 1) := by kernel_rfl

namespace Ttl
def cellsOf (L : List UInt8) : List Value := L.map fun b => Value.int .u8 b.toNat
/-- The slice v holds the bytes L, in memory of the call's own (from block B on); of what lay below B in W0 nothing has turned. -/
def Buf (B : Nat) (W0 : World) (L : List UInt8) (v : Value) (w : World) : Prop := Lib.OwnBuf B 5 v L.length (cellsOf L) W0 w

theorem Buf.grow {B : Nat} {W0 : World} {L : List UInt8} {v : Value} {w w' : World} (h : Buf B W0 L v w) (hb : Below w.heap.size w w') : Buf B W0 L v w' := by
  have hg : w.grownBy w' none := ⟨hb.os, hb.tape, hb.output, hb.size, fun k hk _ => hb.block k hk⟩
  refine ⟨h.1.kept hg ?_, h.2.1.trans (hb.mono h.2.2), Nat.le_trans h.2.2 hb.size⟩
  cases hv : v.ownBlock with
  | none => exact .inl rfl
  | some k => exact .inr (by simp)

theorem cellsOf_str (L ds : List UInt8) : cellsOf L ++ Lib.strCells ⟨ds.toArray⟩ = cellsOf (L ++ ds) := by
  simp [cellsOf, Lib.strCells]

theorem Buf.text {B : Nat} {W0 : World} {L ds : List UInt8} {v : Value} {w : World} (h : Lib.OwnBuf B 5 v (L.length + (⟨ds.toArray⟩ : ByteArray).size) (cellsOf L ++ Lib.strCells ⟨ds.toArray⟩) W0 w) : Buf B W0 (L ++ ds) v w := by
  rw [cellsOf_str] at h
  unfold Buf
  rw [List.length_append]
  exact h

theorem Buf.byte {B : Nat} {W0 : World} {L : List UInt8} {v : Value} {w : World} (u : UInt8) (c : Int) (n : Nat) (hn : n = L.length) (hc : c = (u.toNat : Int)) (h : Lib.OwnBuf B 5 v (n + 1) (cellsOf L ++ [.int .u8 c]) W0 w) : Buf B W0 (L ++ [u]) v w := by
  subst hc
  subst hn
  have e : cellsOf L ++ [Value.int .u8 (u.toNat : Int)] = cellsOf (L ++ [u]) := by simp [cellsOf]
  rw [e] at h
  unfold Buf
  rw [List.length_append]
  exact h

theorem sub32 (u : UInt8) (hu : 32 ≤ u.toNat) : (u.toNat : Int) - 32 = ((u - 32).toNat : Int) := by
  have h : (32 : UInt8) ≤ u := UInt8.le_iff_toNat_le.2 (by simpa using hu)
  have h2 := UInt8.toNat_sub_of_le u 32 h
  rw [h2]
  have h3 : (32 : UInt8).toNat = 32 := rfl
  rw [h3]
  omega
end Ttl

set_option maxHeartbeats 400000 in
theorem appendUnit_any (B : Nat) (W0 : World) (L : List UInt8) (v : Value) (x : Nat) (u : UInt8) (up : Bool) (w : World) (hx : x < 4294967296) (hL : L.length ≤ 1000) (hu : 32 ≤ u.toNat) (hb : Ttl.Buf B W0 L v w) :
    Calls Trym.prog 11 #[v, .int .u32 x, .int .u8 u.toNat, .bool up] w fun e w' => ∃ (v' : Value) (ds : List UInt8), e = .returned v' ∧ Ttl.digs ds ∧ ds ≠ [] ∧ ds.length ≤ 20 ∧ Ttl.val 0 ds = x ∧
      Ttl.Buf B W0 (L ++ (ds ++ [if up then u - 32 else u])) v' w' := by
  obtain ⟨i0, hi, hz0, hz1, hz2⟩ := info_parts Trym.info5
  have hu' := UInt8.toNat_lt u
  go_enter Trym.func11, Trym.ntmps11
  go_wp2_with fail
  refine (utoa_any x _ (by omega)).mono ?_
  rintro e w1 ⟨ds, rfl, hd, hne, hlen, hval, hbel⟩
  have HV : Hid (Ttl.val 0 ds = x) := hval
  clear hval
  have hb1 := hb.grow hbel
  go_wp2_with (first | (at_builtin; refine Lib.wpList_append_text rfl (.tmp 9) (.tmp 12) 27 9 rfl B 5 i0 Trym.underlying27 Trym.underlying9 hi hz0 hz1 hz2 _ _ _ rfl W0 hb1 ⟨ds.toArray⟩ rfl ?hl ?_) | fail)
  case hl => simp [ByteArray.size]; omega
  intro v1 w2 hb2
  have hb3 := Ttl.Buf.text hb2
  clear hb2 hb1 hb
  cases up with
  | false =>
    go_wp2_with (first | (at_builtin; refine Lib.wpList_append_byte rfl (.tmp 17) (.tmp 19) 27 rfl B 5 i0 Trym.underlying27 hi hz0 hz1 hz2 _ _ _ rfl W0 w2 (u.toNat : Int) hb3 rfl ?hl2 ?_) | fail)
    case hl2 => rw [List.length_append]; omega
    intro v2 w3 hb4
    have hb5 := Ttl.Buf.byte u _ _ (by rw [List.length_append]) rfl hb4
    clear hb4
    go_wp2
    go_ret
    exact ⟨v2, rfl, ds, hd, hne, hlen, HV.out, by rw [← List.append_assoc]; exact hb5⟩
  | true =>
    go_wp2_with (first | (at_builtin; refine Lib.wpList_append_byte rfl (.tmp 17) (.tmp 19) 27 rfl B 5 i0 Trym.underlying27 hi hz0 hz1 hz2 _ _ _ rfl W0 w2 ((u.toNat : Int) - 32) hb3 rfl ?hl3 ?_) | fail)
    case hl3 => rw [List.length_append]; omega
    intro v2 w3 hb4
    have hb5 := Ttl.Buf.byte (u - 32) _ _ (by rw [List.length_append]) (Ttl.sub32 u hu) hb4
    clear hb4
    go_wp2
    go_ret
    exact ⟨v2, rfl, ds, hd, hne, hlen, HV.out, by rw [← List.append_assoc]; exact hb5⟩
end Go.Proofs.Qxb6000746aMods
