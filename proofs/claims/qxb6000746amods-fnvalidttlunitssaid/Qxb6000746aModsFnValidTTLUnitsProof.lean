/-
  THE PROOF OF 'Rows.FnValidTTLUnitsSaid': the frame is the shell's; the walk is told by 'Below'. By an AI agent.
-/
import Derived.Test.Qxb6000746aModsRows
import Derived.Test.Qxb6000746aModsWalkTTL
import Derived.Test.Qxb6000746aModsWalkAppend
import Derived.WalkKit
import Derived.ProofKit
import Derived.OpenShut
import Derived.ShutString
import Derived.OwnWalk
import Derived.Lib.BufSteps
import Derived.Laws.IdiomStrings
namespace Go.Proofs.Qxb6000746aMods
open Go.ChangeShapes Go.WideShapes Go.ChangeAt Go.RowKit

theorem Ttl.Buf.conv {B : Nat} {W0 : World} {L : List UInt8} {v : Value} {w : World} (h : Ttl.Buf B W0 L v w) (hne : L ≠ []) :
    (convert 27 9 v).run Trym.prog w = .ok (.string ⟨L.toArray⟩) w := by
  have hc := h.1
  rcases h.1.2 with ⟨_, h0⟩ | ⟨g, cap, cur, fz, hv, _⟩
  · exact absurd (List.length_eq_zero_iff.1 h0) hne
  · subst hv
    refine run_convert_bytes_back (P := Trym.prog) w 27 9 5 ⟨g, 0, none⟩ cap L Trym.underlying27 Trym.underlying5 Trym.underlying9 ?_
    intro j hj
    refine hc.cells (g := g) rfl j _ ?_
    simp [Ttl.cellsOf, List.getElem?_eq_getElem hj]

namespace fnValidTTLUnits
open Go.ChangeMaps (open_string shut_string)
set_option linter.unusedVariables false

theorem own : ownKnob Trym.prog.godebug = none := by kernel_rfl

theorem law_units (d1 d2 d3 d4 d5 tail : List UInt8) (up : Bool) (a b c d s : Nat) (g1 : Ttl.digs d1) (g2 : Ttl.digs d2) (g3 : Ttl.digs d3) (g4 : Ttl.digs d4) (g5 : Ttl.digs d5)
    (n1 : d1 ≠ []) (n2 : d2 ≠ []) (n3 : d3 ≠ []) (n4 : d4 ≠ []) (n5 : d5 ≠ [])
    (K1 : Hid (Ttl.val 0 d1 = a)) (K2 : Hid (Ttl.val 0 d2 = b)) (K3 : Hid (Ttl.val 0 d3 = c)) (K4 : Hid (Ttl.val 0 d4 = d)) (K5 : Hid (Ttl.val 0 d5 = s))
    (ha : a ≤ 4294967295) (hb : b ≤ 4294967295) (hc : c ≤ 4294967295) (hd : d ≤ 4294967295) (hs : s ≤ 4294967295)
    (ht : tail = [] ∨ tail = [115] ∨ tail = [83]) {L : List UInt8}
    (hL : L = d1 ++ (if up then 119 - 32 else 119) :: (d2 ++ (if up then 100 - 32 else 100) :: (d3 ++ (if up then 104 - 32 else 104) :: (d4 ++ (if up then 109 - 32 else 109) :: (d5 ++ tail))))) :
    Ttl.ttlB (⟨L.toArray⟩ : ByteArray).data.toList = decide (a * 604800 + b * 86400 + c * 3600 + d * 60 + s ≤ 4294967295) := by
  subst hL
  exact Ttl.ttl_units d1 d2 d3 d4 d5 tail _ _ _ _ a b c d s g1 g2 g3 g4 g5 n1 n2 n3 n4 n5 K1.out K2.out K3.out K4.out K5.out ha hb hc hd hs
    (by cases up <;> simp) (by cases up <;> simp) (by cases up <;> simp) (by cases up <;> simp) ht

set_option maxHeartbeats 400000 in
theorem walkU (a b c d s : Nat) (up : Bool) (w : World) (ha : a < 4294967296) (hb : b < 4294967296) (hc : c < 4294967296) (hd : d < 4294967296) (hs : s < 4294967296) :
    Calls Trym.prog 4 #[.int .u32 a, .int .u32 b, .int .u32 c, .int .u32 d, .int .u32 s, .bool up, .bool false] w fun e w' => e = .returned (.bool true) ∧ Below w.heap.size w w' := by
  have B0 : Ttl.Buf w.heap.size w [] (.slice none 0 0) w := ⟨World.ownsRowF_nil _ _ _ _, Below.refl _ _, Nat.le_refl _⟩
  go_enter Trym.func4, Trym.ntmps4
  go_wp2_with fail
  refine (appendUnit_any _ _ _ _ a 119 up _ ha (by simp) (by decide) B0).mono ?_
  rintro e w1 ⟨v1, d1, rfl, g1, n1, l1, k1, B1⟩
  have K1 : Hid (Ttl.val 0 d1 = a) := k1
  clear k1 B0
  go_wp2_with fail
  refine (appendUnit_any _ _ _ _ b 100 up _ hb (by simp; omega) (by decide) B1).mono ?_
  rintro e w2 ⟨v2, d2, rfl, g2, n2, l2, k2, B2⟩
  have K2 : Hid (Ttl.val 0 d2 = b) := k2
  clear k2 B1
  go_wp2_with fail
  refine (appendUnit_any _ _ _ _ c 104 up _ hc (by simp; omega) (by decide) B2).mono ?_
  rintro e w3 ⟨v3, d3, rfl, g3, n3, l3, k3, B3⟩
  have K3 : Hid (Ttl.val 0 d3 = c) := k3
  clear k3 B2
  go_wp2_with fail
  refine (appendUnit_any _ _ _ _ d 109 up _ hd (by simp; omega) (by decide) B3).mono ?_
  rintro e w4 ⟨v4, d4, rfl, g4, n4, l4, k4, B4⟩
  have K4 : Hid (Ttl.val 0 d4 = d) := k4
  clear k4 B3
  go_wp2_with fail
  refine (appendUnit_any _ _ _ _ s 115 up _ hs (by simp; omega) (by decide) B4).mono ?_
  rintro e w5 ⟨v5, d5, rfl, g5, n5, l5, k5, B5⟩
  have K5 : Hid (Ttl.val 0 d5 = s) := k5
  clear k5 B4
  generalize hL5 : ([] ++ (d1 ++ [if up then 119 - 32 else 119]) ++ (d2 ++ [if up then 100 - 32 else 100]) ++ (d3 ++ [if up then 104 - 32 else 104]) ++ (d4 ++ [if up then 109 - 32 else 109]) ++ (d5 ++ [if up then 115 - 32 else 115]) : List UInt8) = L5 at B5
  replace hL5 := hL5.symm
  have HL : Hid (L5 = _) := hL5
  have hlen5 : L5.length ≤ 1000 := by rw [hL5]; simp; omega
  have hcv := Ttl.Buf.conv B5 (by rw [hL5]; simp)
  have HT : Hid (Ttl.ttlB (⟨L5.toArray⟩ : ByteArray).data.toList = decide (a * 604800 + b * 86400 + c * 3600 + d * 60 + s ≤ 4294967295)) := by
    rw [hL5]
    exact law_units d1 d2 d3 d4 d5 [if up then 115 - 32 else 115] up a b c d s g1 g2 g3 g4 g5 n1 n2 n3 n4 n5 K1 K2 K3 K4 K5 (by omega) (by omega) (by omega) (by omega) (by omega) (by cases up <;> simp) (by simp)
  clear hL5 HL
  go_wp2_with fail
  refine (zzValidTTL_any _ _ ?_).mono ?_
  · simp [ByteArray.size, maxLen]; omega
  rintro e w6 ⟨rfl, rfl⟩
  rw [HT.out]
  have hbel := B5.2.1
  clear B5 hcv
  by_cases hle : a * 604800 + b * 86400 + c * 3600 + d * 60 + s ≤ 4294967295
  · have hle' : decide ((a : Int) * 604800 + b * 86400 + c * 3600 + d * 60 + s ≤ 4294967295) = true := decide_eq_true (by omega)
    rw [decide_eq_true hle]
    go_wp2
    go_ret
    exact ⟨rfl, hbel⟩
  · have hle' : decide ((a : Int) * 604800 + b * 86400 + c * 3600 + d * 60 + s ≤ 4294967295) = false := decide_eq_false (by omega)
    rw [decide_eq_false hle]
    go_wp2
    go_ret
    exact ⟨rfl, hbel⟩

set_option maxHeartbeats 400000 in
theorem walkB (a b c d s : Nat) (up : Bool) (w : World) (ha : a < 4294967296) (hb : b < 4294967296) (hc : c < 4294967296) (hd : d < 4294967296) (hs : s < 4294967296) :
    Calls Trym.prog 4 #[.int .u32 a, .int .u32 b, .int .u32 c, .int .u32 d, .int .u32 s, .bool up, .bool true] w fun e w' => e = .returned (.bool true) ∧ Below w.heap.size w w' := by
  obtain ⟨i0, hi, hz0, hz1, hz2⟩ := info_parts Trym.info5
  have B0 : Ttl.Buf w.heap.size w [] (.slice none 0 0) w := ⟨World.ownsRowF_nil _ _ _ _, Below.refl _ _, Nat.le_refl _⟩
  go_enter Trym.func4, Trym.ntmps4
  go_wp2_with fail
  refine (appendUnit_any _ _ _ _ a 119 up _ ha (by simp) (by decide) B0).mono ?_
  rintro e w1 ⟨v1, d1, rfl, g1, n1, l1, k1, B1⟩
  have K1 : Hid (Ttl.val 0 d1 = a) := k1
  clear k1 B0
  go_wp2_with fail
  refine (appendUnit_any _ _ _ _ b 100 up _ hb (by simp; omega) (by decide) B1).mono ?_
  rintro e w2 ⟨v2, d2, rfl, g2, n2, l2, k2, B2⟩
  have K2 : Hid (Ttl.val 0 d2 = b) := k2
  clear k2 B1
  go_wp2_with fail
  refine (appendUnit_any _ _ _ _ c 104 up _ hc (by simp; omega) (by decide) B2).mono ?_
  rintro e w3 ⟨v3, d3, rfl, g3, n3, l3, k3, B3⟩
  have K3 : Hid (Ttl.val 0 d3 = c) := k3
  clear k3 B2
  go_wp2_with fail
  refine (appendUnit_any _ _ _ _ d 109 up _ hd (by simp; omega) (by decide) B3).mono ?_
  rintro e w4 ⟨v4, d4, rfl, g4, n4, l4, k4, B4⟩
  have K4 : Hid (Ttl.val 0 d4 = d) := k4
  clear k4 B3
  generalize hL4 : ([] ++ (d1 ++ [if up then 119 - 32 else 119]) ++ (d2 ++ [if up then 100 - 32 else 100]) ++ (d3 ++ [if up then 104 - 32 else 104]) ++ (d4 ++ [if up then 109 - 32 else 109]) : List UInt8) = L4 at B4
  have hlen4 : L4.length ≤ 500 := by rw [← hL4]; simp; omega
  have HL4 : Hid (L4 = ([] ++ (d1 ++ [if up then 119 - 32 else 119]) ++ (d2 ++ [if up then 100 - 32 else 100]) ++ (d3 ++ [if up then 104 - 32 else 104]) ++ (d4 ++ [if up then 109 - 32 else 109]))) := hL4.symm
  clear hL4
  go_wp2_with fail
  refine (utoa_any s _ (by omega)).mono ?_
  rintro e w5 ⟨d5, rfl, g5, n5, l5, k5, hbl⟩
  have K5 : Hid (Ttl.val 0 d5 = s) := k5
  have B5' := B4.grow hbl
  clear k5 B4
  have hl5 : L4.length + (⟨d5.toArray⟩ : ByteArray).size ≤ 140737488355328 := by show L4.length + d5.length ≤ _; omega
  go_wp2_with (first | (at_builtin; refine Lib.wpList_append_text rfl (.tmp 34) (.tmp 37) 27 9 rfl w.heap.size 5 i0 Trym.underlying27 Trym.underlying9 hi hz0 hz1 hz2 _ _ _ rfl w B5' ⟨d5.toArray⟩ rfl hl5 ?_) | fail)
  intro v5 w5' hb2
  have B5 := Ttl.Buf.text (L := L4) hb2
  clear hb2 B5' hl5
  generalize hL5' : L4 ++ d5 = L5 at B5
  have hL5 := hL5'.symm
  rw [HL4.out] at hL5
  clear hL5'
  have HL : Hid (L5 = _) := hL5
  have hlen5 : L5.length ≤ 1000 := by rw [hL5]; simp; omega
  have hcv := Ttl.Buf.conv B5 (by rw [hL5]; simp)
  have HT : Hid (Ttl.ttlB (⟨L5.toArray⟩ : ByteArray).data.toList = decide (a * 604800 + b * 86400 + c * 3600 + d * 60 + s ≤ 4294967295)) := by
    rw [hL5]
    exact law_units d1 d2 d3 d4 d5 [] up a b c d s g1 g2 g3 g4 g5 n1 n2 n3 n4 n5 K1 K2 K3 K4 K5 (by omega) (by omega) (by omega) (by omega) (by omega) (.inl rfl) (by simp)
  clear hL5 HL
  go_wp2_with fail
  refine (zzValidTTL_any _ _ ?_).mono ?_
  · simp [ByteArray.size, maxLen]; omega
  rintro e w6 ⟨rfl, rfl⟩
  rw [HT.out]
  have hbel := B5.2.1
  clear B5 hcv
  by_cases hle : a * 604800 + b * 86400 + c * 3600 + d * 60 + s ≤ 4294967295
  · have hle' : decide ((a : Int) * 604800 + b * 86400 + c * 3600 + d * 60 + s ≤ 4294967295) = true := decide_eq_true (by omega)
    rw [decide_eq_true hle]
    go_wp2
    go_ret
    exact ⟨rfl, hbel⟩
  · have hle' : decide ((a : Int) * 604800 + b * 86400 + c * 3600 + d * 60 + s ≤ 4294967295) = false := decide_eq_false (by omega)
    rw [decide_eq_false hle]
    go_wp2
    go_ret
    exact ⟨rfl, hbel⟩

theorem walk (a0 : Int) (a1 : Int) (a2 : Int) (a3 : Int) (a4 : Int) (a5 : Bool) (a6 : Bool) (w0 : (Lit.int .u32 a0).wf = true) (w1 : (Lit.int .u32 a1).wf = true) (w2 : (Lit.int .u32 a2).wf = true) (w3 : (Lit.int .u32 a3).wf = true) (w4 : (Lit.int .u32 a4).wf = true) (w : World) :
    Calls Trym.prog 4 #[.int .u32 a0, .int .u32 a1, .int .u32 a2, .int .u32 a3, .int .u32 a4, .bool a5, .bool a6] w fun e w' => e = .returned (.bool true) ∧ Below w.heap.size w w' := by
  obtain ⟨h0, h0'⟩ := bounds_u32 w0
  obtain ⟨h1, h1'⟩ := bounds_u32 w1
  obtain ⟨h2, h2'⟩ := bounds_u32 w2
  obtain ⟨h3, h3'⟩ := bounds_u32 w3
  obtain ⟨h4, h4'⟩ := bounds_u32 w4
  obtain ⟨a, rfl⟩ := Int.eq_ofNat_of_zero_le h0
  obtain ⟨b, rfl⟩ := Int.eq_ofNat_of_zero_le h1
  obtain ⟨c, rfl⟩ := Int.eq_ofNat_of_zero_le h2
  obtain ⟨d, rfl⟩ := Int.eq_ofNat_of_zero_le h3
  obtain ⟨s, rfl⟩ := Int.eq_ofNat_of_zero_le h4
  cases a6 with
  | false => exact walkU a b c d s a5 w (by omega) (by omega) (by omega) (by omega) (by omega)
  | true => exact walkB a b c d s a5 w (by omega) (by omega) (by omega) (by omega) (by omega)

/-! ### THE ROW's STEP: WRITTEN OUT: LEAVE IT -/
set_option maxRecDepth 100000 in
theorem lifted (os : Os) (started : os.Started) (H : Type) (enc : TypeId × Value → H) :
    ReturnsInHanded {} Trym.checked os 4 .any (Rows.fnValidTTLUnitsSpec.pre6 enc Trym.prog Trym.f4 Rows.fnValidTTLUnitsRow.domain false) (Rows.fnValidTTLUnitsSpec.post enc Trym.prog Trym.f4 false true false false) := by
  refine returnsInHanded_of_change (C := Trym.checked) own started (by kernel_rfl) Trym.func4
    (ChangeSpec.witness6 (enc := enc) (C := Trym.checked) false ⟨#[], #[.int .u32 0, .int .u32 0, .int .u32 0, .int .u32 0, .int .u32 0, .bool false, .bool false], []⟩ 8 (by kernel_rfl) (by kernel_rfl) (by kernel_rfl) (by kernel_rfl)) ?_
  intro W base args ds gs before hval0 hW hcnd _
  have hval : ∀ (j : Nat) t v, Trym.f4.params[j]? = some t → args[j]? = some v → Value.okWide Trym.prog W .any base t v := hval0
  have hW' := hW
  obtain ⟨p, q, hA0, hV, rfl, hfz, hnd⟩ := hW
  have hA : DataW.TrodAll enc Trym.prog W 0 (fun _ => true) true Trym.f4.params.toList args.toList ds p := hA0
  rw [Trym.params4] at hA hval
  obtain ⟨v0, vs0, d0, ds0, p0, q0, hargs, rfl, rfl, h0, r0⟩ := trodAll_cons hA
  obtain ⟨v1, vs1, d1, ds1, p1, q1, rfl, rfl, rfl, h1, r1⟩ := trodAll_cons r0
  obtain ⟨v2, vs2, d2, ds2, p2, q2, rfl, rfl, rfl, h2, r2⟩ := trodAll_cons r1
  obtain ⟨v3, vs3, d3, ds3, p3, q3, rfl, rfl, rfl, h3, r3⟩ := trodAll_cons r2
  obtain ⟨v4, vs4, d4, ds4, p4, q4, rfl, rfl, rfl, h4, r4⟩ := trodAll_cons r3
  obtain ⟨v5, vs5, d5, ds5, p5, q5, rfl, rfl, rfl, h5, r5⟩ := trodAll_cons r4
  obtain ⟨v6, vs6, d6, ds6, p6, q6, rfl, rfl, rfl, h6, r6⟩ := trodAll_cons r5
  obtain ⟨rfl, rfl, rfl⟩ := trodAll_nil r6
  obtain rfl : args = #[v0, v1, v2, v3, v4, v5, v6] := by cases args; simp_all
  obtain ⟨rfl, rfl⟩ := trodVars_none hV
  obtain ⟨a0, rfl, rfl, rfl, w0⟩ := open_int Trym.underlying26 (hval 0 26 v0 rfl rfl) h0
  obtain ⟨a1, rfl, rfl, rfl, w1⟩ := open_int Trym.underlying26 (hval 1 26 v1 rfl rfl) h1
  obtain ⟨a2, rfl, rfl, rfl, w2⟩ := open_int Trym.underlying26 (hval 2 26 v2 rfl rfl) h2
  obtain ⟨a3, rfl, rfl, rfl, w3⟩ := open_int Trym.underlying26 (hval 3 26 v3 rfl rfl) h3
  obtain ⟨a4, rfl, rfl, rfl, w4⟩ := open_int Trym.underlying26 (hval 4 26 v4 rfl rfl) h4
  obtain ⟨a5, rfl, rfl, rfl⟩ := open_bool Trym.underlying4 (hval 5 4 v5 rfl rfl) h5
  obtain ⟨a6, rfl, rfl, rfl⟩ := open_bool Trym.underlying4 (hval 6 4 v6 rfl rfl) h6
  clear hA0 hval0
  simp only [List.append_nil] at hW'
  refine (walk a0 a1 a2 a3 a4 a5 a6 w0 w1 w2 w3 w4 W).mono fun e W' ⟨he, hg⟩ => ?_
  subst he
  exact ⟨_, rfl, _, _, _, [], [], [], hW', (trodAll_cons_mk (shut_bool Trym.underlying4 _) trodAll_mk0), (trodAll_cons_mk (shut_int Trym.underlying26 w0) (trodAll_cons_mk (shut_int Trym.underlying26 w1) (trodAll_cons_mk (shut_int Trym.underlying26 w2) (trodAll_cons_mk (shut_int Trym.underlying26 w3) (trodAll_cons_mk (shut_int Trym.underlying26 w4) (trodAll_cons_mk (shut_bool Trym.underlying4 _) (trodAll_cons_mk (shut_bool Trym.underlying4 _) trodAll_mk0))))))), rfl, hg.frame _, fun h => by cases h⟩

theorem over : Rows.fnValidTTLUnitsRow.holds Trym.pinned (OpenSpec.ofChange Rows.fnValidTTLUnitsSpec) :=
  OpenClaim.holds_of_wide 4 Trym.f4 rfl rfl rfl rfl rfl rfl rfl ⟨rfl, rfl, rfl, rfl, rfl⟩ rfl rfl rfl rfl rfl (by kernel_rfl) Trym.func4 (by kernel_rfl)
    (of_decide_eq_true (by kernel_rfl)) (by unfold Func.isWrapper; first | (rw [if_pos (by decide +kernel)]; kernel_rfl) | (rw [if_neg (by decide +kernel)]; exact ⟨rfl, rfl⟩))
    (fun os started H enc _ => lifted os started H enc)

/-- ████ THE STATEMENT ████ -/
theorem proved : Rows.FnValidTTLUnitsSaid :=
  over
end fnValidTTLUnits
end Go.Proofs.Qxb6000746aMods
