/-
  THE WALKS OF isLabel AND isDomain. By an AI agent.
-/
import Derived.Test.Qxb6000746aModsRows
import Derived.Test.Qxb6000746aModsWalkDom
import Derived.WalkKit
import Derived.ProofKit
namespace Go.Proofs.Qxb6000746aMods
open Go.ChangeShapes Go.WideShapes Go.ChangeAt Go.RowKit

namespace Dom
theorem al_list (s : ByteArray) (k : Nat) (h : k < s.size) : s.data.toList[k]'(by simpa using h) = s[k] := rfl
theorem labB_str (s : ByteArray) (h : 0 < s.size) : labB s.data.toList = (alnum s[0] && alnum (s[s.size - 1]'(by omega)) && s.data.toList.all okc) := by
  rw [labB_eq s.data.toList (by simpa using h)]
  rfl
theorem all_drop_ok (s : ByteArray) (k : Nat) (h : k < s.size) (ha : okc s[k] = true) (H : Hid (s.data.toList.all okc = (s.data.toList.drop k).all okc)) : Hid (s.data.toList.all okc = (s.data.toList.drop (k + 1)).all okc) := by
  have e := H.out
  rw [drop_at s k h, List.all_cons, ha, Bool.true_and] at e
  exact e
theorem all_drop_no (s : ByteArray) (k : Nat) (h : k < s.size) (ha : okc s[k] = false) (H : Hid (s.data.toList.all okc = (s.data.toList.drop k).all okc)) : s.data.toList.all okc = false := by
  have e := H.out
  rw [drop_at s k h, List.all_cons, ha, Bool.false_and] at e
  exact e
theorem all_drop_end (s : ByteArray) (k : Nat) (h : s.size ≤ k) (H : Hid (s.data.toList.all okc = (s.data.toList.drop k).all okc)) : s.data.toList.all okc = true := by
  have e := H.out
  rw [List.drop_of_length_le (by simpa using h)] at e
  exact e
theorem okc_al {c : UInt8} (h : Hid (alnum c = true)) : okc c = true := by simp [okc, h.out]
theorem okc_hy {c : UInt8} (h : Hid (c = 45)) : okc c = true := by simp [okc, h.out]
theorem okc_no {c : UInt8} (h : Hid (alnum c = false)) (h5 : Hid (c ≠ 45)) : okc c = false := by simp [okc, h.out, h5.out]
end Dom

set_option maxHeartbeats 400000 in
theorem isLabel_any (s : ByteArray) (w : World) (hs : s.size ≤ 4194304) :
    Calls Trym.prog 21 #[.string s] w fun e w' => e = .returned (.bool (Dom.labB s.data.toList)) ∧ w' = w := by
  by_cases h0 : s.size = 0
  · have hnil : s.data.toList = [] := List.eq_nil_of_length_eq_zero (by simpa using h0)
    have HN : Hid (s.data.toList = []) := hnil
    clear hnil
    have hd : ((s.size : Int) == 0) = true := by rw [beq_iff_eq]; omega
    go_enter Trym.func21, Trym.ntmps21
    go_wp2
    go_ret
    exact ⟨Dom.ret_bool (by rw [HN.out]; rfl), rfl⟩
  · have hpos : 0 < s.size := by omega
    have HB : Hid (Dom.labB s.data.toList = (Dom.alnum s[0] && Dom.alnum (s[s.size - 1]'(by omega)) && s.data.toList.all Dom.okc)) := Dom.labB_str s hpos
    have hd : ((s.size : Int) == 0) = false := by rw [beq_eq_false_iff_ne]; omega
    cases ha : Dom.alnum s[0] with
    | false =>
      have HA : Hid (Dom.alnum s[0] = false) := ha
      clear ha
      go_enter Trym.func21, Trym.ntmps21
      go_wp2_with fail
      refine (isAlnum_any _ _).mono ?_
      rintro _ w' ⟨rfl, rfl⟩
      rw [HA.out]
      go_wp2
      go_ret
      exact ⟨Dom.ret_bool (by rw [HB.out, HA.out]; rfl), rfl⟩
    | true =>
      have HA : Hid (Dom.alnum s[0] = true) := ha
      clear ha
      have hl1 : ((s.size : Int) - 1).toNat = s.size - 1 := by omega
      cases hz : Dom.alnum (s[s.size - 1]'(by omega)) with
      | false =>
        have HZ : Hid (Dom.alnum (s[s.size - 1]'(by omega)) = false) := hz
        clear hz
        go_enter Trym.func21, Trym.ntmps21
        go_wp2_with fail
        refine (isAlnum_any _ _).mono ?_
        rintro _ w' ⟨rfl, rfl⟩
        rw [HA.out]
        go_wp2_with fail
        refine (isAlnum_any _ _).mono ?_
        rintro _ w' ⟨rfl, rfl⟩
        rw [HZ.out]
        go_wp2
        go_ret
        exact ⟨Dom.ret_bool (by rw [HB.out, HA.out, HZ.out]; rfl), rfl⟩
      | true =>
        have HZ : Hid (Dom.alnum (s[s.size - 1]'(by omega)) = true) := hz
        clear hz
        go_enter Trym.func21, Trym.ntmps21
        go_wp2_with fail
        refine (isAlnum_any _ _).mono ?_
        rintro _ w' ⟨rfl, rfl⟩
        rw [HA.out]
        go_wp2_with fail
        refine (isAlnum_any _ _).mono ?_
        rintro _ w' ⟨rfl, rfl⟩
        rw [HZ.out]
        go_wp2_with fail
        go_loop [3] (fun jv => ∃ k : Nat, k ≤ s.size ∧ jv = .int .i64 k ∧ Hid (s.data.toList.all Dom.okc = (s.data.toList.drop k).all Dom.okc)) (fun jv => s.size - (intOf jv).toNat)
        case atStart => exact ⟨0, Nat.zero_le _, rfl, by show _ = _; rw [List.drop_zero]⟩
        case round =>
          obtain ⟨k, hk, rfl, HL⟩ := hrel
          by_cases hlt : k < s.size
          · cases hc : Dom.alnum s[k] with
            | true =>
              have HC : Hid (Dom.alnum s[k] = true) := hc
              clear hc
              go_wp2_with (go_at_call 23; refine (isAlnum_any _ _).mono ?_; rintro _ w' ⟨rfl, rfl⟩; rw [HC.out])
              go_round
              case rel => exact ⟨k + 1, by omega, by go_num, Dom.all_drop_ok s k hlt (Dom.okc_al HC) HL⟩
              case measure => simp [intOf]; omega
            | false =>
              have HC : Hid (Dom.alnum s[k] = false) := hc
              clear hc
              by_cases h45 : (s[k].toNat : Int) = 45
              · have e45' : s[k] = 45 := Dom.u8_eq (n := 45) (by decide) h45
                have e45 : Hid (s[k] = 45) := e45'
                clear e45'
                have H45 : Hid ((s[k].toNat : Int) = 45) := h45
                clear h45
                go_wp2_with (go_at_call 23; refine (isAlnum_any _ _).mono ?_; rintro _ w' ⟨rfl, rfl⟩; rw [HC.out]; have h45 := H45.out)
                go_round
                case rel => exact ⟨k + 1, by omega, by go_num, Dom.all_drop_ok s k hlt (Dom.okc_hy e45) HL⟩
                case measure => simp [intOf]; omega
              · have e45' : s[k] ≠ 45 := Dom.u8_ne (n := 45) (by decide) h45
                have e45 : Hid (s[k] ≠ 45) := e45'
                clear e45'
                go_wp2_with (go_at_call 23; refine (isAlnum_any _ _).mono ?_; rintro _ w' ⟨rfl, rfl⟩; rw [HC.out])
                go_ret
                exact ⟨Dom.ret_bool (by rw [HB.out, Dom.all_drop_no s k hlt (Dom.okc_no HC e45) HL, Bool.and_false]), rfl⟩
          · go_wp2
            go_ret
            exact ⟨Dom.ret_bool (by rw [HB.out, HA.out, HZ.out, Dom.all_drop_end s k (by omega) HL]; rfl), rfl⟩

namespace Dom
theorem ext_str (v : ByteArray) (a b : Nat) : (v.extract a b).data.toList = (v.data.toList.drop a).take (b - a) := by
  rw [ByteArray.data_extract, Array.toList_extract, List.extract_eq_take_drop]
theorem at_str (s : ByteArray) (j : Nat) (h : j < s.size) (e : s[j] = 46) : ∃ h : j < s.data.toList.length, s.data.toList[j] = 46 := ⟨by simpa using h, e⟩
theorem len_str (v : ByteArray) : v.data.toList.length = v.size := by simp
end Dom

set_option maxHeartbeats 400000 in
theorem isDomain_any (s : ByteArray) (w : World) (hs : s.size ≤ 4194304) :
    Calls Trym.prog 16 #[.string s] w fun e w' => e = .returned (.bool (Dom.isDom s.data.toList)) ∧ w' = w := by
  have HL : Hid (s.data.toList.length = s.size) := Dom.len_str s
  go_enter Trym.func16, Trym.ntmps16
  go_wp2
  go_loop [3, 4] (fun sv jv => ∃ (st j : Nat), j ≤ s.size + 1 ∧ sv = .int .i64 st ∧ jv = .int .i64 j ∧ Dom.DLoop s.data.toList st j) (fun _ jv => s.size + 1 - (intOf jv).toNat)
  case atStart => exact ⟨0, 0, by omega, rfl, rfl, Dom.dloop_start _⟩
  case round =>
    obtain ⟨st, j, hj, rfl, rfl, HD⟩ := hrel
    by_cases hjs : j ≤ s.size
    · have hst := (Dom.dloop_seg HD (by rw [HL.out]; exact hjs)).1
      by_cases hje : s.size ≤ j
      · obtain rfl : j = s.size := by omega
        clear hje hj
        cases hb : Dom.labB ((s.data.toList.drop st).take (s.size - st)) with
        | false =>
          have HB : Hid (Dom.isDom s.data.toList = false) := Dom.dloop_bad HD (by rw [HL.out]; exact hjs) hb (.inl (by rw [HL.out]))
          have Hb : Hid (Dom.labB ((s.data.toList.drop st).take (s.size - st)) = false) := hb
          clear hb
          go_wp2_with (go_at_call 21; refine (isLabel_any _ _ (by simp; omega)).mono ?_; rintro _ w' ⟨rfl, rfl⟩; rw [Dom.ext_str, Hb.out])
          go_ret
          exact ⟨Dom.ret_bool (by rw [HB.out]), rfl⟩
        | true =>
          have HD' := Dom.dloop_good HD (by rw [HL.out]; exact hjs) hb (.inl (by rw [HL.out]))
          have Hb : Hid (Dom.labB ((s.data.toList.drop st).take (s.size - st)) = true) := hb
          clear hb
          go_wp2_with (go_at_call 21; refine (isLabel_any _ _ (by simp; omega)).mono ?_; rintro _ w' ⟨rfl, rfl⟩; rw [Dom.ext_str, Hb.out])
          go_round
          case rel => exact ⟨s.size + 1, s.size + 1, by omega, by go_num, by go_num, HD'⟩
          case measure => simp [intOf]
      · have hlt : j < s.size := by omega
        by_cases h46 : (s[j].toNat : Int) = 46
        · have e46 : s[j] = 46 := Dom.u8_eq (n := 46) (by decide) h46
          have hex := Dom.at_str s j hlt e46
          clear e46
          cases hb : Dom.labB ((s.data.toList.drop st).take (j - st)) with
          | false =>
            have HB : Hid (Dom.isDom s.data.toList = false) := Dom.dloop_bad HD (by rw [HL.out]; exact hjs) hb (.inr hex)
            have Hb : Hid (Dom.labB ((s.data.toList.drop st).take (j - st)) = false) := hb
            clear hb hex
            go_wp2_with (go_at_call 21; refine (isLabel_any _ _ (by simp; omega)).mono ?_; rintro _ w' ⟨rfl, rfl⟩; rw [Dom.ext_str, Hb.out])
            go_ret
            exact ⟨Dom.ret_bool (by rw [HB.out]), rfl⟩
          | true =>
            have HD' := Dom.dloop_good HD (by rw [HL.out]; exact hjs) hb (.inr hex)
            have Hb : Hid (Dom.labB ((s.data.toList.drop st).take (j - st)) = true) := hb
            clear hb hex
            go_wp2_with (go_at_call 21; refine (isLabel_any _ _ (by simp; omega)).mono ?_; rintro _ w' ⟨rfl, rfl⟩; rw [Dom.ext_str, Hb.out])
            go_round
            case rel => exact ⟨j + 1, j + 1, by omega, by go_num, by go_num, HD'⟩
            case measure => simp [intOf]; omega
        · have e46 : s[j] ≠ 46 := Dom.u8_ne (n := 46) (by decide) h46
          have HD' := Dom.dloop_more HD (by rw [HL.out]; exact hlt) e46
          clear e46
          have h46' : ((s[j].toNat : Int) == 46) = false := beq_eq_false_iff_ne.2 h46
          have hjn : ((j : Int) == (s.size : Int)) = false := by rw [beq_eq_false_iff_ne]; omega
          clear h46 HD
          go_wp2_with fail
          go_round
          case rel => exact ⟨st, j + 1, by omega, rfl, by go_num, HD'⟩
          case measure => simp [intOf]; omega
    · have HE : Hid (Dom.isDom s.data.toList = true) := Dom.dloop_end HD (by rw [HL.out]; omega)
      go_wp2
      go_ret
      exact ⟨Dom.ret_bool (by rw [HE.out]), rfl⟩
end Go.Proofs.Qxb6000746aMods
