/-
  THE WALKS OF isLetterOrDigit, isAlnum, labelEnd, domainEnd, ZZdomainEnd. By an AI agent.
-/
import Derived.Test.Qxb6000746aModsRows
import Derived.Test.Qxb6000746aModsPlainLab
import Derived.WalkKit
import Derived.ProofKit
namespace Go.Proofs.Qxb6000746aMods
open Go.ChangeShapes Go.WideShapes Go.ChangeAt Go.RowKit

namespace Dom
theorem ret_bool {a b : Bool} (h : a = b) : Ending.returned (.bool a) = .returned (.bool b) := by rw [h]
theorem ret_int {a b : Int} (h : a = b) : Ending.returned (.int .i64 a) = .returned (.int .i64 b) := by rw [h]
theorem drop_at (s : ByteArray) (k : Nat) (h : k < s.size) : s.data.toList.drop k = s[k] :: s.data.toList.drop (k + 1) :=
  List.drop_eq_getElem_cons (by simpa using h)

/-- labelEnd's round: a letter or digit. -/
theorem le_al (s : ByteArray) (i k e : Nat) (h : k < s.size) (ha : alnum s[k] = true) (hi : i ≤ k) (H : Hid (lab (decide (k = i)) (s.data.toList.drop k) k e = lEnd s.data.toList i)) :
    Hid (lab (decide (k + 1 = i)) (s.data.toList.drop (k + 1)) (k + 1) (k + 1) = lEnd s.data.toList i) := by
  have e := H.out
  rw [drop_at s k h, lab, if_pos ha] at e
  rw [decide_eq_false (by omega)]
  exact e
theorem le_hy (s : ByteArray) (i k e : Nat) (h : k < s.size) (ha : alnum s[k] = false) (h5 : s[k] = 45) (hi : i < k) (H : Hid (lab (decide (k = i)) (s.data.toList.drop k) k e = lEnd s.data.toList i)) :
    Hid (lab (decide (k + 1 = i)) (s.data.toList.drop (k + 1)) (k + 1) e = lEnd s.data.toList i) := by
  have e := H.out
  rw [drop_at s k h, lab, if_neg (by rw [ha]; decide), decide_eq_false (by omega), if_pos ⟨h5, rfl⟩] at e
  rw [decide_eq_false (by omega)]
  exact e
theorem le_no (s : ByteArray) (i k e : Nat) (h : k < s.size) (ha : alnum s[k] = false) (h5 : s[k] ≠ 45 ∨ k = i) (H : Hid (lab (decide (k = i)) (s.data.toList.drop k) k e = lEnd s.data.toList i)) :
    lEnd s.data.toList i = e := by
  have e := H.out
  rw [drop_at s k h, lab, if_neg (by rw [ha]; decide), if_neg (by rintro ⟨h1, h2⟩; rcases h5 with h5 | h5 <;> simp_all)] at e
  exact e.symm
theorem le_end (s : ByteArray) (i k e : Nat) (h : s.size ≤ k) (H : Hid (lab (decide (k = i)) (s.data.toList.drop k) k e = lEnd s.data.toList i)) : lEnd s.data.toList i = e := by
  have e := H.out
  rw [List.drop_of_length_le (by simpa using h), lab] at e
  exact e.symm
theorem u8_ne {c : UInt8} {n : Nat} (hn : n < 256) (h : ¬ ((c.toNat : Int) = (n : Int))) : c ≠ UInt8.ofNat n := by
  rintro rfl
  apply h
  rw [UInt8.toNat_ofNat']
  omega
theorem u8_eq {c : UInt8} {n : Nat} (hn : n < 256) (h : (c.toNat : Int) = (n : Int)) : c = UInt8.ofNat n := by
  apply UInt8.toNat_inj.1
  rw [UInt8.toNat_ofNat']
  omega
end Dom

set_option maxHeartbeats 400000 in
theorem isLetterOrDigit_any (c : UInt8) (w : World) :
    Calls Trym.prog 25 #[.int .u8 c.toNat] w fun e w' => e = .returned (.bool (Dom.alnum c)) ∧ w' = w := by
  have hc := UInt8.toNat_lt c
  go_enter Trym.func25, Trym.ntmps25
  go_wp2
  all_goals go_ret
  all_goals exact ⟨Dom.ret_bool (by rw [Bool.eq_iff_iff]; simp [Dom.alnum]; omega), rfl⟩

set_option maxHeartbeats 400000 in
theorem isAlnum_any (c : UInt8) (w : World) :
    Calls Trym.prog 23 #[.int .u8 c.toNat] w fun e w' => e = .returned (.bool (Dom.alnum c)) ∧ w' = w := by
  have hc := UInt8.toNat_lt c
  go_enter Trym.func23, Trym.ntmps23
  go_wp2
  all_goals go_ret
  all_goals exact ⟨Dom.ret_bool (by rw [Bool.eq_iff_iff]; simp [Dom.alnum]; omega), rfl⟩

set_option maxHeartbeats 400000 in
theorem labelEnd_any (s : ByteArray) (i : Nat) (w : World) (hs : s.size ≤ 4194304) (hi : i ≤ s.size) :
    Calls Trym.prog 24 #[.string s, .int .i64 i] w fun e w' => e = .returned (.int .i64 (Dom.lEnd s.data.toList i)) ∧ w' = w := by
  go_enter Trym.func24, Trym.ntmps24
  go_wp2
  go_loop [5, 6] (fun ev jv => ∃ (k e : Nat), i ≤ k ∧ k ≤ s.size ∧ ev = .int .i64 e ∧ jv = .int .i64 k ∧ Hid (Dom.lab (decide (k = i)) (s.data.toList.drop k) k e = Dom.lEnd s.data.toList i)) (fun _ jv => s.size - (intOf jv).toNat)
  case atStart => exact ⟨i, i, Nat.le_refl _, hi, rfl, rfl, by show _ = _; rw [decide_eq_true rfl]; rfl⟩
  case round =>
    obtain ⟨k, e, hk1, hk2, rfl, rfl, HL⟩ := hrel
    by_cases hlt : k < s.size
    · cases ha : Dom.alnum s[k] with
      | true =>
        have HA : Hid (Dom.alnum s[k] = true) := ha
        clear ha
        go_wp2_with (go_at_call 25; refine (isLetterOrDigit_any _ _).mono ?_; rintro e w' ⟨rfl, rfl⟩; rw [HA.out])
        go_round
        case rel => exact ⟨k + 1, k + 1, by omega, by omega, by go_num, by go_num, Dom.le_al s i k e hlt HA hk1 HL⟩
        case measure => simp [intOf]; omega
      | false =>
        have HA : Hid (Dom.alnum s[k] = false) := ha
        clear ha
        go_wp2_with (go_at_call 25; refine (isLetterOrDigit_any _ _).mono ?_; rintro e w' ⟨rfl, rfl⟩; rw [HA.out])
        · go_round
          case rel => exact ⟨k + 1, e, by omega, by omega, rfl, by go_num, Dom.le_hy s i k e hlt HA (Dom.u8_eq (n := 45) (by decide) (by assumption)) (by omega) HL⟩
          case measure => simp [intOf]; omega
        · go_ret
          exact ⟨Dom.ret_int (by rw [Dom.le_no s i k e hlt HA (.inr (by omega)) HL]), rfl⟩
        · go_ret
          exact ⟨Dom.ret_int (by rw [Dom.le_no s i k e hlt HA (.inl (Dom.u8_ne (n := 45) (by decide) (by assumption))) HL]), rfl⟩
    · go_wp2
      go_ret
      exact ⟨Dom.ret_int (by rw [Dom.le_end s i k e (by omega) HL]), rfl⟩

theorem labelEnd_at (s : ByteArray) (iv : Int) (i : Nat) (w : World) (hs : s.size ≤ 4194304) (hi : i ≤ s.size) (hiv : iv = (i : Int)) :
    Calls Trym.prog 24 #[.string s, .int .i64 iv] w fun e w' => e = .returned (.int .i64 (Dom.lEnd s.data.toList i)) ∧ w' = w := by
  subst hiv
  exact labelEnd_any s i w hs hi

set_option maxHeartbeats 400000 in
theorem domainEnd_any (s : ByteArray) (i : Nat) (w : World) (hs : s.size ≤ 4194304) (hi : i ≤ s.size) :
    Calls Trym.prog 22 #[.string s, .int .i64 i] w fun e w' => e = .returned (.int .i64 (Dom.dEnd s.data.toList i)) ∧ w' = w := by
  have hlen : s.data.toList.length = s.size := by simp
  rcases Dom.dinv_start s.data.toList i (by omega) with ⟨h1, h2⟩ | ⟨h1, h2⟩
  · clear hlen
    go_enter Trym.func22, Trym.ntmps22
    go_wp2_with (go_at_call 24; refine (labelEnd_any _ _ _ hs hi).mono ?_; rintro e w' ⟨rfl, rfl⟩)
    go_ret
    exact ⟨Dom.ret_int (by rw [h2]), rfl⟩
  · have hle := Dom.lEnd_le s.data.toList i (by omega)
    have H1 : Hid (Dom.lEnd s.data.toList i ≠ i) := h1
    have hne : ((Dom.lEnd s.data.toList i : Int) == (i : Int)) = false := by rw [beq_eq_false_iff_ne]; omega
    clear h1
    have HL : Hid (s.data.toList.length = s.size) := hlen
    clear hlen
    go_enter Trym.func22, Trym.ntmps22
    go_wp2_with (go_at_call 24; refine (labelEnd_any _ _ _ hs hi).mono ?_; rintro e w' ⟨rfl, rfl⟩)
    go_loop [5] (fun ev => ∃ n : Nat, n ≤ s.size ∧ ev = .int .i64 n ∧ Dom.DInv s.data.toList i n) (fun ev => s.size - (intOf ev).toNat)
    case atStart => exact ⟨_, by rw [HL.out] at hle; exact hle, rfl, h2⟩
    case round =>
      obtain ⟨n, hn, rfl, HD⟩ := hrel
      clear h2 hle H1 hne
      by_cases hlt : n < s.size
      · by_cases h46 : (s[n].toNat : Int) = 46
        · have e46 : s.data.toList[n]'(by rw [HL.out]; exact hlt) = 46 := Dom.u8_eq (n := 46) (by decide) h46
          have hle2 := Dom.lEnd_le s.data.toList (n + 1) (by rw [HL.out]; omega)
          have hge2 := Dom.lEnd_ge s.data.toList (n + 1)
          rcases Dom.dinv_dot s.data.toList i n HD (by rw [HL.out]; exact hlt) e46 with ⟨g1, g2⟩ | ⟨g1, g2⟩
          · have G1 : Hid (Dom.lEnd s.data.toList (n + 1) = n + 1) := g1
            have G2 : Hid (Dom.dEnd s.data.toList i = n) := g2
            clear g1 g2 e46 hle2 hge2
            go_wp2_with (go_at_call 24; refine (labelEnd_at _ _ (n + 1) _ hs (by omega) (by omega)).mono ?_; rintro e w' ⟨rfl, rfl⟩; rw [G1.out])
            go_ret
            exact ⟨Dom.ret_int (by rw [G2.out]), rfl⟩
          · have G1 : Hid (Dom.lEnd s.data.toList (n + 1) ≠ n + 1) := g1
            clear e46
            generalize hm : Dom.lEnd s.data.toList (n + 1) = m at *
            have HM : Hid (Dom.lEnd s.data.toList (n + 1) = m) := hm
            clear hm
            have hm1 : n + 1 < m := by omega
            have hm2 : m ≤ s.size := by rw [HL.out] at hle2; exact hle2
            clear hle2 hge2 g1
            go_wp2_with (go_at_call 24; refine (labelEnd_at _ _ (n + 1) _ hs (by omega) (by omega)).mono ?_; rintro e w' ⟨rfl, rfl⟩; rw [HM.out])
            go_round
            case rel => exact ⟨m, hm2, rfl, g2⟩
            case measure => simp [intOf]; omega
        · have G := Dom.dinv_nodot s.data.toList i n HD (by rw [HL.out]; exact hlt) (Dom.u8_ne (n := 46) (by decide) h46)
          have G2 : Hid (Dom.dEnd s.data.toList i = n) := G
          clear G
          go_wp2
          go_ret
          exact ⟨Dom.ret_int (by rw [G2.out]), rfl⟩
      · have G := Dom.dinv_end s.data.toList i n HD (by rw [HL.out]; omega)
        have G2 : Hid (Dom.dEnd s.data.toList i = n) := G
        clear G
        go_wp2
        go_ret
        exact ⟨Dom.ret_int (by rw [G2.out]), rfl⟩

theorem zzDomainEnd_any (s : ByteArray) (iv : Int) (i : Nat) (w : World) (hs : s.size ≤ 4194304) (hi : i ≤ s.size) (hiv : iv = (i : Int)) :
    Calls Trym.prog 17 #[.string s, .int .i64 iv] w fun e w' => e = .returned (.int .i64 (Dom.dEnd s.data.toList i)) ∧ w' = w := by
  subst hiv
  go_enter Trym.func17, Trym.ntmps17
  go_wp2_with (go_at_call 22; refine (domainEnd_any _ _ _ hs hi).mono ?_; rintro e w' ⟨rfl, rfl⟩)
  go_ret
  exact ⟨rfl, rfl⟩
end Go.Proofs.Qxb6000746aMods
