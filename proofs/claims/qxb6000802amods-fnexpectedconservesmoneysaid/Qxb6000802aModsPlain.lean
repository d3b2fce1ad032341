/-
  THE PLAIN LAWS OF THE TRANSFER STATEMENTS: the balances after k sagas, in closed form. No Go in sight. By an AI agent.
-/
namespace Go.Proofs.Qxb6000802aMods.Tr

/-- How many of the sagas 0 .. k-1 leave the rest r by 10 (r below 10). -/
def cnt (k r : Nat) : Nat := (k + 9 - r) / 10
/-- What account a of the debit service holds after k sagas. -/
def dB (k a : Nat) : Int := if a = 0 then 1000 else 1000 - (cnt k a : Int)
/-- What account a of the credit service holds after k sagas. -/
def cB (k a : Nat) : Int := if (a + 9) % 10 = 0 then 1000 else 1000 + (cnt k ((a + 9) % 10) : Int)

theorem dB_lo (k a : Nat) (h : k ≤ 65537) : -10000 ≤ dB k a ∧ dB k a ≤ 1000 := by
  unfold dB cnt
  split <;> omega
theorem cB_lo (k a : Nat) (h : k ≤ 65537) : 1000 ≤ cB k a ∧ cB k a ≤ 10000 := by
  unfold cB cnt
  split <;> omega

theorem dB_zero (a : Nat) (h : a < 10) : dB 0 a = 1000 := by
  unfold dB cnt
  split <;> omega
theorem cB_zero (a : Nat) (_h : a < 10) : cB 0 a = 1000 := by
  unfold cB cnt
  split <;> omega

theorem cnt_succ (k r : Nat) (h : r < 10) : cnt (k + 1) r = cnt k r + if k % 10 = r then 1 else 0 := by
  unfold cnt
  split <;> omega

/-- A refused saga moves nothing. -/
theorem dB_same (k a : Nat) (h : k % 10 = 0) (ha : a < 10) : dB (k + 1) a = dB k a := by
  unfold dB
  split
  · rfl
  · rw [cnt_succ k a ha, if_neg (by omega)]
    omega
theorem cB_same (k a : Nat) (h : k % 10 = 0) : cB (k + 1) a = cB k a := by
  unfold cB
  split
  · rfl
  · rw [cnt_succ k _ (by omega), if_neg (by omega)]
    omega
theorem dB_step (k a : Nat) (h : k % 10 ≠ 0) (ha : a < 10) : dB (k + 1) a = if a = k % 10 then dB k (k % 10) - 1 else dB k a := by
  by_cases e : a = k % 10
  · rw [if_pos e, ← e]
    unfold dB
    rw [if_neg (by omega), if_neg (by omega), cnt_succ k a ha, if_pos (by omega)]
    omega
  · rw [if_neg e]
    unfold dB
    split
    · rfl
    · rw [cnt_succ k a ha, if_neg (by omega)]
      omega
theorem cB_step (k a : Nat) (h : k % 10 ≠ 0) (ha : a < 10) : cB (k + 1) a = if a = (k + 1) % 10 then cB k ((k + 1) % 10) + 1 else cB k a := by
  by_cases e : a = (k + 1) % 10
  · rw [if_pos e, ← e]
    unfold cB
    have e2 : (a + 9) % 10 = k % 10 := by omega
    rw [e2, if_neg h, if_neg h, cnt_succ k _ (by omega), if_pos rfl]
    omega
  · rw [if_neg e]
    unfold cB
    split
    · rfl
    · rw [cnt_succ k _ (by omega), if_neg (by omega)]
      omega

/-- The sum of the first j balances. -/
def sumTo (f : Nat → Int) : Nat → Int
  | 0 => 0
  | j + 1 => sumTo f j + f j

theorem sumTo_lo (f : Nat → Int) (h : ∀ a, -10000 ≤ f a ∧ f a ≤ 10000) : ∀ j, j ≤ 10 → -100000 ≤ sumTo f j ∧ sumTo f j ≤ 100000 := by
  have key : ∀ j : Nat, -10000 * (j : Int) ≤ sumTo f j ∧ sumTo f j ≤ 10000 * (j : Int) := by
    intro j
    induction j with
    | zero => simp [sumTo]
    | succ j ih => have := h j; simp only [sumTo]; omega
  intro j hj
  have := key j
  omega

theorem sumTo_same (f g : Nat → Int) (j : Nat) (h : ∀ a, a < j → g a = f a) : sumTo g j = sumTo f j := by
  induction j with
  | zero => rfl
  | succ j ih => rw [sumTo, sumTo, ih (fun a ha => h a (by omega)), h j (by omega)]

theorem sumTo_upd (f g : Nat → Int) (i : Nat) (d : Int) (j : Nat) (h : ∀ a, a < j → g a = if a = i then f i + d else f a) : sumTo g j = sumTo f j + if i < j then d else 0 := by
  induction j with
  | zero => simp [sumTo]
  | succ j ih =>
    rw [sumTo, sumTo, ih (fun a ha => h a (by omega)), h j (by omega)]
    by_cases e : j = i
    · rw [if_pos e, if_neg (by omega), if_pos (by omega), e]
      omega
    · rw [if_neg e]
      by_cases e2 : i < j
      · rw [if_pos e2, if_pos (by omega)]
        omega
      · rw [if_neg e2, if_neg (by omega)]
        omega

/-- The units that k sagas move. -/
def moved (k : Nat) : Nat := k - (k + 9) / 10
theorem moved_succ (k : Nat) : moved (k + 1) = moved k + if k % 10 = 0 then 0 else 1 := by
  unfold moved
  split <;> omega

theorem sum_d_succ (k : Nat) : sumTo (dB (k + 1)) 10 = sumTo (dB k) 10 - (if k % 10 = 0 then 0 else 1) := by
  by_cases h : k % 10 = 0
  · rw [if_pos h, sumTo_same (dB k) (dB (k + 1)) 10 (fun a ha => dB_same k a h ha)]
    omega
  · rw [if_neg h, sumTo_upd (dB k) (dB (k + 1)) (k % 10) (-1) 10 (fun a ha => by rw [dB_step k a h ha]; rfl), if_pos (by omega)]
    omega
theorem sum_c_succ (k : Nat) : sumTo (cB (k + 1)) 10 = sumTo (cB k) 10 + (if k % 10 = 0 then 0 else 1) := by
  by_cases h : k % 10 = 0
  · rw [if_pos h, sumTo_same (cB k) (cB (k + 1)) 10 (fun a ha => cB_same k a h)]
    omega
  · rw [if_neg h, sumTo_upd (cB k) (cB (k + 1)) ((k + 1) % 10) 1 10 (fun a ha => cB_step k a h ha), if_pos (by omega)]

theorem sumTo_const (f : Nat → Int) (j : Nat) (h : ∀ a, a < j → f a = 1000) : sumTo f j = 1000 * (j : Int) := by
  induction j with
  | zero => rfl
  | succ j ih => rw [sumTo, ih (fun a ha => h a (by omega)), h j (by omega)]; omega

theorem sum_d (k : Nat) : sumTo (dB k) 10 = 10000 - (moved k : Int) := by
  induction k with
  | zero => rw [sumTo_const _ _ (fun a ha => dB_zero a ha)]; decide
  | succ k ih =>
    rw [sum_d_succ, ih, moved_succ]
    split <;> omega
theorem sum_c (k : Nat) : sumTo (cB k) 10 = 10000 + (moved k : Int) := by
  induction k with
  | zero => rw [sumTo_const _ _ (fun a ha => cB_zero a ha)]; decide
  | succ k ih =>
    rw [sum_c_succ, ih, moved_succ]
    split <;> omega

end Go.Proofs.Qxb6000802aMods.Tr
