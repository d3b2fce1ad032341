/-
  THE PLAIN LAWS OF THE DOMAIN STATEMENTS: no Go in sight. By an AI agent.
  A domain name is read by an automaton: 0: a label is to begin; 1: behind a letter or digit; 2: behind a hyphen; 3: no name any more.
-/
namespace Go.Proofs.Qxb6000746aMods.Dom

def alnum (c : UInt8) : Bool := (decide (97 ≤ c.toNat) && decide (c.toNat ≤ 122)) || (decide (65 ≤ c.toNat) && decide (c.toNat ≤ 90)) || (decide (48 ≤ c.toNat) && decide (c.toNat ≤ 57))

def step (st : Nat) (c : UInt8) : Nat :=
  if st = 3 then 3
  else if alnum c then 1
  else if st = 0 then 3
  else if c = 45 then 2
  else if c = 46 ∧ st = 1 then 0
  else 3

def run : Nat → List UInt8 → Nat
  | st, [] => st
  | st, c :: cs => run (step st c) cs

/-- A text is a domain name. -/
def isDom (l : List UInt8) : Bool := decide (run 0 l = 1)

/-- The end of the longest domain name: j: where the list begins; e: the best end so far. -/
def best : Nat → List UInt8 → Nat → Nat → Nat
  | _, [], _, e => e
  | st, c :: cs, j, e => best (step st c) cs (j + 1) (if step st c = 1 then j + 1 else e)

theorem alnum_46 : alnum 46 = false := by decide
theorem alnum_45 : alnum 45 = false := by decide
theorem alnum_59 : alnum 59 = false := by decide

theorem step_dead (c : UInt8) : step 3 c = 3 := by simp [step]
theorem step_59 (st : Nat) : step st 59 = 3 := by
  unfold step
  rw [alnum_59]
  by_cases h : st = 3
  · simp [h]
  · by_cases h0 : st = 0
    · simp [h0]
    · simp [h, h0]
theorem step_alnum {st : Nat} {c : UInt8} (h : alnum c = true) (h3 : st ≠ 3) : step st c = 1 := by simp [step, h, h3]
theorem step_46_1 : step 1 46 = 0 := by simp [step, alnum_46]
theorem step_46_not1 {st : Nat} (h : st ≠ 1) : step st 46 = 3 := by
  unfold step
  rw [alnum_46]
  by_cases h3 : st = 3
  · simp [h3]
  · by_cases h0 : st = 0
    · simp [h0]
    · simp [h3, h0, h]

theorem run_dead (l : List UInt8) : run 3 l = 3 := by
  induction l with
  | nil => rfl
  | cons c cs ih => rw [run, step_dead, ih]
theorem best_dead (l : List UInt8) : ∀ j e, best 3 l j e = e := by
  induction l with
  | nil => intro j e; rfl
  | cons c cs ih => intro j e; rw [best, step_dead, ih]; simp

theorem run_append (l r : List UInt8) : ∀ st, run st (l ++ r) = run (run st l) r := by
  induction l with
  | nil => intro st; rfl
  | cons c cs ih => intro st; rw [List.cons_append, run, run, ih]

/-- Text from a semicolon on moves nothing. -/
theorem best_semi (l r : List UInt8) : ∀ st j e, best st (l ++ 59 :: r) j e = best st l j e := by
  induction l with
  | nil =>
    intro st j e
    show best (step st 59) r (j + 1) (if step st 59 = 1 then j + 1 else e) = e
    rw [step_59, best_dead]
    simp
  | cons c cs ih => intro st j e; rw [List.cons_append, best, best, ih]

theorem best_shift (l : List UInt8) (d : Nat) : ∀ st j e, best st l (j + d) (e + d) = best st l j e + d := by
  induction l with
  | nil => intro st j e; rfl
  | cons c cs ih =>
    intro st j e
    rw [best, best, ← ih]
    congr 1
    · omega
    · split <;> omega

theorem best_shift0 (l : List UInt8) (d : Nat) : best 0 l d d = best 0 l 0 0 + d := by
  have := best_shift l d 0 0 0
  rwa [Nat.zero_add] at this

/-- What is found: the best so far, or the end of a name. -/
theorem best_att (l : List UInt8) : ∀ st j e, best st l j e = e ∨ ∃ m, 1 ≤ m ∧ m ≤ l.length ∧ best st l j e = j + m ∧ run st (l.take m) = 1 := by
  induction l with
  | nil => intro st j e; exact .inl rfl
  | cons c cs ih =>
    intro st j e
    rw [best]
    rcases ih (step st c) (j + 1) (if step st c = 1 then j + 1 else e) with h | ⟨m, h1, h2, h3, h4⟩
    · by_cases hs : step st c = 1
      · right
        refine ⟨1, by omega, by simp, ?_, ?_⟩
        · rw [h, if_pos hs]
        · rw [List.take_succ_cons, List.take_zero, run, run]; exact hs
      · left
        rw [h, if_neg hs]
    · right
      refine ⟨m + 1, by omega, by simp; omega, by rw [h3]; omega, ?_⟩
      rw [List.take_succ_cons, run]
      exact h4

/-- Nothing that is a name is longer. -/
theorem best_max (l : List UInt8) : ∀ st j e, e ≤ j → (e ≤ best st l j e ∧ ∀ m, 1 ≤ m → m ≤ l.length → run st (l.take m) = 1 → j + m ≤ best st l j e) := by
  induction l with
  | nil => intro st j e he; exact ⟨Nat.le_refl _, fun m h1 h2 _ => by simp at h2; omega⟩
  | cons c cs ih =>
    intro st j e he
    rw [best]
    have := ih (step st c) (j + 1) (if step st c = 1 then j + 1 else e) (by split <;> omega)
    have hle : e ≤ (if step st c = 1 then j + 1 else e) := by split <;> omega
    refine ⟨Nat.le_trans hle this.1, ?_⟩
    intro m h1 h2 h3
    match m, h1, h2, h3 with
    | 1, _, _, h3 =>
      rw [List.take_succ_cons, List.take_zero, run, run] at h3
      have h := this.1
      rw [if_pos h3] at h
      rw [if_pos h3]
      exact h
    | m + 2, _, h2, h3 =>
      rw [List.take_succ_cons, run] at h3
      have h := this.2 (m + 1) (by omega) (by simp at h2; omega) h3
      omega

/-- THE END OF THE NAME AT i, i as an offset. -/
def dEnd (l : List UInt8) (i : Nat) : Nat := best 0 (l.drop i) i i

theorem dEnd_ge (l : List UInt8) (i : Nat) : i ≤ dEnd l i := (best_max (l.drop i) 0 i i (Nat.le_refl _)).1
theorem dEnd_le (l : List UInt8) (i : Nat) (hi : i ≤ l.length) : dEnd l i ≤ l.length := by
  unfold dEnd
  rcases best_att (l.drop i) 0 i i with h | ⟨m, h1, h2, h3, h4⟩
  · rw [h]; exact hi
  · rw [h3]; simp at h2; omega

/-- What it spans is empty or a name. -/
theorem dEnd_dom (l : List UInt8) (i : Nat) : dEnd l i = i ∨ isDom ((l.drop i).take (dEnd l i - i)) = true := by
  unfold dEnd
  rcases best_att (l.drop i) 0 i i with h | ⟨m, h1, h2, h3, h4⟩
  · exact .inl h
  · right
    rw [h3, show i + m - i = m from by omega]
    unfold isDom
    rw [h4]
    rfl

/-- It is the longest. -/
theorem dEnd_most (l : List UInt8) (i k : Nat) (hk : i < k) (hl : k ≤ l.length) (h : isDom ((l.drop i).take (k - i)) = true) : k ≤ dEnd l i := by
  have := (best_max (l.drop i) 0 i i (Nat.le_refl _)).2 (k - i) (by omega) (by simp; omega) (by simpa [isDom] using h)
  unfold dEnd
  omega

theorem dEnd_found (l : List UInt8) (i k : Nat) (hk : i < k) (hl : k ≤ l.length) (h : isDom ((l.drop i).take (k - i)) = true)
    (hno : ∀ k', k < k' → k' ≤ l.length → isDom ((l.drop i).take (k' - i)) = false) : dEnd l i = k := by
  have h1 := dEnd_most l i k hk hl h
  have h2 := dEnd_le l i (by omega)
  rcases Nat.lt_or_ge k (dEnd l i) with h3 | h3
  · have h4 := hno (dEnd l i) h3 h2
    rcases dEnd_dom l i with h5 | h5
    · omega
    · rw [h5] at h4; exact absurd h4 (by decide)
  · omega

theorem dEnd_none (l : List UInt8) (i : Nat) (hi : i ≤ l.length) (hno : ∀ k', i < k' → k' ≤ l.length → isDom ((l.drop i).take (k' - i)) = false) : dEnd l i = i := by
  have h1 := dEnd_ge l i
  have h2 := dEnd_le l i hi
  rcases Nat.lt_or_ge i (dEnd l i) with h3 | h3
  · have h4 := hno (dEnd l i) h3 h2
    rcases dEnd_dom l i with h5 | h5
    · omega
    · rw [h5] at h4; exact absurd h4 (by decide)
  · omega

/-- Cut at the end found, it is found again. -/
theorem dEnd_cut (l : List UInt8) (i : Nat) (hi : i ≤ l.length) : dEnd (l.take (dEnd l i)) i = dEnd l i := by
  have h1 := dEnd_ge l i
  have h2 := dEnd_le l i hi
  have hlen : (l.take (dEnd l i)).length = dEnd l i := by simp; omega
  have h3 := dEnd_le (l.take (dEnd l i)) i (by omega)
  rcases dEnd_dom l i with h5 | h5
  · have h4 := dEnd_ge (l.take (dEnd l i)) i
    omega
  · rcases Nat.lt_or_ge i (dEnd l i) with h6 | h6
    · have h7 := dEnd_most (l.take (dEnd l i)) i (dEnd l i) h6 (by omega) (by
        rw [List.drop_take, List.take_take, Nat.min_self]
        exact h5)
      omega
    · have h4 := dEnd_ge (l.take (dEnd l i)) i
      omega

/-- Text ahead moves the offset alone. -/
theorem dEnd_ahead (w l : List UInt8) (i : Nat) : dEnd (w ++ l) (w.length + i) = w.length + dEnd l i := by
  unfold dEnd
  rw [List.drop_append, List.drop_of_length_le (by omega), List.nil_append, show w.length + i - w.length = i from by omega, best_shift0, best_shift0 (l.drop i) i]
  omega

theorem dEnd_from (l : List UInt8) (i : Nat) : dEnd (l.drop i) 0 = dEnd l i - i := by
  unfold dEnd
  rw [List.drop_zero, best_shift0 (l.drop i) i]
  omega

theorem dEnd_semi (l r : List UInt8) (i : Nat) (hi : i ≤ l.length) : dEnd (l ++ 59 :: r) i = dEnd l i := by
  unfold dEnd
  rw [List.drop_append, show i - l.length = 0 from by omega, List.drop_zero, best_semi]

end Go.Proofs.Qxb6000746aMods.Dom
