/-
  THE PLAIN LAWS OF labelEnd, domainEnd, isLabel, isDomain against the automaton: no Go in sight. By an AI agent.
-/
import Derived.Test.Qxb6000746aModsPlainDom
namespace Go.Proofs.Qxb6000746aMods.Dom

/-- What labelEnd returns of the text that is left: whether this is the first byte, where it stands, the end so far. -/
def lab : Bool → List UInt8 → Nat → Nat → Nat
  | _, [], _, e => e
  | fst, c :: cs, j, e => if alnum c = true then lab false cs (j + 1) (j + 1) else if c = 45 ∧ fst = false then lab false cs (j + 1) e else e

/-- Behind a label's end n the text l goes on with a dot, or no name goes on. -/
def Stop (l : List UInt8) (n : Nat) : Prop := (∃ r, l = 46 :: r) ∨ best 1 l n n = n

theorem step1_45 : step 1 45 = 2 := by simp [step, alnum_45]
theorem step2_45 : step 2 45 = 2 := by simp [step, alnum_45]
theorem step2_else {c : UInt8} (h : ¬ alnum c = true) (h5 : ¬ c = 45) : step 2 c = 3 := by simp [step, h, h5]
theorem step1_else {c : UInt8} (h : ¬ alnum c = true) (h5 : ¬ c = 45) (h6 : ¬ c = 46) : step 1 c = 3 := by simp [step, h, h5, h6]
theorem step0_else {c : UInt8} (h : ¬ alnum c = true) : step 0 c = 3 := by simp [step, h]

theorem drop_shift (c : UInt8) (cs : List UInt8) (n e : Nat) (h : e + 1 ≤ n) : (c :: cs).drop (n - e) = cs.drop (n - (e + 1)) := by
  rw [show n - e = (n - (e + 1)) + 1 from by omega, List.drop_succ_cons]

theorem lab_laws (cs : List UInt8) :
    (∀ e, e ≤ lab false cs e e ∧ lab false cs e e ≤ e + cs.length ∧ best 1 cs e e = best 1 (cs.drop (lab false cs e e - e)) (lab false cs e e) (lab false cs e e) ∧ Stop (cs.drop (lab false cs e e - e)) (lab false cs e e)) ∧
    (∀ j e, e < j → (lab false cs j e = e ∧ best 2 cs j e = e) ∨
      (j < lab false cs j e ∧ lab false cs j e ≤ j + cs.length ∧ best 2 cs j e = best 1 (cs.drop (lab false cs j e - j)) (lab false cs j e) (lab false cs j e) ∧ Stop (cs.drop (lab false cs j e - j)) (lab false cs j e))) := by
  induction cs with
  | nil =>
    refine ⟨fun e => ⟨Nat.le_refl _, by simp [lab], by simp [lab], .inr (by simp [lab, best])⟩, fun j e _ => .inl ⟨rfl, rfl⟩⟩
  | cons c cs ih =>
    obtain ⟨ihA, ihB⟩ := ih
    constructor
    · intro e
      by_cases ha : alnum c = true
      · have el : lab false (c :: cs) e e = lab false cs (e + 1) (e + 1) := by rw [lab, if_pos ha]
        have eb : best 1 (c :: cs) e e = best 1 cs (e + 1) (e + 1) := by rw [best, step_alnum ha (by decide), if_pos rfl]
        obtain ⟨h1, h2, h3, h4⟩ := ihA (e + 1)
        rw [el, eb, drop_shift c cs _ e h1]
        exact ⟨by omega, by simp; omega, h3, h4⟩
      · by_cases h5 : c = 45
        · subst h5
          have el : lab false (45 :: cs) e e = lab false cs (e + 1) e := by rw [lab, if_neg ha, if_pos ⟨rfl, rfl⟩]
          have eb : best 1 (45 :: cs) e e = best 2 cs (e + 1) e := by rw [best, step1_45, if_neg (by decide)]
          rcases ihB (e + 1) e (by omega) with ⟨h1, h2⟩ | ⟨h1, h2, h3, h4⟩
          · rw [el, h1, Nat.sub_self, List.drop_zero]
            exact ⟨Nat.le_refl _, by omega, rfl, .inr (by rw [eb, h2])⟩
          · rw [el, eb, drop_shift 45 cs _ e (by omega)]
            exact ⟨by omega, by simp; omega, h3, h4⟩
        · have el : lab false (c :: cs) e e = e := by rw [lab, if_neg ha, if_neg (fun h => h5 h.1)]
          rw [el, Nat.sub_self, List.drop_zero]
          refine ⟨Nat.le_refl _, by omega, rfl, ?_⟩
          by_cases h6 : c = 46
          · exact .inl ⟨cs, by rw [h6]⟩
          · exact .inr (by rw [best, step1_else ha h5 h6, best_dead, if_neg (by decide)])
    · intro j e hj
      by_cases ha : alnum c = true
      · have el : lab false (c :: cs) j e = lab false cs (j + 1) (j + 1) := by rw [lab, if_pos ha]
        have eb : best 2 (c :: cs) j e = best 1 cs (j + 1) (j + 1) := by rw [best, step_alnum ha (by decide), if_pos rfl]
        obtain ⟨h1, h2, h3, h4⟩ := ihA (j + 1)
        rw [el, eb, drop_shift c cs _ j h1]
        exact .inr ⟨by omega, by simp; omega, h3, h4⟩
      · by_cases h5 : c = 45
        · subst h5
          have el : lab false (45 :: cs) j e = lab false cs (j + 1) e := by rw [lab, if_neg ha, if_pos ⟨rfl, rfl⟩]
          have eb : best 2 (45 :: cs) j e = best 2 cs (j + 1) e := by rw [best, step2_45, if_neg (by decide)]
          rcases ihB (j + 1) e (by omega) with ⟨h1, h2⟩ | ⟨h1, h2, h3, h4⟩
          · rw [el, eb]; exact .inl ⟨h1, h2⟩
          · rw [el, eb, drop_shift 45 cs _ j (by omega)]
            exact .inr ⟨by omega, by simp; omega, h3, h4⟩
        · have el : lab false (c :: cs) j e = e := by rw [lab, if_neg ha, if_neg (fun h => h5 h.1)]
          exact .inl ⟨el, by rw [best, step2_else ha h5, best_dead, if_neg (by decide)]⟩

theorem lab_first (cs : List UInt8) (i : Nat) :
    (lab true cs i i = i ∧ ∀ e, best 0 cs i e = e) ∨
    (i < lab true cs i i ∧ lab true cs i i ≤ i + cs.length ∧ (∀ e, best 0 cs i e = best 1 (cs.drop (lab true cs i i - i)) (lab true cs i i) (lab true cs i i)) ∧ Stop (cs.drop (lab true cs i i - i)) (lab true cs i i)) := by
  cases cs with
  | nil => exact .inl ⟨rfl, fun _ => rfl⟩
  | cons c cs =>
    by_cases ha : alnum c = true
    · have el : lab true (c :: cs) i i = lab false cs (i + 1) (i + 1) := by rw [lab, if_pos ha]
      obtain ⟨h1, h2, h3, h4⟩ := (lab_laws cs).1 (i + 1)
      rw [el, drop_shift c cs _ i h1]
      refine .inr ⟨by omega, by simp; omega, fun e => ?_, h4⟩
      rw [best, step_alnum ha (by decide), if_pos rfl, h3]
    · have el : lab true (c :: cs) i i = i := by rw [lab, if_neg ha, if_neg (fun h => by simp at h)]
      refine .inl ⟨el, fun e => ?_⟩
      rw [best, step0_else ha, best_dead, if_neg (by decide)]

/-- labelEnd. -/
def lEnd (l : List UInt8) (i : Nat) : Nat := lab true (l.drop i) i i

/-- What domainEnd's loop keeps: n is the end of a label; the answer is what the automaton finds from there. -/
def DInv (l : List UInt8) (i n : Nat) : Prop := i < n ∧ n ≤ l.length ∧ dEnd l i = best 1 (l.drop n) n n ∧ Stop (l.drop n) n

theorem lEnd_ge (l : List UInt8) (i : Nat) : i ≤ lEnd l i := by
  rcases lab_first (l.drop i) i with h | h
  · exact Nat.le_of_eq h.1.symm
  · exact Nat.le_of_lt h.1

theorem lEnd_le (l : List UInt8) (i : Nat) (hi : i ≤ l.length) : lEnd l i ≤ l.length := by
  rcases lab_first (l.drop i) i with h | h
  · unfold lEnd; rw [h.1]; exact hi
  · have := h.2.1; unfold lEnd; simp at this; omega

theorem dinv_start (l : List UInt8) (i : Nat) (hi : i ≤ l.length) : (lEnd l i = i ∧ dEnd l i = i) ∨ (lEnd l i ≠ i ∧ DInv l i (lEnd l i)) := by
  unfold lEnd
  rcases lab_first (l.drop i) i with ⟨h1, h2⟩ | ⟨h1, h2, h3, h4⟩
  · exact .inl ⟨h1, h2 i⟩
  · rw [List.drop_drop, show i + (lab true (l.drop i) i i - i) = lab true (l.drop i) i i from by omega] at h3 h4
    refine .inr ⟨by omega, h1, by simp at h2; omega, h3 i, h4⟩

theorem drop_cons (l : List UInt8) (n : Nat) (h : n < l.length) : l.drop n = l[n] :: l.drop (n + 1) := List.drop_eq_getElem_cons h

theorem dinv_end (l : List UInt8) (i n : Nat) (h : DInv l i n) (hn : l.length ≤ n) : dEnd l i = n := by
  rw [h.2.2.1, List.drop_of_length_le hn, best]

theorem dinv_nodot (l : List UInt8) (i n : Nat) (h : DInv l i n) (hn : n < l.length) (hd : l[n] ≠ 46) : dEnd l i = n := by
  rcases h.2.2.2 with ⟨r, hr⟩ | hb
  · rw [drop_cons l n hn] at hr
    exact absurd (List.cons.inj hr).1 hd
  · rw [h.2.2.1, hb]

theorem dinv_dot (l : List UInt8) (i n : Nat) (h : DInv l i n) (hn : n < l.length) (hd : l[n] = 46) :
    (lEnd l (n + 1) = n + 1 ∧ dEnd l i = n) ∨ (lEnd l (n + 1) ≠ n + 1 ∧ DInv l i (lEnd l (n + 1))) := by
  have e : dEnd l i = best 0 (l.drop (n + 1)) (n + 1) n := by
    rw [h.2.2.1, drop_cons l n hn, hd, best, step_46_1, if_neg (by decide)]
  unfold lEnd
  rcases lab_first (l.drop (n + 1)) (n + 1) with ⟨h1, h2⟩ | ⟨h1, h2, h3, h4⟩
  · exact .inl ⟨h1, by rw [e]; exact h2 n⟩
  · rw [List.drop_drop, show n + 1 + (lab true (l.drop (n + 1)) (n + 1) (n + 1) - (n + 1)) = lab true (l.drop (n + 1)) (n + 1) (n + 1) from by omega] at h3 h4
    exact .inr ⟨by omega, by have := h.1; omega, by simp at h2; omega, by rw [e]; exact h3 n, h4⟩

/-! ### isLabel -/
def okc (c : UInt8) : Bool := alnum c || decide (c = 45)

def lastAl : List UInt8 → Bool → Bool
  | [], b => b
  | c :: cs, _ => lastAl cs (alnum c)

/-- A label: not empty, a letter or digit at each end, letters, digits and hyphens. -/
def labB : List UInt8 → Bool
  | [] => false
  | c :: cs => alnum c && lastAl cs (alnum c) && cs.all okc

theorem run12 (cs : List UInt8) (hd : ∀ c, c ∈ cs → c ≠ 46) : ∀ b : Bool, run (if b then 1 else 2) cs = if cs.all okc then (if lastAl cs b then 1 else 2) else 3 := by
  induction cs with
  | nil => intro b; cases b <;> rfl
  | cons c cs ih =>
    intro b
    have hc := hd c (by simp)
    have ih' := ih (fun x hx => hd x (by simp [hx]))
    rw [run, List.all_cons, lastAl]
    by_cases ha : alnum c = true
    · have e : step (if b then 1 else 2) c = 1 := step_alnum ha (by cases b <;> decide)
      rw [e]
      have := ih' true
      simp only [if_true] at this
      rw [this]
      simp [okc, ha]
    · have ha' : alnum c = false := by simpa using ha
      by_cases h5 : c = 45
      · have e : step (if b then 1 else 2) c = 2 := by subst h5; cases b <;> simp [step, alnum_45]
        rw [e]
        have := ih' false
        simp only [Bool.false_eq_true, if_false] at this
        rw [this, ha', show okc c = true from by simp [okc, h5], Bool.true_and]
      · have e : step (if b then 1 else 2) c = 3 := by cases b <;> simp [step, ha', h5, hc]
        rw [e, run_dead]
        simp [okc, ha', h5]

theorem run_label (l : List UInt8) (hd : ∀ c, c ∈ l → c ≠ 46) : run 0 l = 1 ↔ labB l = true := by
  cases l with
  | nil => simp [run, labB]
  | cons c cs =>
    rw [run, labB]
    by_cases ha : alnum c = true
    · rw [step_alnum ha (by decide), ha]
      have := run12 cs (fun x hx => hd x (by simp [hx])) true
      simp only [if_true] at this
      rw [this]
      cases h1 : cs.all okc <;> cases h2 : lastAl cs true <;> simp
    · rw [step0_else ha, run_dead]
      simp [ha]

/-! ### isDomain's loop -/
def DLoop (l : List UInt8) (st j : Nat) : Prop :=
  (j ≤ l.length ∧ st ≤ j ∧ (∀ c, c ∈ (l.drop st).take (j - st) → c ≠ 46) ∧ run 0 (l.take st) = 0) ∨ (j = l.length + 1 ∧ run 0 l = 1)

theorem dloop_start (l : List UInt8) : DLoop l 0 0 := .inl ⟨Nat.zero_le _, Nat.le_refl _, fun c hc => by simp at hc, rfl⟩

theorem seg_split (l : List UInt8) (st j : Nat) (h : st ≤ j) : run 0 (l.take j) = run (run 0 (l.take st)) ((l.drop st).take (j - st)) := by
  have e : l.take j = l.take st ++ (l.drop st).take (j - st) := by
    rw [← List.take_add, show st + (j - st) = j from by omega]
  rw [e, run_append]

theorem dloop_seg {l : List UInt8} {st j : Nat} (h : DLoop l st j) (hj : j ≤ l.length) : st ≤ j ∧ run 0 (l.take st) = 0 ∧ (∀ c, c ∈ (l.drop st).take (j - st) → c ≠ 46) := by
  rcases h with ⟨_, h2, h3, h4⟩ | ⟨h1, _⟩
  · exact ⟨h2, h4, h3⟩
  · omega

theorem dloop_bad {l : List UInt8} {st j : Nat} (h : DLoop l st j) (hj : j ≤ l.length) (hl : labB ((l.drop st).take (j - st)) = false)
    (he : j = l.length ∨ ∃ h : j < l.length, l[j] = 46) : isDom l = false := by
  obtain ⟨h2, h4, h3⟩ := dloop_seg h hj
  have hne : run 0 (l.take j) ≠ 1 := by
    rw [seg_split l st j h2, h4]
    intro e
    rw [(run_label _ h3).1 e] at hl
    exact absurd hl (by decide)
  unfold isDom
  apply decide_eq_false
  rcases he with he | ⟨hlt, he⟩
  · rw [he, List.take_length] at hne
    exact hne
  · have e : run 0 l = run (run 0 (l.take j)) (l.drop j) := by rw [← run_append, List.take_append_drop]
    rw [e, drop_cons l j hlt, he, run, step_46_not1 hne, run_dead]
    decide

theorem dloop_good {l : List UInt8} {st j : Nat} (h : DLoop l st j) (hj : j ≤ l.length) (hl : labB ((l.drop st).take (j - st)) = true)
    (he : j = l.length ∨ ∃ h : j < l.length, l[j] = 46) : DLoop l (j + 1) (j + 1) := by
  obtain ⟨h2, h4, h3⟩ := dloop_seg h hj
  have h1 : run 0 (l.take j) = 1 := by
    rw [seg_split l st j h2, h4]
    exact (run_label _ h3).2 hl
  rcases he with he | ⟨hlt, he⟩
  · rw [he, List.take_length] at h1
    exact .inr ⟨by omega, h1⟩
  · refine .inl ⟨by omega, Nat.le_refl _, fun c hc => by simp at hc, ?_⟩
    rw [List.take_succ_eq_append_getElem hlt, run_append, h1, he]
    exact step_46_1

theorem dloop_more {l : List UInt8} {st j : Nat} (h : DLoop l st j) (hj : j < l.length) (he : l[j] ≠ 46) : DLoop l st (j + 1) := by
  obtain ⟨h2, h4, h3⟩ := dloop_seg h (by omega)
  refine .inl ⟨by omega, by omega, ?_, h4⟩
  intro c hc
  have hlt : j - st < (l.drop st).length := by simp; omega
  rw [show j + 1 - st = (j - st) + 1 from by omega, List.take_succ_eq_append_getElem hlt] at hc
  rcases List.mem_append.1 hc with h' | h'
  · exact h3 c h'
  · simp only [List.mem_singleton] at h'
    rw [h', List.getElem_drop]
    have : l[st + (j - st)]'(by omega) = l[j] := by congr 1; omega
    rw [this]
    exact he

theorem dloop_end {l : List UInt8} {st j : Nat} (h : DLoop l st j) (hj : l.length < j) : isDom l = true := by
  rcases h with ⟨h1, _⟩ | ⟨_, h2⟩
  · omega
  · unfold isDom; rw [h2]; rfl

/-! ### isLabel's loop -/
theorem lastAl_eq (cs : List UInt8) (c : UInt8) : lastAl cs (alnum c) = alnum ((c :: cs).getLast (by simp)) := by
  induction cs generalizing c with
  | nil => rfl
  | cons d ds ih => rw [lastAl, ih d, List.getLast_cons_cons]

theorem labB_eq (l : List UInt8) (h : 0 < l.length) : labB l = (alnum l[0] && alnum (l[l.length - 1]'(by omega)) && l.all okc) := by
  cases l with
  | nil => simp at h
  | cons c cs =>
    rw [labB, lastAl_eq, List.all_cons]
    have e : (c :: cs).getLast (by simp) = (c :: cs)[(c :: cs).length - 1]'(by simp) := List.getLast_eq_getElem _
    rw [e]
    simp only [List.getElem_cons_zero, okc]
    cases alnum c <;> simp

end Go.Proofs.Qxb6000746aMods.Dom
