/-
  THE PLAIN LAWS OF THE TTL STATEMENTS: no Go in sight. By an AI agent.
-/
namespace Go.Proofs.Qxb6000746aMods.Ttl

/-- The seconds that a unit's letter stands for, by the letter in lower case; 0 where it is none. -/
def unitN (c : Nat) : Nat :=
  if c = 115 then 1 else if c = 109 then 60 else if c = 104 then 3600 else if c = 100 then 86400 else if c = 119 then 604800 else 0

/-- What validTTL answers of the text that is left: the seconds so far, the number being read, whether it has a digit. -/
def go : List UInt8 → Nat → Nat → Bool → Bool
  | [], t, n, _ => decide (n ≤ 4294967295 - t)
  | c :: cs, t, n, d =>
    if 48 ≤ c.toNat ∧ c.toNat ≤ 57 then
      if 4294967295 < n * 10 + (c.toNat - 48) then false else go cs t (n * 10 + (c.toNat - 48)) true
    else if unitN (c ||| 32).toNat = 0 ∨ d = false ∨ 4294967295 - t < n * unitN (c ||| 32).toNat then false
    else go cs (t + n * unitN (c ||| 32).toNat) 0 false

def ttlB (l : List UInt8) : Bool := !l.isEmpty && go l 0 0 false

def digs (l : List UInt8) : Prop := ∀ c, c ∈ l → 48 ≤ c.toNat ∧ c.toNat ≤ 57

/-- The number that the digits of a list write behind n. -/
def val (n : Nat) (l : List UInt8) : Nat := l.foldl (fun m c => m * 10 + (c.toNat - 48)) n
theorem val_nil (n : Nat) : val n [] = n := rfl
theorem val_cons (n : Nat) (c : UInt8) (cs : List UInt8) : val n (c :: cs) = val (n * 10 + (c.toNat - 48)) cs := by unfold val; rw [List.foldl_cons]

theorem val_ge (l : List UInt8) : ∀ n, n ≤ val n l := by
  induction l with
  | nil => intro n; exact Nat.le_refl _
  | cons c cs ih => intro n; have := ih (n * 10 + (c.toNat - 48)); rw [val_cons]; omega

/-- Digits are read as one number, or refused where it is too great. -/
theorem go_digits (ds rest : List UInt8) (hd : digs ds) : ∀ t n d, n ≤ 4294967295 →
    go (ds ++ rest) t n d = (if 4294967295 < val n ds then false else go rest t (val n ds) (d || !ds.isEmpty)) := by
  induction ds with
  | nil => intro t n d hn; rw [val_nil, if_neg (by omega)]; simp
  | cons c cs ih =>
    intro t n d hn
    have hc := hd c (by simp)
    rw [List.cons_append, go, if_pos hc, val_cons]
    by_cases h : 4294967295 < n * 10 + (c.toNat - 48)
    · have := val_ge cs (n * 10 + (c.toNat - 48))
      rw [if_pos h, if_pos (by omega)]
    · rw [if_neg h, ih (fun x hx => hd x (by simp [hx])) t _ true (by omega)]
      simp

theorem go_digits' (ds rest : List UInt8) (hd : digs ds) (hne : ds ≠ []) (x : Nat) (hv : val 0 ds = x) (hx : x ≤ 4294967295) (t : Nat) :
    go (ds ++ rest) t 0 false = go rest t x true := by
  rw [go_digits ds rest hd t 0 false (by omega), hv, if_neg (by omega)]
  cases ds with
  | nil => exact absurd rfl hne
  | cons c cs => simp

/-- A number and its unit. -/
theorem go_unit (ds rest : List UInt8) (u : UInt8) (hd : digs ds) (hne : ds ≠ []) (x : Nat) (hv : val 0 ds = x) (hx : x ≤ 4294967295) (t m : Nat)
    (hu : ¬ (48 ≤ u.toNat ∧ u.toNat ≤ 57)) (hm : unitN (u ||| 32).toNat = m) (hm0 : m ≠ 0) (ht : t ≤ 4294967295) :
    go (ds ++ u :: rest) t 0 false = (if t + x * m ≤ 4294967295 then go rest (t + x * m) 0 false else false) := by
  rw [go_digits' ds (u :: rest) hd hne x hv hx t]
  simp only [go, if_neg hu, hm]
  by_cases h : t + x * m ≤ 4294967295
  · rw [if_pos h, if_neg (by simp [hm0]; omega)]
  · rw [if_neg h, if_pos (by right; right; omega)]

theorem val_zeros (k : Nat) (l : List UInt8) : val 0 (List.replicate k 48 ++ l) = val 0 l := by
  induction k with
  | zero => simp
  | succ k ih => rw [List.replicate_succ, List.cons_append, val_cons]; exact ih

theorem digs_zeros (k : Nat) (l : List UInt8) (h : digs l) : digs (List.replicate k 48 ++ l) := by
  intro c hc
  rcases List.mem_append.1 hc with h' | h'
  · have := (List.mem_replicate.1 h').2; subst this; decide
  · exact h c h'

/-- A plain decimal, zeros ahead of it or not. -/
theorem ttl_decimal (l : List UInt8) (x k : Nat) (hd : digs l) (hne : l ≠ []) (hv : val 0 l = x) : ttlB (List.replicate k 48 ++ l) = decide (x ≤ 4294967295) := by
  have hd' := digs_zeros k l hd
  have e := go_digits (List.replicate k 48 ++ l) [] hd' 0 0 false (by omega)
  rw [List.append_nil, val_zeros, hv] at e
  unfold ttlB
  rw [e]
  have hne' : (List.replicate k 48 ++ l).isEmpty = false := by
    cases l with
    | nil => exact absurd rfl hne
    | cons c cs => simp
  rw [hne']
  by_cases h : 4294967295 < x
  · simp [h]
  · simp [h, go]

/-- The units' law: weeks, days, hours, minutes, each with its letter; seconds with or without. -/
theorem ttl_units (lw ld lh lm ls tail : List UInt8) (uw ud uh um : UInt8) (w d h m s : Nat)
    (dw : digs lw) (dd : digs ld) (dh : digs lh) (dm : digs lm) (ds : digs ls)
    (nw : lw ≠ []) (nd : ld ≠ []) (nh : lh ≠ []) (nm : lm ≠ []) (ns : ls ≠ [])
    (vw : val 0 lw = w) (vd : val 0 ld = d) (vh : val 0 lh = h) (vm : val 0 lm = m) (vs : val 0 ls = s)
    (bw : w ≤ 4294967295) (bd : d ≤ 4294967295) (bh : h ≤ 4294967295) (bm : m ≤ 4294967295) (bs : s ≤ 4294967295)
    (kw : uw = 119 ∨ uw = 87) (kd : ud = 100 ∨ ud = 68) (kh : uh = 104 ∨ uh = 72) (km : um = 109 ∨ um = 77)
    (ks : tail = [] ∨ tail = [115] ∨ tail = [83]) :
    ttlB (lw ++ uw :: (ld ++ ud :: (lh ++ uh :: (lm ++ um :: (ls ++ tail))))) = decide (w * 604800 + d * 86400 + h * 3600 + m * 60 + s ≤ 4294967295) := by
  unfold ttlB
  have hne : (lw ++ uw :: (ld ++ ud :: (lh ++ uh :: (lm ++ um :: (ls ++ tail))))).isEmpty = false := by
    cases lw with
    | nil => exact absurd rfl nw
    | cons c cs => simp
  rw [hne]
  simp only [Bool.not_false, Bool.true_and]
  rw [go_unit lw _ uw dw nw w vw bw 0 604800 (by rcases kw with rfl | rfl <;> decide) (by rcases kw with rfl | rfl <;> decide) (by decide) (by omega)]
  split
  next h1 =>
    rw [go_unit ld _ ud dd nd d vd bd _ 86400 (by rcases kd with rfl | rfl <;> decide) (by rcases kd with rfl | rfl <;> decide) (by decide) h1]
    split
    next h2 =>
      rw [go_unit lh _ uh dh nh h vh bh _ 3600 (by rcases kh with rfl | rfl <;> decide) (by rcases kh with rfl | rfl <;> decide) (by decide) h2]
      split
      next h3 =>
        rw [go_unit lm _ um dm nm m vm bm _ 60 (by rcases km with rfl | rfl <;> decide) (by rcases km with rfl | rfl <;> decide) (by decide) h3]
        split
        next h4 =>
          rcases ks with rfl | rfl | rfl
          · rw [go_digits' ls [] ds ns s vs bs]
            simp only [go, decide_eq_decide]
            omega
          · rw [go_unit ls [] 115 ds ns s vs bs _ 1 (by decide) (by decide) (by decide) h4]
            split <;> simp [go] <;> omega
          · rw [go_unit ls [] 83 ds ns s vs bs _ 1 (by decide) (by decide) (by decide) h4]
            split <;> simp [go] <;> omega
        next h4 => simp; omega
      next h3 => simp; omega
    next h2 => simp; omega
  next h1 => simp; omega

/-! ### What utoa's round does -/
theorem val_step (x : Nat) (c : UInt8) (l : List UInt8) (hc : c.toNat = 48 + x % 10) : val (x / 10) (c :: l) = val x l := by
  rw [val_cons, hc, show x / 10 * 10 + (48 + x % 10 - 48) = x from by omega]

theorem digs_cons (c : UInt8) (l : List UInt8) (x : Nat) (hc : c.toNat = 48 + x % 10) (h : digs l) : digs (c :: l) := by
  intro a ha
  rcases List.mem_cons.1 ha with h' | h'
  · subst h'; omega
  · exact h a h'

theorem digs_nil : digs [] := fun _ h => absurd h (by simp)

/-! ### The letters: Go's 'c or 0x20' -/
theorem or32 : ∀ c : UInt8, (c ||| 32).toNat = c.toNat ||| 32 := by
  intro c; rfl

end Go.Proofs.Qxb6000746aMods.Ttl
