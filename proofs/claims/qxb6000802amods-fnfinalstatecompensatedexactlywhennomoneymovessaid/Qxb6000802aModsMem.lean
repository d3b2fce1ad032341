/-
  THE TWO ROWS OF BALANCES IN MEMORY: what Expected keeps. By an AI agent.
-/
import Derived.Test.Qxb6000802aModsRows
import Derived.Test.Qxb6000802aModsPlain
import Derived.WalkKit
import Derived.ProofKit
import Derived.Laws.IdiomStrings
namespace Go.Proofs.Qxb6000802aMods.Tr
open Go.RowKit

/-- Block b holds the ten numbers f 0 .. f 9. -/
def Row (w : World) (b : Nat) (f : Nat → Int) : Prop := ∃ cs : Array Value, w.heap[b]? = some (.cells cs 3 (0, 0)) ∧ cs.size = 10 ∧ ∀ a, a < 10 → cs[a]? = some (.int .i64 (f a))

theorem Row.cell {w : World} {b : Nat} {f : Nat → Int} (h : Row w b f) (a : Nat) (ha : a < 10) : w.cell? ⟨b, a, none⟩ = some (.int .i64 (f a)) := by
  obtain ⟨cs, h1, _, h3⟩ := h
  unfold World.cell?
  rw [h1]
  simpa using h3 a ha

theorem Row.free {w : World} {b : Nat} {f : Nat → Int} (h : Row w b f) (a : Nat) : w.frozen? ⟨b, a, none⟩ = false := by
  obtain ⟨cs, h1, _, _⟩ := h
  unfold World.frozen?
  rw [h1]
  simp

theorem Row.lt {w : World} {b : Nat} {f : Nat → Int} (h : Row w b f) : b < w.heap.size := by
  obtain ⟨cs, h1, _, _⟩ := h
  exact (Array.getElem?_eq_some_iff.1 h1).1

theorem Row.congr {w : World} {b : Nat} {f g : Nat → Int} (h : Row w b f) (e : ∀ a, a < 10 → g a = f a) : Row w b g := by
  obtain ⟨cs, h1, h2, h3⟩ := h
  exact ⟨cs, h1, h2, fun a ha => by rw [e a ha]; exact h3 a ha⟩

theorem Row.set {w : World} {b : Nat} {f : Nat → Int} (h : Row w b f) (i : Nat) (x : Int) : Row (w.setCell ⟨b, i, none⟩ (.int .i64 x)) b (fun a => if a = i then x else f a) := by
  obtain ⟨cs, h1, h2, h3⟩ := h
  refine ⟨cs.setIfInBounds i (.int .i64 x), ?_, by simpa using h2, ?_⟩
  · simp only [World.setCell, Array.getElem?_modify, if_true, h1, Option.map_some]
    rfl
  · intro a ha
    rw [Array.getElem?_setIfInBounds]
    by_cases e : a = i
    · subst e
      simp [h2, ha]
    · rw [if_neg (fun h => e h.symm)]
      show _ = some (Value.int .i64 (if a = i then x else f a))
      rw [if_neg e]
      exact h3 a ha

theorem Row.other {w : World} {b : Nat} {f : Nat → Int} (h : Row w b f) (p : Addr) (hp : p.block ≠ b) (v : Value) : Row (w.setCell p v) b f := by
  obtain ⟨cs, h1, h2, h3⟩ := h
  refine ⟨cs, ?_, h2, h3⟩
  simp only [World.setCell, Array.getElem?_modify]
  rw [if_neg hp]
  exact h1

theorem Row.below {w w' : World} {b B : Nat} {f : Nat → Int} (h : Row w b f) (hb : Below B w w') (hlt : b < B) : Row w' b f := by
  obtain ⟨cs, h1, h2, h3⟩ := h
  exact ⟨cs, (hb.block b hlt).trans h1, h2, h3⟩

/-- What Expected keeps: two rows of the call's own; of what was there nothing has turned. -/
structure MInv (w0 : World) (bd bc : Nat) (f g : Nat → Int) (w : World) : Prop where
  ld : w0.heap.size ≤ bd
  lc : w0.heap.size ≤ bc
  ne : bd ≠ bc
  rd : Row w bd f
  rc : Row w bc g
  below : Below w0.heap.size w0 w

theorem MInv.congr {w0 w : World} {bd bc : Nat} {f g f' g' : Nat → Int} (h : MInv w0 bd bc f g w) (ef : ∀ a, a < 10 → f' a = f a) (eg : ∀ a, a < 10 → g' a = g a) : MInv w0 bd bc f' g' w :=
  ⟨h.ld, h.lc, h.ne, h.rd.congr ef, h.rc.congr eg, h.below⟩

theorem MInv.setD {w0 w : World} {bd bc : Nat} {f g : Nat → Int} (h : MInv w0 bd bc f g w) (i : Nat) (x : Int) : MInv w0 bd bc (fun a => if a = i then x else f a) g (w.setCell ⟨bd, i, none⟩ (.int .i64 x)) :=
  ⟨h.ld, h.lc, h.ne, h.rd.set i x, h.rc.other _ h.ne _, h.below.setCell h.ld _⟩

theorem MInv.setC {w0 w : World} {bd bc : Nat} {f g : Nat → Int} (h : MInv w0 bd bc f g w) (i : Nat) (x : Int) : MInv w0 bd bc f (fun a => if a = i then x else g a) (w.setCell ⟨bc, i, none⟩ (.int .i64 x)) :=
  ⟨h.ld, h.lc, h.ne, h.rd.other _ (fun e => h.ne e.symm) _, h.rc.set i x, h.below.setCell h.lc _⟩

/-- The first loop: account k of both is opened. -/
def opened (k a : Nat) : Int := if a < k then 1000 else 0

theorem MInv.opens {w0 w : World} {bd bc k : Nat} (h : MInv w0 bd bc (opened k) (opened k) w) : MInv w0 bd bc (opened (k + 1)) (opened (k + 1)) ((w.setCell ⟨bd, k, none⟩ (.int .i64 1000)).setCell ⟨bc, k, none⟩ (.int .i64 1000)) := by
  have e : ∀ a, a < 10 → opened (k + 1) a = if a = k then 1000 else opened k a := by
    intro a _
    unfold opened
    by_cases h1 : a = k
    · rw [if_pos h1, if_pos (by omega)]
    · rw [if_neg h1]
      by_cases h2 : a < k
      · rw [if_pos h2, if_pos (by omega)]
      · rw [if_neg h2, if_neg (by omega)]
  exact ((h.setD k 1000).setC k 1000).congr e e

theorem MInv.begin {w0 w : World} {bd bc : Nat} (h : MInv w0 bd bc (opened 10) (opened 10) w) : MInv w0 bd bc (dB 0) (cB 0) w :=
  h.congr (fun a ha => by rw [dB_zero a ha]; unfold opened; rw [if_pos ha]) (fun a ha => by rw [cB_zero a ha]; unfold opened; rw [if_pos ha])

theorem MInv.skip {w0 w : World} {bd bc k : Nat} (h : MInv w0 bd bc (dB k) (cB k) w) (hk : k % 10 = 0) : MInv w0 bd bc (dB (k + 1)) (cB (k + 1)) w :=
  h.congr (fun a ha => dB_same k a hk ha) (fun a _ => cB_same k a hk)

theorem MInv.move {w0 w : World} {bd bc k : Nat} (h : MInv w0 bd bc (dB k) (cB k) w) (hk : k % 10 ≠ 0) :
    MInv w0 bd bc (dB (k + 1)) (cB (k + 1)) ((w.setCell ⟨bd, k % 10, none⟩ (.int .i64 (dB k (k % 10) - 1))).setCell ⟨bc, (k + 1) % 10, none⟩ (.int .i64 (cB k ((k + 1) % 10) + 1))) :=
  ((h.setD (k % 10) _).setC ((k + 1) % 10) _).congr (fun a ha => dB_step k a hk ha) (fun a ha => cB_step k a hk ha)

/-- The ten zero cells that 'make' lays. -/
def zeros : Array Value := #[.int .i64 0, .int .i64 0, .int .i64 0, .int .i64 0, .int .i64 0, .int .i64 0, .int .i64 0, .int .i64 0, .int .i64 0, .int .i64 0]

theorem zeros_at (a : Nat) (ha : a < 10) : zeros[a]? = some (.int .i64 (opened 0 a)) := by
  have : ∀ a : Fin 10, zeros[a.val]? = some (.int .i64 (opened 0 a.val)) := by
    intro a
    match a with
    | 0 => rfl
    | 1 => rfl
    | 2 => rfl
    | 3 => rfl
    | 4 => rfl
    | 5 => rfl
    | 6 => rfl
    | 7 => rfl
    | 8 => rfl
    | 9 => rfl
  exact this ⟨a, ha⟩

theorem heap_new (w : World) (o : Obj) : (w.alloc o).heap[w.heap.size]? = some o := heap_alloc_new w o
theorem heap_old (w : World) (o : Obj) (k : Nat) (hk : k < w.heap.size) : (w.alloc o).heap[k]? = w.heap[k]? := Below.heap_alloc w o k hk

theorem rows_made (w : World) : Row ((w.alloc (.cells zeros 3)).alloc (.cells zeros 3)) w.heap.size (opened 0) ∧ Row ((w.alloc (.cells zeros 3)).alloc (.cells zeros 3)) (w.heap.size + 1) (opened 0) := by
  refine ⟨⟨zeros, ?_, rfl, zeros_at⟩, ⟨zeros, ?_, rfl, zeros_at⟩⟩
  · rw [heap_old _ _ _ (by simp)]
    exact heap_new w _
  · have := heap_new (w.alloc (.cells zeros 3)) (.cells zeros 3)
    simpa using this

theorem made_dc (w : World) : MInv w w.heap.size (w.heap.size + 1) (opened 0) (opened 0) ((w.alloc (.cells zeros 3)).alloc (.cells zeros 3)) :=
  ⟨Nat.le_refl _, by omega, by omega, (rows_made w).1, (rows_made w).2, ((Below.refl _ _).alloc (Nat.le_refl _) _).alloc (by simp) _⟩
theorem made_cd (w : World) : MInv w (w.heap.size + 1) w.heap.size (opened 0) (opened 0) ((w.alloc (.cells zeros 3)).alloc (.cells zeros 3)) :=
  ⟨by omega, Nat.le_refl _, by omega, (rows_made w).2, (rows_made w).1, ((Below.refl _ _).alloc (Nat.le_refl _) _).alloc (by simp) _⟩

theorem MInv.drew {w0 w : World} {bd bc : Nat} {f g : Nat → Int} (h : MInv w0 bd bc f g w) : MInv w0 bd bc f g w.drew :=
  ⟨h.ld, h.lc, h.ne, h.rd, h.rc, h.below.drew⟩
end Go.Proofs.Qxb6000802aMods.Tr
