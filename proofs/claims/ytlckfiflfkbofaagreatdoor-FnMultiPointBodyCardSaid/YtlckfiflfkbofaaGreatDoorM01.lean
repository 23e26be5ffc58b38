/- Memory words: a block's cells as a function, and what a call keeps; no function of the program in sight. Part 1 of 51 of the proof that FnMultiPointBody returns true for every text and every type of coordinates, where the listed variables hold what the text of the program lays. -/
import Derived.Test.YtlckfiflfkbofaaGreatDoorProg
import Derived.Below
import Derived.Deep.Draws
import Derived.OwnWalk
import Derived.WalkKit
import Derived.KernelRfl
import Derived.RowKit3
import Derived.Deep.LoopGhost
import Derived.Deep.QuietTactic
import Derived.BigQuiet
import Derived.WalkSpells
import Derived.WalkLawsBesides
import Derived.Lib.Hide
set_option linter.all false

/- Memory words: a block's cells as a function, and what a call keeps; no function of the program in sight. -/
namespace Go.Proofs.YtlckfiflfkbofaaGreatDoor
open Go.RowKit

/-- Block b's first n cells read as f says, and none is frozen. -/
def Cells (w : World) (b n : Nat) (f : Nat → Value) : Prop := ∀ i, i < n → w.cell? ⟨b, i, none⟩ = some (f i) ∧ w.frozen? ⟨b, i, none⟩ = false

theorem Cells.cell {w : World} {b n : Nat} {f : Nat → Value} (h : Cells w b n f) {i : Nat} (hi : i < n) : w.cell? ⟨b, i, none⟩ = some (f i) := (h i hi).1
theorem Cells.froz {w : World} {b n : Nat} {f : Nat → Value} (h : Cells w b n f) {i : Nat} (hi : i < n) : w.frozen? ⟨b, i, none⟩ = false := (h i hi).2
theorem Cells.lt {w : World} {b n : Nat} {f : Nat → Value} (h : Cells w b n f) (hn : 0 < n) : b < w.heap.size := World.block_lt_of_cell? (w := w) (a := ⟨b, 0, none⟩) (h.cell hn)

theorem Cells.set {w : World} {b n : Nat} {f g : Nat → Value} (h : Cells w b n f) (o : Nat) (v : Value) (hg : ∀ i, i < n → g i = if i = o then v else f i) : Cells (w.setCell ⟨b, o, none⟩ v) b n g := by
  intro i hi
  rw [World.frozen?_setCell]
  refine ⟨?_, (h i hi).2⟩
  rw [hg i hi]
  by_cases e : i = o
  · subst e
    rw [if_pos rfl]
    exact World.cell?_setCell_same w _ v (h i hi).1
  · rw [if_neg e, World.cell?_setCell_other]
    · exact (h i hi).1
    · intro e2; cases e2; exact e rfl

theorem Cells.of_eq {w : World} {b n : Nat} {f g : Nat → Value} (h : Cells w b n f) (hg : ∀ i, i < n → g i = f i) : Cells w b n g := fun i hi => by rw [hg i hi]; exact h i hi

theorem Cells.other {w : World} {b n : Nat} {f : Nat → Value} (h : Cells w b n f) {a : Addr} (ha : a.block ≠ b) (v : Value) : Cells (w.setCell a v) b n f := by
  intro i hi
  rw [World.frozen?_setCell]
  refine ⟨?_, (h i hi).2⟩
  rw [World.cell?_setCell_other]
  · exact (h i hi).1
  · intro e; subst e; exact ha rfl

theorem cell_block {w w' : World} {b i : Nat} (h : w'.heap[b]? = w.heap[b]?) : w'.cell? ⟨b, i, none⟩ = w.cell? ⟨b, i, none⟩ ∧ w'.frozen? ⟨b, i, none⟩ = w.frozen? ⟨b, i, none⟩ := by
  constructor
  · simp only [World.cell?, h]
  · simp only [World.frozen?, h]

theorem Cells.of_block {w w' : World} {b n : Nat} {f : Nat → Value} (h : Cells w b n f) (hb : w'.heap[b]? = w.heap[b]?) : Cells w' b n f := by
  intro i hi
  rw [(cell_block hb).1, (cell_block hb).2]
  exact h i hi

theorem Cells.alloc {w : World} {b n : Nat} {f : Nat → Value} (h : Cells w b n f) (hn : 0 < n) (o : Obj) : Cells (w.alloc o) b n f :=
  h.of_block (Below.heap_alloc _ _ _ (h.lt hn))
theorem Cells.drew {w : World} {b n : Nat} {f : Nat → Value} (h : Cells w b n f) : Cells w.drew b n f := h
theorem Cells.drewN {w : World} {b n : Nat} {f : Nat → Value} (h : Cells w b n f) (k : Nat) : Cells (w.drewN k) b n f := h

/-- A new block of cells. -/
theorem Cells.new (w : World) (c : Array Value) (t : TypeId) (f : Nat → Value) (n : Nat) (hc : ∀ i, i < n → c[i]? = some (f i)) : Cells (w.alloc (.cells c t)) w.heap.size n f := by
  intro i hi
  rw [World.cell?_alloc_new, World.frozen?_alloc_new]
  exact ⟨hc i hi, rfl⟩

/-- What was there is as it was, but for the blocks of S; the streams are as they were. -/
structure Keep (S : Nat → Prop) (w w' : World) : Prop where
  os : w'.os = w.os
  tape : w'.tape = w.tape
  output : w'.output = w.output
  size : w.heap.size ≤ w'.heap.size
  block : ∀ k, k < w.heap.size → ¬ S k → w'.heap[k]? = w.heap[k]?

theorem Keep.refl (S : Nat → Prop) (w : World) : Keep S w w := ⟨rfl, rfl, rfl, Nat.le_refl _, fun _ _ _ => rfl⟩
theorem Keep.trans {S : Nat → Prop} {a b c : World} (h : Keep S a b) (k : Keep S b c) : Keep S a c :=
  ⟨k.os.trans h.os, k.tape.trans h.tape, k.output.trans h.output, Nat.le_trans h.size k.size, fun i hi hs => (k.block i (Nat.lt_of_lt_of_le hi h.size) hs).trans (h.block i hi hs)⟩
/-- The second step may write what the first has made. -/
theorem Keep.trans' {S S' : Nat → Prop} {a b c : World} (h : Keep S a b) (k : Keep S' b c) (hS : ∀ i, i < a.heap.size → S' i → S i) : Keep S a c :=
  ⟨k.os.trans h.os, k.tape.trans h.tape, k.output.trans h.output, Nat.le_trans h.size k.size, fun i hi hs => (k.block i (Nat.lt_of_lt_of_le hi h.size) (fun x => hs (hS i hi x))).trans (h.block i hi hs)⟩
theorem Keep.mono {S S' : Nat → Prop} {a b : World} (h : Keep S a b) (hS : ∀ i, i < a.heap.size → S i → S' i) : Keep S' a b :=
  ⟨h.os, h.tape, h.output, h.size, fun k hk hs => h.block k hk (fun x => hs (hS k hk x))⟩
theorem Keep.drew {S : Nat → Prop} {a w : World} (h : Keep S a w) : Keep S a w.drew := ⟨h.os, h.tape, h.output, h.size, h.block⟩
theorem Keep.drewN {S : Nat → Prop} {a w : World} (h : Keep S a w) (n : Nat) : Keep S a (w.drewN n) := ⟨h.os, h.tape, h.output, h.size, h.block⟩
theorem Keep.alloc {S : Nat → Prop} {a w : World} (h : Keep S a w) (o : Obj) : Keep S a (w.alloc o) :=
  h.trans ⟨rfl, rfl, rfl, by simp, fun k hk _ => Below.heap_alloc _ _ _ hk⟩
theorem Keep.setCell {S : Nat → Prop} {a w : World} (h : Keep S a w) {p : Addr} (hp : a.heap.size ≤ p.block ∨ S p.block) (u : Value) : Keep S a (w.setCell p u) := by
  refine h.trans' (S' := fun k => k = p.block) ⟨rfl, rfl, rfl, by simp [World.setCell], fun k hk hs => Below.heap_setCell _ _ _ _ hs⟩ ?_
  intro i hi e
  subst e
  rcases hp with hp | hp
  · omega
  · exact hp
theorem Keep.of_below {S : Nat → Prop} {w w' : World} (h : Below w.heap.size w w') : Keep S w w' := ⟨h.os, h.tape, h.output, h.size, fun k hk _ => h.block k hk⟩
theorem Keep.below {w w' : World} (h : Keep (fun _ => False) w w') : Below w.heap.size w w' := ⟨h.os, h.tape, h.output, h.size, fun k hk => h.block k hk (fun x => x)⟩
theorem Keep.below_of {S : Nat → Prop} {w w' : World} {B : Nat} (h : Keep S w w') (hB : B ≤ w.heap.size) (hS : ∀ k, S k → B ≤ k) : Below B w w' :=
  ⟨h.os, h.tape, h.output, h.size, fun k hk => h.block k (by omega) (fun x => by have := hS k x; omega)⟩
theorem Keep.cells {S : Nat → Prop} {w w' : World} (h : Keep S w w') {b n : Nat} {f : Nat → Value} (hc : Cells w b n f) (hn : 0 < n) (hb : ¬ S b) : Cells w' b n f :=
  hc.of_block (h.block b (hc.lt hn) hb)
theorem Keep.cell {S : Nat → Prop} {w w' : World} (h : Keep S w w') {a : Addr} {v : Value} (hc : w.cell? a = some v) (hb : ¬ S a.block) : w'.cell? a = some v := by
  rw [World.cell?_of_block (w := w) (h.block a.block (World.block_lt_of_cell? _ _ hc) hb)]; exact hc

/-- The one block b. -/
abbrev At1 (b : Nat) : Nat → Prop := fun k => k = b

end Go.Proofs.YtlckfiflfkbofaaGreatDoor
