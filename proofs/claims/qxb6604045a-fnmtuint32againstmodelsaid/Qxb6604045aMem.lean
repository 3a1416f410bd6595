/-
  Rows of words in memory; a generator in memory; what a write to one block leaves alone.
-/
import Derived.Test.Qxb6604045aWords
import Derived.Test.Qxb6604045aPlain
import Derived.WalkKit
import Derived.Deep.Draws
namespace Go.Proofs.Qxb6604045a
open Go.RowKit

/-- The first n cells of block b hold the words s 0 .. s (n - 1), and may be written. -/
def Row (w : World) (b n : Nat) (s : Nat → BitVec 32) : Prop :=
  ∀ j, j < n → w.cell? ⟨b, j, none⟩ = some (.int .u32 (ui (s j))) ∧ w.frozen? ⟨b, j, none⟩ = false

theorem Row.cell {w : World} {b n : Nat} {s : Nat → BitVec 32} (h : Row w b n s) {j : Nat} (hj : j < n) : w.cell? ⟨b, j, none⟩ = some (.int .u32 (ui (s j))) := (h j hj).1
theorem Row.free {w : World} {b n : Nat} {s : Nat → BitVec 32} (h : Row w b n s) {j : Nat} (hj : j < n) : w.frozen? ⟨b, j, none⟩ = false := (h j hj).2

theorem Row.drewN {w : World} {b n : Nat} {s : Nat → BitVec 32} (h : Row w b n s) (k : Nat) : Row (w.drewN k) b n s := h
theorem Row.drew {w : World} {b n : Nat} {s : Nat → BitVec 32} (h : Row w b n s) : Row w.drew b n s := h

theorem Row.set {w : World} {b n : Nat} {s : Nat → BitVec 32} (h : Row w b n s) (i : Nat) (hi : i < n) (v : BitVec 32) :
    Row (w.setCell ⟨b, i, none⟩ (.int .u32 (ui v))) b n (upd s i v) := by
  intro j hj
  refine ⟨?_, by rw [World.frozen?_setCell]; exact h.free hj⟩
  by_cases e : j = i
  · subst e; rw [upd_same]; exact World.cell?_setCell_same _ _ _ (h.cell hj)
  · rw [upd_other _ _ e, World.cell?_setCell_other _ _ _ _ (by intro q; injection q; omega)]; exact h.cell hj

/-- A write to a cell beyond the row, or to another block. -/
theorem Row.setOther {w : World} {b n : Nat} {s : Nat → BitVec 32} (h : Row w b n s) (a : Addr) (ha : a.block = b → n ≤ a.off) (v : Value) :
    Row (w.setCell a v) b n s := by
  intro j hj
  refine ⟨?_, by rw [World.frozen?_setCell]; exact h.free hj⟩
  rw [World.cell?_setCell_other _ _ _ _ (by intro q; subst q; have := ha rfl; simp at this; omega)]; exact h.cell hj

theorem Row.setO {w : World} {b n : Nat} {s : Nat → BitVec 32} (h : Row w b n s) {g : Nat} (hg : g ≠ b) (i : Nat) (v : Value) : Row (w.setCell ⟨g, i, none⟩ v) b n s :=
  h.setOther ⟨g, i, none⟩ (fun e => absurd e hg) v

theorem Row.ofBlock {w w' : World} {b n : Nat} {s : Nat → BitVec 32} (h : Row w b n s) (e : w'.heap[b]? = w.heap[b]?) : Row w' b n s := by
  intro j hj
  exact ⟨(World.cell?_of_block (w := w) e).trans (h.cell hj), (World.frozen?_of_block (w := w) e).trans (h.free hj)⟩

theorem Row.lt {w : World} {b n : Nat} {s : Nat → BitVec 32} (h : Row w b n s) (hn : 0 < n) : b < w.heap.size := block_lt_of_cell (h.cell hn)

theorem Row.alloc {w : World} {b n : Nat} {s : Nat → BitVec 32} (h : Row w b n s) (hn : 0 < n) (o : Obj) : Row (w.alloc o) b n s :=
  h.ofBlock (Below.heap_alloc w o b (h.lt hn))

theorem Row.congr {w : World} {b n : Nat} {s t : Nat → BitVec 32} (h : Row w b n s) (e : ∀ j, j < n → s j = t j) : Row w b n t := by
  intro j hj; rw [← e j hj]; exact h j hj

/-- Block b alone has turned. -/
structure Only (b : Nat) (w w' : World) : Prop where
  os : w'.os = w.os
  tape : w'.tape = w.tape
  output : w'.output = w.output
  size : w'.heap.size = w.heap.size
  block : ∀ k, k ≠ b → w'.heap[k]? = w.heap[k]?

theorem Only.refl (b : Nat) (w : World) : Only b w w := ⟨rfl, rfl, rfl, rfl, fun _ _ => rfl⟩
theorem Only.trans {b : Nat} {a c d : World} (h : Only b a c) (k : Only b c d) : Only b a d :=
  ⟨k.os.trans h.os, k.tape.trans h.tape, k.output.trans h.output, k.size.trans h.size, fun i hi => (k.block i hi).trans (h.block i hi)⟩
theorem Only.setCell {b : Nat} {a w : World} (h : Only b a w) (i : Nat) (v : Value) : Only b a (w.setCell ⟨b, i, none⟩ v) :=
  h.trans ⟨rfl, rfl, rfl, by simp [World.setCell], fun k hk => Below.heap_setCell _ _ _ _ hk⟩
theorem Only.drewN {b : Nat} {a w : World} (h : Only b a w) (n : Nat) : Only b a (w.drewN n) := h.trans ⟨rfl, rfl, rfl, rfl, fun _ _ => rfl⟩
theorem Only.drew {b : Nat} {a w : World} (h : Only b a w) : Only b a w.drew := h.trans ⟨rfl, rfl, rfl, rfl, fun _ _ => rfl⟩
theorem Only.below {b B : Nat} {w w' : World} (h : Only b w w') (hB : B ≤ b) : Below B w w' :=
  ⟨h.os, h.tape, h.output, by rw [h.size]; exact Nat.le_refl _, fun k hk => h.block k (by omega)⟩
theorem Row.only {w w' : World} {b c n : Nat} {s : Nat → BitVec 32} (h : Row w b n s) (o : Only c w w') (hbc : b ≠ c) : Row w' b n s := h.ofBlock (o.block b hbc)

/-- A generator in block b: its words, and the index of the next one. -/
def MT (w : World) (b : Nat) (s : Nat → BitVec 32) (nx : Int) : Prop :=
  Row w b 624 s ∧ w.cell? ⟨b, 624, none⟩ = some (.int .i64 nx) ∧ w.frozen? ⟨b, 624, none⟩ = false

theorem MT.drewN {w : World} {b : Nat} {s : Nat → BitVec 32} {nx : Int} (h : MT w b s nx) (k : Nat) : MT (w.drewN k) b s nx := h
theorem MT.drew {w : World} {b : Nat} {s : Nat → BitVec 32} {nx : Int} (h : MT w b s nx) : MT w.drew b s nx := h
theorem MT.set {w : World} {b : Nat} {s : Nat → BitVec 32} {nx : Int} (h : MT w b s nx) (i : Nat) (hi : i < 624) (v : BitVec 32) :
    MT (w.setCell ⟨b, i, none⟩ (.int .u32 (ui v))) b (upd s i v) nx :=
  ⟨h.1.set i hi v, by rw [World.cell?_setCell_other _ _ _ _ (by intro q; injection q; omega)]; exact h.2.1, by rw [World.frozen?_setCell]; exact h.2.2⟩
theorem MT.setNext {w : World} {b : Nat} {s : Nat → BitVec 32} {nx : Int} (h : MT w b s nx) (nx' : Int) :
    MT (w.setCell ⟨b, 624, none⟩ (.int .i64 nx')) b s nx' :=
  ⟨h.1.setOther _ (fun _ => Nat.le_refl _) _, World.cell?_setCell_same _ _ _ h.2.1, by rw [World.frozen?_setCell]; exact h.2.2⟩
theorem MT.ofBlock {w w' : World} {b : Nat} {s : Nat → BitVec 32} {nx : Int} (h : MT w b s nx) (e : w'.heap[b]? = w.heap[b]?) : MT w' b s nx :=
  ⟨h.1.ofBlock e, (World.cell?_of_block (w := w) e).trans h.2.1, (World.frozen?_of_block (w := w) e).trans h.2.2⟩
theorem MT.lt {w : World} {b : Nat} {s : Nat → BitVec 32} {nx : Int} (h : MT w b s nx) : b < w.heap.size := h.1.lt (by omega)
theorem MT.alloc {w : World} {b : Nat} {s : Nat → BitVec 32} {nx : Int} (h : MT w b s nx) (o : Obj) : MT (w.alloc o) b s nx := h.ofBlock (Below.heap_alloc w o b h.lt)
theorem MT.only {w w' : World} {b c : Nat} {s : Nat → BitVec 32} {nx : Int} (h : MT w b s nx) (o : Only c w w') (hbc : b ≠ c) : MT w' b s nx := h.ofBlock (o.block b hbc)
theorem MT.congr {w : World} {b : Nat} {s t : Nat → BitVec 32} {nx : Int} (h : MT w b s nx) (e : ∀ j, j < 624 → s j = t j) : MT w b t nx := ⟨h.1.congr e, h.2⟩

end Go.Proofs.Qxb6604045a
