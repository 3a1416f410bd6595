/-
  Strings in memory: slices that are read; the rows that are made and filled.
-/
import Derived.Test.Qxb6604188aProg
import Derived.WalkKit
import Derived.WalkSpells
import Derived.WalkLawsBesides
import Derived.Laws.CopyOwn
import Derived.BigQuiet
import Derived.Lib.AppendIntMem
namespace Go.Proofs.Qxb6604188a
open Go.RowKit

theorem add_lit (b off j : Nat) : (⟨b, off, none⟩ : Addr).add j = ⟨b, off + j, none⟩ := by unfold Addr.add; split <;> simp_all
/-- String j. -/
def st (l : List ByteArray) (j : Nat) : ByteArray := l.getD j ByteArray.empty
/-- The strings l lie in block b from off on. -/
def At (w : World) (b off : Nat) (l : List ByteArray) : Prop := ∀ j, j < l.length → w.cell? ⟨b, off + j, none⟩ = some (.string (st l j))
theorem At.mono {w w' : World} {b off : Nat} {l : List ByteArray} (h : At w b off l) (e : w'.heap[b]? = w.heap[b]?) : At w' b off l :=
  fun j hj => (World.cell?_of_block (w := w) e).trans (h j hj)
theorem At.below {N : Nat} {w w' : World} {b off : Nat} {l : List ByteArray} (h : At w b off l) (k : Below N w w') (hb : b < N) : At w' b off l := h.mono (k.block b hb)
theorem st_take (l : List ByteArray) (k j : Nat) (h : j < k) : st (l.take k) j = st l j := by simp [st, h]
theorem At.take {w : World} {b off : Nat} {l : List ByteArray} (h : At w b off l) (k : Nat) : At w b off (l.take k) := by
  intro j hj
  simp only [List.length_take] at hj
  rw [st_take _ _ _ (by omega)]
  exact h j (by omega)
theorem At.lt {w : World} {b off : Nat} {l : List ByteArray} (h : At w b off l) (hl : l ≠ []) : b < w.heap.size :=
  block_lt_of_cell (h 0 (List.length_pos_iff.mpr hl))
/-- The slice value v is read as the strings l; its array lies below block N. -/
def Rd (N : Nat) (w : World) (v : Value) (l : List ByteArray) : Prop :=
  (l = [] ∧ ∃ ao cap, v = .slice ao 0 cap ∧ (ao = none → cap = 0)) ∨
  (l ≠ [] ∧ ∃ b off cap, v = .slice (some ⟨b, off, none⟩) l.length cap ∧ b < N ∧ l.length ≤ cap ∧ At w b off l)
theorem Rd.below {N : Nat} {w w' : World} {v : Value} {l : List ByteArray} (h : Rd N w v l) (k : Below N w w') : Rd N w' v l := by
  rcases h with h | ⟨hl, b, off, cap, rfl, hb, hc, ha⟩
  · exact .inl h
  · exact .inr ⟨hl, b, off, cap, rfl, hb, hc, ha.below k hb⟩
theorem Rd.mono {N M : Nat} {w : World} {v : Value} {l : List ByteArray} (h : Rd N w v l) (k : N ≤ M) : Rd M w v l := by
  rcases h with h | ⟨hl, b, off, cap, rfl, hb, hc, ha⟩
  · exact .inl h
  · exact .inr ⟨hl, b, off, cap, rfl, by omega, hc, ha⟩
/-- A slice that is read, in one form: its length, and its cells where it has any. -/
theorem Rd.form {N : Nat} {w : World} {v : Value} {l : List ByteArray} (h : Rd N w v l) :
    ∃ ao cap, v = .slice ao l.length cap ∧ (ao = none → l = [] ∧ cap = 0) ∧ (l ≠ [] → ∃ b off, ao = some ⟨b, off, none⟩ ∧ b < N ∧ l.length ≤ cap ∧ At w b off l) := by
  rcases h with ⟨rfl, ao, cap, rfl, h0⟩ | ⟨hl, b, off, cap, rfl, hb, hc, ha⟩
  · exact ⟨ao, cap, rfl, fun e => ⟨rfl, h0 e⟩, fun e => absurd rfl e⟩
  · exact ⟨_, cap, rfl, (fun e => by cases e), fun _ => ⟨b, off, rfl, hb, hc, ha⟩⟩

theorem info9 : (Try.prog.info? 9).map (fun i => (i.zero, i.size, i.bytes)) = some (some (.string ByteArray.empty), 1, 16) := by kernel_rfl
theorem size9 : (Try.prog.info? 9).map (·.size) = some 1 := by kernel_rfl

/-- A row of n cells that may be written, the first k of which hold l's first strings. -/
def Cp (w : World) (g n : Nat) (l : List ByteArray) (k : Nat) : Prop :=
  ∀ j, j < n → (∃ x, w.cell? ⟨g, j, none⟩ = some x) ∧ (j < k → w.cell? ⟨g, j, none⟩ = some (.string (st l j))) ∧ w.frozen? ⟨g, j, none⟩ = false
theorem Cp.set {w : World} {g n k : Nat} {l : List ByteArray} (h : Cp w g n l k) (hk : k < n) {x : ByteArray} (hx : x = st l k) : Cp (w.setCell ⟨g, k, none⟩ (.string x)) g n l (k + 1) := by
  subst hx
  intro j hj
  obtain ⟨⟨x, hx⟩, h2, h3⟩ := h j hj
  refine ⟨?_, fun hlt => ?_, by rw [World.frozen?_setCell]; exact h3⟩
  · by_cases e : j = k
    · subst e; exact ⟨_, World.cell?_setCell_same _ _ _ hx⟩
    · exact ⟨x, by rw [World.cell?_setCell_other _ _ _ _ (by intro q; injection q; omega)]; exact hx⟩
  · by_cases e : j = k
    · subst e; exact World.cell?_setCell_same _ _ _ hx
    · rw [World.cell?_setCell_other _ _ _ _ (by intro q; injection q; omega)]; exact h2 (by omega)
theorem Cp.made {w : World} {B g n : Nat} {xs : List Value} (l : List ByteArray) (h : w.ownsRow B 9 1 (.slice (some ⟨g, 0, none⟩) n n) n xs) : Cp w g n l 0 := by
  intro j hj
  have h1 := h.cellAt j (by omega)
  have h2 : j < xs.length := by rw [h.1]; omega
  rw [List.getElem?_eq_getElem h2] at h1
  exact ⟨⟨_, h1⟩, fun q => by omega, h.frozenAt j⟩
theorem rd_of_at {w : World} {g n : Nat} {l : List ByteArray} (hA : At w g 0 l) (hn : n = l.length) : Rd w.heap.size w (.slice (some ⟨g, 0, none⟩) n n) l := by
  subst hn
  by_cases hl : l = []
  · subst hl; exact .inl ⟨rfl, _, 0, rfl, fun e => by cases e⟩
  · exact .inr ⟨hl, g, 0, _, rfl, hA.lt hl, Nat.le_refl _, hA⟩
theorem Cp.rd {w : World} {g n : Nat} {l : List ByteArray} (h : Cp w g n l n) (hn : n = l.length) : Rd w.heap.size w (.slice (some ⟨g, 0, none⟩) n n) l :=
  rd_of_at (fun j hj => by rw [Nat.zero_add]; exact (h j (by omega)).2.1 (by omega)) hn

/-- The cells of strings. -/
def sc (l : List ByteArray) : List Value := l.map .string
theorem sc_len (l : List ByteArray) : (sc l).length = l.length := by simp [sc]
theorem sc_get {l : List ByteArray} {j : Nat} (h : j < l.length) : (sc l)[j]? = some (.string (st l j)) := by simp [sc, st, h]
theorem sc_one (l : List ByteArray) : ∀ u ∈ sc l, u.oneCell' = true := by
  intro u hu
  obtain ⟨_, _, rfl⟩ := List.mem_map.1 hu
  rfl
section
variable {ops : Array Oper} {rest : List Oper} {o : Oper} {a : Act} {w : World} {Q : Exit → Act → World → Prop}
/-- 'copy' into a row that has just been made. -/
theorem wpList_copys (hgd : o.guard = none) (d s : Operand) (ho : o.op = .call { callee := .builtin .copy, args := #[d, s], argTypes := #[22, 22] })
    (B g n : Nat) (xs : List Value) (hown : w.ownsRow B 9 1 (.slice (some ⟨g, 0, none⟩) n n) n xs) (ad : Addr) (cap : Nat) (l : List ByteArray) (hn : n = l.length)
    (hd : a.eval d = .slice (some ⟨g, 0, none⟩) n n) (hs : a.eval s = .slice (some ad) n cap) (hA : l ≠ [] → ∃ b off, some ad = some ⟨b, off, none⟩ ∧ b < B ∧ l.length ≤ cap ∧ At w b off l)
    (h : ∀ w', At w' g 0 l → Below B w w' → wpList Try.prog ops Q rest (a.put o.dst (goInt n)) w') : wpList Try.prog ops Q (o :: rest) a w := by
  subst hn
  rcases hown.2 with ⟨h', _⟩ | ⟨g', cap', cur, h', hB, hg, _, _, hcs, _⟩
  · cases h'
  · injection h' with e1 e2 e3
    injection e1 with e1
    injection e1 with e1
    subst e1
    subst e3
    rw [Nat.mul_one] at hcs
    refine wpList_copy_own hgd d s 22 22 ho 9 Try.underlying22 size9 g 0 l.length l.length ad l.length cap hd hs cur 9 hg (sc l) (by rw [sc_len]; simp) ?_ (by rw [sc_len]; omega) (sc_one l) ?_
    · intro j u hj
      have hlt : j < l.length := by rw [← sc_len]; exact (List.getElem?_eq_some_iff.1 hj).1
      obtain ⟨b, off, e, _, _, hA'⟩ := hA (fun e => by rw [e] at hlt; simp at hlt)
      injection e with e
      subst e
      rw [sc_get hlt] at hj
      rw [add_lit, ← hj]
      exact hA' j hlt
    · rw [sc_len]
      refine h _ ?_ (below_setRow (Below.refl B w) hB _)
      intro j hj
      rw [show (0 : Nat) + j = j from Nat.zero_add j]
      rw [cell_setRow_same w g j cur _ 9 (0, 0) hg]
      have hjl : j < (sc l).length := by rw [sc_len]; exact hj
      rw [← sc_get hj]
      simp [List.getElem?_append, hjl]
end

end Go.Proofs.Qxb6604188a
