/-
  Strings in memory: slices that are read; the rows that are made and filled.
-/
import Derived.Test.Qxb6604794aProg
import Derived.WalkKit
import Derived.WalkSpells
import Derived.WalkLawsBesides
import Derived.Laws.CopyOwn
import Derived.Deep.AppendSrc
import Derived.BigQuiet
import Derived.Lib.AppendIntMem
namespace Go.Proofs.Qxb6604794a
open Go.RowKit

theorem add_lit (b off j : Nat) : (⟨b, off, none⟩ : Addr).add j = ⟨b, off + j, none⟩ := by unfold Addr.add; split <;> simp_all
/-- String j. -/
def st (l : List ByteArray) (j : Nat) : ByteArray := l.getD j ByteArray.empty
/-- The strings l lie in block b from off on. -/
def At (w : World) (b off : Nat) (l : List ByteArray) : Prop := ∀ j, j < l.length → w.cell? ⟨b, off + j, none⟩ = some (.string (st l j))
theorem At.mono {w w' : World} {b off : Nat} {l : List ByteArray} (h : At w b off l) (e : w'.heap[b]? = w.heap[b]?) : At w' b off l :=
  fun j hj => (World.cell?_of_block (w := w) e).trans (h j hj)
theorem At.below {N : Nat} {w w' : World} {b off : Nat} {l : List ByteArray} (h : At w b off l) (k : Below N w w') (hb : b < N) : At w' b off l := h.mono (k.block b hb)
theorem st_take (l : List ByteArray) (k j : Nat) (h : j < k) : st (l.take k) j = st l j := by simp [st, h]
theorem At.take {w : World} {b off : Nat} {l : List ByteArray} (h : At w b off l) (k : Nat) : At w b off (l.take k) := by
  intro j hj
  simp only [List.length_take] at hj
  rw [st_take _ _ _ (by omega)]
  exact h j (by omega)
theorem At.lt {w : World} {b off : Nat} {l : List ByteArray} (h : At w b off l) (hl : l ≠ []) : b < w.heap.size :=
  block_lt_of_cell (h 0 (List.length_pos_iff.mpr hl))
/-- The slice value v is read as the strings l; its array lies below block N. -/
def Rd (N : Nat) (w : World) (v : Value) (l : List ByteArray) : Prop :=
  (l = [] ∧ ∃ ao cap, v = .slice ao 0 cap ∧ (ao = none → cap = 0)) ∨
  (l ≠ [] ∧ ∃ b off cap, v = .slice (some ⟨b, off, none⟩) l.length cap ∧ b < N ∧ l.length ≤ cap ∧ At w b off l)
theorem Rd.below {N : Nat} {w w' : World} {v : Value} {l : List ByteArray} (h : Rd N w v l) (k : Below N w w') : Rd N w' v l := by
  rcases h with h | ⟨hl, b, off, cap, rfl, hb, hc, ha⟩
  · exact .inl h
  · exact .inr ⟨hl, b, off, cap, rfl, hb, hc, ha.below k hb⟩
theorem Rd.mono {N M : Nat} {w : World} {v : Value} {l : List ByteArray} (h : Rd N w v l) (k : N ≤ M) : Rd M w v l := by
  rcases h with h | ⟨hl, b, off, cap, rfl, hb, hc, ha⟩
  · exact .inl h
  · exact .inr ⟨hl, b, off, cap, rfl, by omega, hc, ha⟩
/-- A slice that is read, in one form: its length, and its cells where it has any. -/
theorem Rd.form {N : Nat} {w : World} {v : Value} {l : List ByteArray} (h : Rd N w v l) :
    ∃ ao cap, v = .slice ao l.length cap ∧ (ao = none → l = [] ∧ cap = 0) ∧ (l ≠ [] → ∃ b off, ao = some ⟨b, off, none⟩ ∧ b < N ∧ l.length ≤ cap ∧ At w b off l) := by
  rcases h with ⟨rfl, ao, cap, rfl, h0⟩ | ⟨hl, b, off, cap, rfl, hb, hc, ha⟩
  · exact ⟨ao, cap, rfl, fun e => ⟨rfl, h0 e⟩, fun e => absurd rfl e⟩
  · exact ⟨_, cap, rfl, (fun e => by cases e), fun _ => ⟨b, off, rfl, hb, hc, ha⟩⟩

theorem info9 : (Try.prog.info? 9).map (fun i => (i.zero, i.size, i.bytes)) = some (some (.string ByteArray.empty), 1, 16) := by kernel_rfl
theorem size9 : (Try.prog.info? 9).map (·.size) = some 1 := by kernel_rfl

/-- A row of n cells that may be written, the first k of which hold l's first strings. -/
def Cp (w : World) (g n : Nat) (l : List ByteArray) (k : Nat) : Prop :=
  ∀ j, j < n → (∃ x, w.cell? ⟨g, j, none⟩ = some x) ∧ (j < k → w.cell? ⟨g, j, none⟩ = some (.string (st l j))) ∧ w.frozen? ⟨g, j, none⟩ = false
theorem Cp.set {w : World} {g n k : Nat} {l : List ByteArray} (h : Cp w g n l k) (hk : k < n) {x : ByteArray} (hx : x = st l k) : Cp (w.setCell ⟨g, k, none⟩ (.string x)) g n l (k + 1) := by
  subst hx
  intro j hj
  obtain ⟨⟨x, hx⟩, h2, h3⟩ := h j hj
  refine ⟨?_, fun hlt => ?_, by rw [World.frozen?_setCell]; exact h3⟩
  · by_cases e : j = k
    · subst e; exact ⟨_, World.cell?_setCell_same _ _ _ hx⟩
    · exact ⟨x, by rw [World.cell?_setCell_other _ _ _ _ (by intro q; injection q; omega)]; exact hx⟩
  · by_cases e : j = k
    · subst e; exact World.cell?_setCell_same _ _ _ hx
    · rw [World.cell?_setCell_other _ _ _ _ (by intro q; injection q; omega)]; exact h2 (by omega)
theorem Cp.made {w : World} {B g n : Nat} {xs : List Value} (l : List ByteArray) (h : w.ownsRow B 9 1 (.slice (some ⟨g, 0, none⟩) n n) n xs) : Cp w g n l 0 := by
  intro j hj
  have h1 := h.cellAt j (by omega)
  have h2 : j < xs.length := by rw [h.1]; omega
  rw [List.getElem?_eq_getElem h2] at h1
  exact ⟨⟨_, h1⟩, fun q => by omega, h.frozenAt j⟩
theorem rd_of_at {w : World} {g n : Nat} {l : List ByteArray} (hA : At w g 0 l) (hn : n = l.length) : Rd w.heap.size w (.slice (some ⟨g, 0, none⟩) n n) l := by
  subst hn
  by_cases hl : l = []
  · subst hl; exact .inl ⟨rfl, _, 0, rfl, fun e => by cases e⟩
  · exact .inr ⟨hl, g, 0, _, rfl, hA.lt hl, Nat.le_refl _, hA⟩
theorem Cp.rd {w : World} {g n : Nat} {l : List ByteArray} (h : Cp w g n l n) (hn : n = l.length) : Rd w.heap.size w (.slice (some ⟨g, 0, none⟩) n n) l :=
  rd_of_at (fun j hj => by rw [Nat.zero_add]; exact (h j (by omega)).2.1 (by omega)) hn

namespace By
/-- The number of byte j. -/
def bt (l : List UInt8) (j : Nat) : Int := ((l.getD j 0).toNat : Int)
theorem bt_bd (l : List UInt8) (j : Nat) : 0 ≤ bt l j ∧ bt l j ≤ 255 := by
  unfold bt; have := (l.getD j 0).toNat_lt; omega
theorem bc_len (l : List UInt8) : (Lib.byteCells l).length = l.length := by simp [Lib.byteCells]
theorem bc_get {l : List UInt8} {j : Nat} (h : j < l.length) : (Lib.byteCells l)[j]? = some (.int .u8 (bt l j)) := by
  simp [Lib.byteCells, bt, h]
theorem bc_one (l : List UInt8) : ∀ u ∈ Lib.byteCells l, u.oneCell' = true := by
  intro u hu
  obtain ⟨_, _, rfl⟩ := List.mem_map.1 hu
  rfl
theorem bc_app (l m : List UInt8) : Lib.byteCells (l ++ m) = Lib.byteCells l ++ Lib.byteCells m := by simp [Lib.byteCells]
theorem bt_get {l : List UInt8} {j : Nat} (h : j < l.length) : bt l j = (l[j].toNat : Int) := by simp [bt, h]

/-- The bytes l lie in block b from off on. -/
def At (w : World) (b off : Nat) (l : List UInt8) : Prop := ∀ j, j < l.length → w.cell? ⟨b, off + j, none⟩ = some (.int .u8 (bt l j))
theorem At.mono {w w' : World} {b off : Nat} {l : List UInt8} (h : At w b off l) (e : w'.heap[b]? = w.heap[b]?) : At w' b off l :=
  fun j hj => (World.cell?_of_block (w := w) e).trans (h j hj)
theorem At.below {N : Nat} {w w' : World} {b off : Nat} {l : List UInt8} (h : At w b off l) (k : Below N w w') (hb : b < N) : At w' b off l := h.mono (k.block b hb)
theorem At.drewN {w : World} {b off : Nat} {l : List UInt8} (h : At w b off l) (n : Nat) : At (w.drewN n) b off l := h
theorem bt_drop (l : List UInt8) (k j : Nat) : bt (l.drop k) j = bt l (k + j) := by simp [bt, List.getElem?_drop]
theorem bt_take (l : List UInt8) (k j : Nat) (h : j < k) : bt (l.take k) j = bt l j := by simp [bt, h]
theorem At.drop {w : World} {b off : Nat} {l : List UInt8} (h : At w b off l) (k : Nat) : At w b (off + k) (l.drop k) := by
  intro j hj
  simp only [List.length_drop] at hj
  rw [bt_drop, Nat.add_assoc]
  exact h (k + j) (by omega)
theorem At.take {w : World} {b off : Nat} {l : List UInt8} (h : At w b off l) (k : Nat) : At w b off (l.take k) := by
  intro j hj
  simp only [List.length_take] at hj
  rw [bt_take _ _ _ (by omega)]
  exact h j (by omega)
theorem At.lt {w : World} {b off : Nat} {l : List UInt8} (h : At w b off l) (hl : l ≠ []) : b < w.heap.size :=
  block_lt_of_cell (h 0 (List.length_pos_iff.mpr hl))

/-- The slice value v is read as the bytes l; its array lies below block N. -/
def Rd (N : Nat) (w : World) (v : Value) (l : List UInt8) : Prop :=
  (l = [] ∧ ∃ ao cap, v = .slice ao 0 cap ∧ (ao = none → cap = 0)) ∨
  (l ≠ [] ∧ ∃ b off cap, v = .slice (some ⟨b, off, none⟩) l.length cap ∧ b < N ∧ l.length ≤ cap ∧ At w b off l)
theorem Rd.below {N : Nat} {w w' : World} {v : Value} {l : List UInt8} (h : Rd N w v l) (k : Below N w w') : Rd N w' v l := by
  rcases h with h | ⟨hl, b, off, cap, rfl, hb, hc, ha⟩
  · exact .inl h
  · exact .inr ⟨hl, b, off, cap, rfl, hb, hc, ha.below k hb⟩
theorem Rd.mono {N M : Nat} {w : World} {v : Value} {l : List UInt8} (h : Rd N w v l) (k : N ≤ M) : Rd M w v l := by
  rcases h with h | ⟨hl, b, off, cap, rfl, hb, hc, ha⟩
  · exact .inl h
  · exact .inr ⟨hl, b, off, cap, rfl, by omega, hc, ha⟩
/-- .. and has no room behind its end. -/
def Full (N : Nat) (w : World) (v : Value) (l : List UInt8) : Prop := Rd N w v l ∧ ∃ ao, v = .slice ao l.length l.length
theorem Full.below {N : Nat} {w w' : World} {v : Value} {l : List UInt8} (h : Full N w v l) (k : Below N w w') : Full N w' v l := ⟨h.1.below k, h.2⟩
theorem Full.mono {N M : Nat} {w : World} {v : Value} {l : List UInt8} (h : Full N w v l) (k : N ≤ M) : Full M w v l := ⟨h.1.mono k, h.2⟩

/-- The slice value v owns the bytes l, in a block from B on. -/
def Ow (B : Nat) (w : World) (v : Value) (l : List UInt8) : Prop := w.ownsRow B 5 1 v l.length (Lib.byteCells l)
theorem Ow.alloc {B : Nat} {w : World} {v : Value} {l : List UInt8} (h : Ow B w v l) (o : Obj) : Ow B (w.alloc o) v l := World.ownsRow.alloc h o
theorem Ow.lt {B : Nat} {w : World} {v : Value} {l : List UInt8} (h : Ow B w v l) : ∀ k, v.ownBlock = some k → B ≤ k := by
  intro k hk
  rcases h.2 with ⟨rfl, _⟩ | ⟨g, cap, cur, rfl, hg, _⟩
  · simp [Value.ownBlock] at hk
  · simp [Value.ownBlock] at hk; omega
theorem Ow.rd {B : Nat} {w : World} {v : Value} {l : List UInt8} (h : Ow B w v l) : Rd w.heap.size w v l := by
  rcases h.2 with ⟨rfl, h0⟩ | ⟨g, cap, cur, rfl, hg, hh, hnc, hcm, hcs, htk⟩
  · exact .inl ⟨List.eq_nil_of_length_eq_zero h0, none, 0, rfl, fun _ => rfl⟩
  · by_cases hl : l = []
    · subst hl
      exact .inl ⟨rfl, _, cap, rfl, fun e => by cases e⟩
    · refine .inr ⟨hl, g, 0, cap, rfl, (Array.getElem?_eq_some_iff.1 hh).1, hnc, fun j hj => ?_⟩
      rw [Nat.zero_add, World.ownsRow.cellAt h j (by omega)]
      exact bc_get hj

/-- What may be appended to: owned, or full. -/
def Dst (B : Nat) (w : World) (v : Value) (l : List UInt8) : Prop := Ow B w v l ∨ Full B w v l
theorem Dst.alloc {B : Nat} {w : World} {v : Value} {l : List UInt8} (h : Dst B w v l) (hB : B ≤ w.heap.size) (o : Obj) : Dst B (w.alloc o) v l := by
  rcases h with h | h
  · exact .inl (h.alloc o)
  · exact .inr (h.below ((Below.refl _ _).alloc hB o))

section
variable {ops : Array Oper} {rest : List Oper} {o : Oper} {a : Act} {w : World} {Q : Exit → Act → World → Prop}
theorem info5 : (Try.prog.info? 5).map (fun i => (i.zero, i.size, i.bytes)) = some (some (.int .u8 0), 1, 1) := by kernel_rfl

/-- 'append(v, m...)', m not empty. -/
theorem wpList_app (hgd : o.guard = none) (s x : Operand) (ho : o.op = .call { callee := .builtin .append, args := #[s, x], argTypes := #[23, 23] })
    (B : Nat) (v : Value) (l : List UInt8) (hs : a.eval s = v) (hd : Dst B w v l) (hB : B ≤ w.heap.size)
    (b off c : Nat) (m : List UInt8) (k : Nat) (hk : k = m.length) (hx : a.eval x = .slice (some ⟨b, off, none⟩) k c) (hm : m ≠ []) (hat : At w b off m) (hlim : l.length + m.length ≤ 1099511627776)
    (h : ∀ v' w', Ow B w' v' (l ++ m) → Below B w w' → wpList Try.prog ops Q rest (a.put o.dst v') w') : wpList Try.prog ops Q (o :: rest) a w := by
  subst hk
  obtain ⟨i0, hi, hz0, hz1, hz2⟩ := info_parts info5
  have hnews : ∀ j u, (Lib.byteCells m)[j]? = some u → w.cell? ((⟨b, off, none⟩ : Addr).add j) = some u := by
    intro j u hj
    have hlt : j < m.length := by rw [← bc_len]; exact (List.getElem?_eq_some_iff.1 hj).1
    rw [bc_get hlt] at hj
    rw [add_lit, ← hj]
    exact hat j hlt
  have hmx : l.length + m.length ≤ maxLen := by simp only [maxLen]; omega
  rcases hd with hd | ⟨hr, ao, hv⟩
  · refine wpList_append_own w hgd s x 23 ho B 5 i0 (.int .u8 0) 1 1 Try.underlying23 hi hz0 hz1 hz2 rfl (by decide) v l.length (Lib.byteCells l) hs hd ⟨b, off, none⟩ m.length c (Lib.byteCells m) hx (by rw [bc_len, Nat.mul_one]) hnews (bc_one m) hmx (by omega) hB ?_
    intro v' w' h1 h2 _
    refine h v' w' ?_ ((Below.refl B w).grown h2 hB hd.lt)
    unfold Ow
    rw [List.length_append, bc_app]
    exact h1
  · have hml : 0 < m.length := List.length_pos_iff.mpr hm
    refine wpList_append_grows w hgd s x 23 ho 5 i0 (.int .u8 0) 1 1 Try.underlying23 hi hz0 hz1 hz2 rfl (by decide) ao l.length l.length (Lib.byteCells l) (hs.trans hv) ?_ (by rw [bc_len, Nat.mul_one]) ?_ ⟨b, off, none⟩ m.length c (Lib.byteCells m) hx (by rw [bc_len, Nat.mul_one]) hnews (bc_one m) (by omega) hmx (by omega) ?_
    · intro e
      subst e
      rcases hr with ⟨rfl, _⟩ | ⟨hl, b', off', cap', e', _⟩
      · exact ⟨rfl, rfl⟩
      · rw [hv] at e'; cases e'
    · intro p hp j u hj
      have hlt : j < l.length := by rw [← bc_len]; exact (List.getElem?_eq_some_iff.1 hj).1
      rcases hr with ⟨rfl, _⟩ | ⟨hl, b', off', cap', e', _, _, hA⟩
      · simp at hlt
      · rw [hv, hp] at e'
        injection e' with e1 e2 e3
        injection e1 with e1
        subst e1
        rw [bc_get hlt] at hj
        rw [add_lit, ← hj]
        exact hA j hlt
    · intro v' w' h1 h2
      have hb : Below B w w' := (Below.refl B w).grown h2 hB (fun k hk => by cases hk)
      refine h v' w' ?_ hb
      unfold Ow
      rw [List.length_append, bc_app]
      refine ⟨h1.1, ?_⟩
      rcases h1.2 with q | ⟨g, cap, cur, hv', hg, r⟩
      · exact .inl q
      · exact .inr ⟨g, cap, cur, hv', by omega, r⟩

/-- 'append(v, c)': the one byte has just been laid into a block of its own. -/
theorem wpList_app1 (hgd : o.guard = none) (s x : Operand) (ho : o.op = .call { callee := .builtin .append, args := #[s, x], argTypes := #[23, 23] })
    (B : Nat) (v : Value) (l : List UInt8) (hs : a.eval s = v) (hd : Dst B w v l) (hB : B ≤ w.heap.size) (n : Int) (c : UInt8) (hn : n = (c.toNat : Int))
    (hx : a.eval x = .slice (some ⟨w.heap.size, 0, none⟩) 1 1) (hlim : l.length + 1 ≤ 1099511627776)
    (h : ∀ v' w', Ow B w' v' (l ++ [c]) → Below B w w' → wpList Try.prog ops Q rest (a.put o.dst v') w') : wpList Try.prog ops Q (o :: rest) a (w.alloc (.cells #[.int .u8 n] 5)) := by
  subst hn
  refine wpList_app hgd s x ho B v l hs (hd.alloc hB _) (by simp; omega) w.heap.size 0 1 [c] 1 rfl hx (by simp) ?_ hlim (fun v' w' h1 h2 => h v' w' h1 (((Below.refl B w).alloc hB _).trans h2))
  intro j hj
  simp at hj
  subst hj
  simp [bt]

/-- 'append(v, s...)', s a string that is not empty, v full. -/
theorem wpList_app_str (hgd : o.guard = none) (s x : Operand) (ho : o.op = .call { callee := .builtin .append, args := #[s, x], argTypes := #[23, 9] })
    (B : Nat) (v : Value) (l : List UInt8) (hs : a.eval s = v) (hd : Full B w v l) (hB : B ≤ w.heap.size)
    (t : ByteArray) (m : List UInt8) (ht : t.data.toList = m) (hx : a.eval x = .string t) (hm : m ≠ []) (hlim : l.length + m.length ≤ 1099511627776)
    (h : ∀ v' w', Ow B w' v' (l ++ m) → Below B w w' → wpList Try.prog ops Q rest (a.put o.dst v') w') : wpList Try.prog ops Q (o :: rest) a w := by
  subst ht
  obtain ⟨i0, hi, hz0, hz1, hz2⟩ := info_parts info5
  obtain ⟨hr, ao, hv⟩ := hd
  have hml : 0 < t.data.toList.length := List.length_pos_iff.mpr hm
  have htl : t.size = t.data.toList.length := rfl
  have hmx : l.length + t.size ≤ maxLen := by simp only [maxLen]; omega
  have hlo : (Lib.byteCells l).length = l.length * i0.size := by rw [bc_len, hz1, Nat.mul_one]
  have hold : (Builtin.firstCells i0.size l.length (.slice ao l.length l.length)).run Try.prog w.drew = .ok (Lib.byteCells l).toArray w.drew := by
    cases ao with
    | none =>
      rcases hr with ⟨rfl, _⟩ | ⟨hl, b', off', cap', e', _⟩
      · exact run_firstCells_none w.drew i0.size 0 0 0
      · rw [hv] at e'; cases e'
    | some p =>
      refine run_firstCells_some w.drew i0.size l.length p l.length l.length (Lib.byteCells l) hlo ?_
      intro j u hj
      have hlt : j < l.length := by rw [← bc_len]; exact (List.getElem?_eq_some_iff.1 hj).1
      rcases hr with ⟨rfl, _⟩ | ⟨hl, b', off', cap', e', _, _, hA⟩
      · simp at hlt
      · rw [hv] at e'
        injection e' with e1 e2 e3
        injection e1 with e1
        subst e1
        rw [bc_get hlt] at hj
        rw [add_lit, ← hj]
        exact hA j hlt
  have hsrc : Src Try.prog i0.size 9 (.string t) t.size (byteCells t) w := by rw [hz1]; exact Src.ofString w Try.underlying9 t
  have hrun := run_append_grow_src (P := Try.prog) w 23 9 o.type 5 i0 (.int .u8 0) Try.underlying23 hi hz0 ao l.length l.length (Lib.byteCells l) hold (.string t) t.size (byteCells t) hsrc (by omega) (by omega)
    (growslice_fits (by omega) (by rw [hz2]; omega))
  have hge := grownCap_ge w (l.length + t.size) l.length 5
  have hcm : grownCap w (l.length + t.size) l.length 5 ≤ maxLen := grownCap_le_maxLen w _ _ 5 hmx
  refine wpList_plain hgd fun K hK => ?_
  unfold Oper.wp
  simp [execOp, ho, resolve, invoke, builtin, hs, hv, hx, hrun, Result.andThen]
  refine hK _ _ (h _ _ ?_ ?_)
  · have hb : byteCells t = Lib.byteCells t.data.toList := rfl
    unfold Ow
    refine ⟨by rw [bc_len, Nat.mul_one], .inr ⟨w.heap.size, _, _, ?_, hB, heap_alloc_new w.drew _, ?_, hcm, ?_, ?_⟩⟩
    · rw [List.length_append, ← htl]
    · rw [List.length_append, ← htl]; exact hge
    · have hz1' : (Value.int IntKind.u8 0).cells.size = 1 := rfl
      simp only [Array.size_append, List.size_toArray, size_zeroCells, hz1', hb, List.length_append, bc_len, ← htl]
      omega
    · rw [bc_app, hb, Nat.mul_one]
      simp only [Array.toList_append]
      rw [show (l ++ t.data.toList).length = (Lib.byteCells l ++ Lib.byteCells t.data.toList).length by simp [bc_len]]
      exact List.take_left
  · exact ⟨rfl, rfl, rfl, by simp, fun k hk => Below.heap_alloc w.drew _ k (by show k < w.heap.size; omega)⟩
end


/-- A row of n cells that may be written, the first k of which hold l's first bytes. -/
def Cp (w : World) (g n : Nat) (l : List UInt8) (k : Nat) : Prop :=
  ∀ j, j < n → (∃ x, w.cell? ⟨g, j, none⟩ = some x) ∧ (j < k → w.cell? ⟨g, j, none⟩ = some (.int .u8 (bt l j))) ∧ w.frozen? ⟨g, j, none⟩ = false
theorem Cp.set {w : World} {g n k : Nat} {l : List UInt8} (h : Cp w g n l k) (hk : k < n) {x : Int} (hx : x = bt l k) : Cp (w.setCell ⟨g, k, none⟩ (.int .u8 x)) g n l (k + 1) := by
  subst hx
  intro j hj
  obtain ⟨⟨x, hx⟩, h2, h3⟩ := h j hj
  refine ⟨?_, fun hlt => ?_, by rw [World.frozen?_setCell]; exact h3⟩
  · by_cases e : j = k
    · subst e; exact ⟨_, World.cell?_setCell_same _ _ _ hx⟩
    · exact ⟨x, by rw [World.cell?_setCell_other _ _ _ _ (by intro q; injection q; omega)]; exact hx⟩
  · by_cases e : j = k
    · subst e; exact World.cell?_setCell_same _ _ _ hx
    · rw [World.cell?_setCell_other _ _ _ _ (by intro q; injection q; omega)]; exact h2 (by omega)
theorem Cp.made {w : World} {B g n : Nat} {xs : List Value} (l : List UInt8) (h : w.ownsRow B 5 1 (.slice (some ⟨g, 0, none⟩) n n) n xs) : Cp w g n l 0 := by
  intro j hj
  have h1 := h.cellAt j (by omega)
  have h2 : j < xs.length := by rw [h.1]; omega
  rw [List.getElem?_eq_getElem h2] at h1
  exact ⟨⟨_, h1⟩, fun q => by omega, h.frozenAt j⟩
theorem Cp.full {w : World} {g n : Nat} {l : List UInt8} (h : Cp w g n l n) (hn : n = l.length) : Full w.heap.size w (.slice (some ⟨g, 0, none⟩) n n) l := by
  subst hn
  have hA : At w g 0 l := fun j hj => by rw [Nat.zero_add]; exact (h j hj).2.1 hj
  refine ⟨?_, _, rfl⟩
  by_cases hl : l = []
  · subst hl; exact .inl ⟨rfl, _, 0, rfl, fun e => by cases e⟩
  · exact .inr ⟨hl, g, 0, _, rfl, hA.lt hl, Nat.le_refl _, hA⟩

end By
end Go.Proofs.Qxb6604794a
