/-
  Whole arrays of words, in and out of memory, as the walk meets them; the generator's struct; arrays compared.
-/
import Derived.Test.Qxb6604045aProg
import Derived.Test.Qxb6604045aMem
import Derived.Laws.IdiomCopy
import Derived.Laws.Tables
import Derived.Laws.StructEq
namespace Go.Proofs.Qxb6604045a
open Go.RowKit

/-- An array's cells. -/
def words (n : Nat) (s : Nat → BitVec 32) : Array Value := ((List.range n).map fun j => Value.int .u32 (ui (s j))).toArray
theorem words_size (n : Nat) (s : Nat → BitVec 32) : (words n s).size = n := by simp [words]
theorem words_get {n : Nat} (s : Nat → BitVec 32) {j : Nat} (h : j < n) : (words n s)[j]? = some (.int .u32 (ui (s j))) := by
  simp [words, h]
theorem words_toList (n : Nat) (s : Nat → BitVec 32) : (words n s).toList = (List.range n).map fun j => Value.int .u32 (ui (s j)) := by simp [words]
theorem words_one (n : Nat) (s : Nat → BitVec 32) : ∀ v ∈ (words n s).toList, v.oneCell' = true := by
  rw [words_toList]
  intro v hv
  obtain ⟨j, _, rfl⟩ := List.mem_map.1 hv
  rfl
theorem words_congr {n : Nat} {s t : Nat → BitVec 32} (h : ∀ j, j < n → s j = t j) : words n s = words n t := by
  unfold words
  congr 1
  apply List.map_congr_left
  intro j hj
  rw [h j (List.mem_range.1 hj)]

/-- One block more, at the heap's end; all that was there stands. -/
structure New (w w' : World) : Prop where
  below : Below w.heap.size w w'
  size : w'.heap.size = w.heap.size + 1
theorem New.mk' (w : World) (o : Obj) : New w (w.alloc o) := ⟨(Below.refl _ _).alloc (Nat.le_refl _) o, by simp⟩

theorem add0 (g j : Nat) : (⟨g, 0, none⟩ : Addr).add j = ⟨g, j, none⟩ := by unfold Addr.add; split <;> simp_all

section
variable {P : Program} {ops : Array Oper} {rest : List Oper} {o : Oper} {a : Act} {w : World} {Q : Exit → Act → World → Prop}

theorem run_loadVar_words {n e : Nat} {ty : TypeId} (w : World) (g m : Nat) (s : Nat → BitVec 32) (hr : Row w g m s) (hnm : n ≤ m)
    (hu : P.underlying ty = some (.array n e)) (hi : (P.info? ty).map (·.size) = some n) : (loadVar ty ⟨g, 0, none⟩).run P w = .ok (.agg (words n s)) w := by
  have hl : (loadCells ⟨g, 0, none⟩ n).run P w = .ok (words n s) w := by
    refine run_loadCells (P := P) w ⟨g, 0, none⟩ n (fun j => .int .u32 (ui (s j))) (fun j hj => ?_)
    rw [add0]
    exact hr.cell (by omega)
  cases hq : P.info? ty with
  | none => simp [hq] at hi
  | some i =>
    have hs : i.size = n := by simpa [hq] using hi
    have hagg : (isAgg ty).run P w = .ok true w := by
      unfold isAgg
      rw [Sem.run_bind, run_underlying hu w]
      simp
    simp [loadVar, Sem.run_bind, hagg, sizeOf, typeInfo, hq, hs, hl]

/-- A whole array is read. -/
theorem wpList_load_words (hgd : o.guard = none) (ty : TypeId) (x : Operand) (ho : o.op = .load ty x) (g : Nat) (hx : a.eval x = .pointer (some ⟨g, 0, none⟩))
    (n m e : Nat) (s : Nat → BitVec 32) (hr : Row w g m s) (hnm : n ≤ m) (hu : P.underlying ty = some (.array n e)) (hi : (P.info? ty).map (·.size) = some n)
    (h : wpList P ops Q rest (a.put o.dst (.agg (words n s))) w) : wpList P ops Q (o :: rest) a w :=
  wpList_plain hgd fun _ hK => by
    unfold Oper.wp execOp
    simp only [ho, hx, Instr.loadAt, Instr.sureAddr, Sem.run_bind, Sem.run_pure, Result.andThen_ok, run_loadVar_words w g m s hr hnm hu hi]
    exact hK _ _ h

/-- A whole array is written. -/
theorem wpList_store_words (hgd : o.guard = none) (ty : TypeId) (x y : Operand) (ho : o.op = .store ty x y) (g : Nat) (hx : a.eval x = .pointer (some ⟨g, 0, none⟩))
    (n : Nat) (s old : Nat → BitVec 32) (hy : a.eval y = .agg (words n s)) (hr : Row w g n old) (hi : (P.info? ty).map (·.size) = some n)
    (h : ∀ w', Row w' g n s → Only g w w' → wpList P ops Q rest (a.put o.dst undef) w') : wpList P ops Q (o :: rest) a w :=
  wpList_plain hgd fun _ hK => by
    have hl : (words n s).toList.length = n := by rw [words_toList]; simp
    have hst := run_storeCells_cells (P := P) g 0 (words n s).toList 0 w (fun j hj => by rw [hl] at hj; simp only [Nat.zero_add]; rw [hr.cell hj]; rfl)
      (fun j hj => by rw [hl] at hj; simp only [Nat.zero_add]; exact hr.free hj) (words_one n s)
    have hrun : (storeVar ty ⟨g, 0, none⟩ (.agg (words n s))).run P w = .ok () (w.setCells g 0 (words n s).toList) := by
      cases hq : P.info? ty with
      | none => simp [hq] at hi
      | some i =>
        have hs : i.size = n := by simpa [hq] using hi
        simp only [Nat.zero_add] at hst
        simp [storeVar, sizeOf, typeInfo, hq, Value.cells, hs, words_size, hst]
    unfold Oper.wp execOp
    simp only [ho, hx, hy, Instr.storeAt, Instr.sureAddr, Sem.run_bind, Sem.run_pure, Result.andThen_ok, hrun]
    refine hK _ _ (h _ (fun j hj => ⟨?_, ?_⟩) ?_)
    · have := World.cell?_setCells_in g (words n s).toList 0 w (fun j hj => by rw [hl] at hj; simp only [Nat.zero_add]; rw [hr.cell hj]; rfl) j (by rw [hl]; exact hj)
      simp only [Nat.zero_add] at this
      rw [this]
      simp [words_toList]
    · rw [World.frozen?_setCells]; exact hr.free hj
    · generalize (words n s).toList = vs
      have key : ∀ (vs : List Value) (o : Nat) (w : World), Only g w (w.setCells g o vs) := by
        intro vs
        induction vs with
        | nil => exact fun _ w => Only.refl g w
        | cons v r ih => exact fun o w => ((Only.refl g w).setCell o v).trans (ih (o + 1) _)
      exact key vs 0 w

/-- A new array of zeros. -/
theorem wpList_alloc_words (hgd : o.guard = none) (ty : TypeId) (ho : o.op = .alloc ty) (n : Nat)
    (hz : (P.info? ty).map (fun i => i.zero) = some (some (.agg (words n fun _ => 0#32))))
    (h : ∀ w', Row w' w.heap.size n (fun _ => 0#32) → New w w' → wpList P ops Q rest (a.put o.dst (.pointer (some ⟨w.heap.size, 0, none⟩))) w') : wpList P ops Q (o :: rest) a w :=
  wpList_plain hgd fun _ hK => by
    cases hq : P.info? ty with
    | none => simp [hq] at hz
    | some i =>
      have hs : i.zero = some (.agg (words n fun _ => 0#32)) := by simpa [hq] using hz
      unfold Oper.wp execOp
      simp only [ho, Instr.alloc, zeroValue, typeInfo, run_program, hq, hs, newVar, newRow, Sem.run_bind, Sem.run_pure, Result.andThen_ok, Value.cells, run_newObj]
      refine hK _ _ (h _ (fun j hj => ⟨?_, ?_⟩) (New.mk' w _))
      · exact (World.cell?_alloc_new w _ _ _).trans (words_get _ hj)
      · simp [World.frozen?]

/-- An array that came by value is laid into a block of its own. -/
theorem wpList_box_words (hgd : o.guard = none) (ty : TypeId) (x : Operand) (ho : o.op = .box ty x) (n : Nat) (s : Nat → BitVec 32) (hx : a.eval x = .agg (words n s))
    (h : ∀ w', Row w' w.heap.size n s → New w w' → wpList P ops Q rest (a.put o.dst (.pointer (some ⟨w.heap.size, 0, none⟩))) w') : wpList P ops Q (o :: rest) a w :=
  wpList_plain hgd fun _ hK => by
    unfold Oper.wp execOp
    simp only [ho, hx, Instr.box, newVar, newRow, Sem.run_bind, Sem.run_pure, Result.andThen_ok, Value.cells, run_newObj]
    refine hK _ _ (h _ (fun j hj => ⟨?_, ?_⟩) (New.mk' w _))
    · exact (World.cell?_alloc_new w _ _ _).trans (words_get _ hj)
    · simp [World.frozen?]

/-- The generator's cells: its words, then the index. -/
def mtw (s : Nat → BitVec 32) (nx : Int) : Array Value := (words 624 s).push (.int .i64 nx)

theorem wpList_box_mt (hgd : o.guard = none) (ty : TypeId) (x : Operand) (ho : o.op = .box ty x) (s : Nat → BitVec 32) (nx : Int) (hx : a.eval x = .agg (mtw s nx))
    (h : ∀ w', MT w' w.heap.size s nx → New w w' → wpList P ops Q rest (a.put o.dst (.pointer (some ⟨w.heap.size, 0, none⟩))) w') : wpList P ops Q (o :: rest) a w :=
  wpList_plain hgd fun _ hK => by
    unfold Oper.wp execOp
    simp only [ho, hx, Instr.box, newVar, newRow, Sem.run_bind, Sem.run_pure, Result.andThen_ok, Value.cells, run_newObj]
    refine hK _ _ (h _ ⟨fun j hj => ⟨?_, ?_⟩, ?_, ?_⟩ (New.mk' w _))
    · refine (World.cell?_alloc_new w _ _ _).trans ?_
      rw [mtw, Array.getElem?_push, if_neg (by rw [words_size]; omega)]
      exact words_get _ hj
    · simp [World.frozen?]
    · refine (World.cell?_alloc_new w _ _ _).trans ?_
      rw [mtw, Array.getElem?_push, if_pos (by rw [words_size])]
    · simp [World.frozen?]

/-- An array that a function hands back by value. -/
theorem results_words {fn : Func} {p : Tmp} {ty : TypeId} (h : fn.results = #[.cell p ty]) (tmps : Array Value) (w : World) (g n m e : Nat) (s : Nat → BitVec 32)
    (hp : tmps.getD p undef = .pointer (some ⟨g, 0, none⟩)) (hr : Row w g m s) (hnm : n ≤ m) (hu : P.underlying ty = some (.array n e)) (hi : (P.info? ty).map (·.size) = some n) :
    (results fn tmps).run P w = .ok (.agg (words n s)) w := by
  have hp' : tmps[p]?.getD undef = .pointer (some ⟨g, 0, none⟩) := by simpa using hp
  simp [results, h, hp', asAddr, run_loadVar_words w g m s hr hnm hu hi]
end


/-! ### Closed facts of this program -/
theorem info23 : (Try.prog.info? 23).map (·.size) = some 624 := by kernel_rfl
theorem info42 : (Try.prog.info? 42).map (·.size) = some 1248 := by kernel_rfl
theorem zero23 : (Try.prog.info? 23).map (fun i => i.zero) = some (some (.agg (words 624 fun _ => 0#32))) := by kernel_rfl
theorem zero42 : (Try.prog.info? 42).map (fun i => i.zero) = some (some (.agg (words 1248 fun _ => 0#32))) := by kernel_rfl
theorem built_new : Try.prog.built 40 [(1, .int .i64 624)] = some (mtw (fun _ => 0#32) 624) := by kernel_rfl
theorem zero40 : (Try.prog.info? 40).map (fun i => i.zero) = some (some (.agg (mtw (fun _ => 0#32) 0))) := by kernel_rfl

theorem fold_set : ∀ (l : List Value) (i : Nat) (cells : List Value), i + l.length ≤ cells.length →
    (l.zipIdx i).foldl (fun (cs : Array Value) (p : Value × Nat) => cs.setIfInBounds (0 + p.2) p.1) cells.toArray = (cells.take i ++ l ++ cells.drop (i + l.length)).toArray
  | [], i, cells, _ => by simp
  | v :: r, i, cells, h => by
    simp only [List.zipIdx_cons, List.foldl_cons, Nat.zero_add, List.setIfInBounds_toArray]
    have := fold_set r (i + 1) (cells.set i v) (by simp at h ⊢; omega)
    simp only [Nat.zero_add] at this
    rw [this]
    congr 1
    simp only [List.length_cons] at h
    have hi : i < cells.length := by omega
    rw [List.take_succ_eq_append_getElem (by simpa using hi)]
    have e1 : (cells.set i v).drop (i + 1 + r.length) = cells.drop (i + (v :: r).length) := by
      rw [List.drop_set_of_lt (by omega)]
      simp only [List.length_cons]
      congr 1; omega
    rw [e1, List.take_set_of_le (Nat.le_refl _)]
    simp
theorem fill_cons (place : Nat → Option (Nat × Nat)) (cells : Array Value) (i : Nat) (v : Value) (rest : List (Nat × Value)) (off size : Nat)
    (h : place i = some (off, size)) (hs : v.cells.size = size) (hb : off + size ≤ cells.size) :
    Instr.fill place cells ((i, v) :: rest) = Instr.fill place (v.cells.zipIdx.foldl (fun (cs : Array Value) (p : Value × Nat) => cs.setIfInBounds (off + p.2) p.1) cells) rest := by
  subst hs
  rw [Instr.fill]
  simp only [h]
  rw [if_neg (by simp; omega)]
theorem places40 : (match Try.prog.underlying 40 with | some (.struct fs) => fs.toList.mapM (fun f => (Try.prog.info? f.type).map fun i => (f.offset, i.size)) | _ => none) = some [(0, 624), (624, 1)] := by kernel_rfl
theorem under40 : (match Try.prog.underlying 40 with | some (.struct _) => true | _ => false) = true := by kernel_rfl
theorem fold_one (z : Array Value) (k : IntKind) (n : Int) :
    (Value.int k n).cells.zipIdx.foldl (fun (cs : Array Value) (p : Value × Nat) => cs.setIfInBounds (624 + p.2) p.1) z = z.setIfInBounds 624 (.int k n) := by
  simp [Value.cells]
theorem fill40 (s : Nat → BitVec 32) (nx : Int) (z : Array Value) (hz : z.toList = (words 624 fun _ => 0#32).toList ++ [Value.int .i64 0]) :
    Instr.fill (fun i => ([(0, 624), (624, 1)] : List (Nat × Nat)).toArray[i]?) z [(0, .agg (words 624 s)), (1, .int .i64 nx)] = some (mtw s nx) := by
  have hl : (words 624 s).toList.length = 624 := by rw [words_toList]; simp
  have h0 : (words 624 fun _ => 0#32).toList.length = 624 := by rw [words_toList]; simp
  have hzl : z.size = 625 := by rw [← Array.length_toList, hz, List.length_append, h0]; rfl
  have e1 : (words 624 s).zipIdx.foldl (fun (cs : Array Value) (p : Value × Nat) => cs.setIfInBounds (0 + p.2) p.1) z = ((words 624 s).toList ++ [Value.int .i64 0]).toArray := by
    have := fold_set (words 624 s).toList 0 z.toList (by rw [hl, Array.length_toList, hzl]; omega)
    rw [← Array.foldl_toList, Array.toList_zipIdx]
    rw [Array.toArray_toList] at this
    have e3 : (words 624 fun _ => 0#32).toList.length = 0 + 624 := h0
    rw [this, hl, hz, List.drop_left' e3, List.take_zero, List.nil_append]
  have e4 : ((words 624 s).toList ++ [Value.int .i64 0]).toArray.setIfInBounds 624 (Value.int .i64 nx) = mtw s nx := by
    rw [List.setIfInBounds_toArray, List.set_append_right _ _ (by rw [hl]; exact Nat.le_refl _), hl]
    apply Array.ext'
    simp [mtw]
  refine (fill_cons (fun i => ([(0, 624), (624, 1)] : List (Nat × Nat)).toArray[i]?) z 0 (.agg (words 624 s)) [(1, .int .i64 nx)] 0 624 (by simp) (words_size 624 s) (by rw [hzl]; omega)).trans ?_
  rw [show (Value.agg (words 624 s)).cells = words 624 s from rfl, e1]
  refine (fill_cons (fun i => ([(0, 624), (624, 1)] : List (Nat × Nat)).toArray[i]?) _ 1 (.int .i64 nx) [] 624 1 (by simp) rfl (by rw [List.size_toArray, List.length_append, hl]; simp)).trans ?_
  rw [Instr.fill, fold_one, e4]
theorem built_mt (s : Nat → BitVec 32) (nx : Int) : Try.prog.built 40 [(0, .agg (words 624 s)), (1, .int .i64 nx)] = some (mtw s nx) := by
  have hp := places40
  have hz := zero40
  have hu := under40
  unfold Program.built
  cases hq : Try.prog.info? 40 with
  | none => simp [hq] at hz
  | some it =>
    have hzz : it.zero = some (.agg (mtw (fun _ => 0#32) 0)) := by simpa [hq] using hz
    cases hd : Try.prog.underlying 40 with
    | none => simp [hd] at hu
    | some d =>
      cases d <;> first | (simp [hd] at hu; done) | skip
      rename_i fs
      rw [hd] at hp
      simp only [hzz, hp]
      exact fill40 s nx _ (by simp [Value.cells, mtw])
section
variable {P : Program}
theorem run_equalIn_words (w : World) (d : Nat) (t e : TypeId) (n : Nat) (k : IntKind) (s : Nat → BitVec 32) (ht : P.underlying t = some (.array n e)) (he : P.underlying e = some (.int k))
    (hi : (P.info? e).map (·.size) = some 1) : (Op.equalIn (d + 2) t (.agg (words n s)) (.agg (words n s))).run P w = .ok true w := by
  have hs : ∀ w, (sizeOf e).run P w = .ok 1 w := by
    intro w
    cases hq : P.info? e with
    | none => simp [hq] at hi
    | some i => simp [hq] at hi; simp [sizeOf, typeInfo, hq, hi]
  have hna : ∀ w, (isAgg e).run P w = .ok false w := by
    intro w
    unfold isAgg
    rw [Sem.run_bind, run_underlying he w]
    simp
  have hp : ∀ w i, i < n → (part e (words n s) i).run P w = .ok (.int .u32 (ui (s i))) w := by
    intro w i h
    simp [part, Sem.run_bind, hna, words_get s h]
  have he' : ∀ w i, (Op.equalIn (d + 1) e (.int .u32 (ui (s i))) (.int .u32 (ui (s i)))).run P w = .ok true w := by
    intro w i
    rw [run_equalIn_int w d e .u32 k _ _ he]
    simp
  rw [Op.equalIn]
  simp only [Sem.run_bind, run_underlying ht, Result.andThen_ok, hs, Nat.mul_one]
  rw [Std.Legacy.Range.forIn_eq_forIn_range']
  have key : ∀ (l : List Nat), (∀ i ∈ l, i < n) → (Sem.run P (forIn l (none, ()) fun i (_ : Option Bool × Unit) => do
            let x ← part e (words n s) i
            let y ← part e (words n s) i
            let r ← Op.equalIn (d + 1) e x y
            if (!r) = true then pure (ForInStep.done (some false, ())) else pure (ForInStep.yield (none, ()))) w) = .ok (none, ()) w := by
    intro l
    induction l with
    | nil => intro _; simp
    | cons i l ih =>
      intro h
      rw [List.forIn_cons]
      simp only [Sem.run_bind, hp _ i (h i (by simp)), Result.andThen_ok, he', Bool.not_true, Bool.false_eq_true, if_false, Sem.run_pure]
      exact ih (fun x hx => h x (by simp [hx]))
  rw [key _ (by simp [List.mem_range'])]
  simp
end

theorem info22 : (Try.prog.info? 22).map (·.size) = some 1 := by kernel_rfl
theorem guard23 : Try.prog.eqGuardType Try.prog.depth 23 = false := by kernel_rfl
theorem equal23 (w : World) (s : Nat → BitVec 32) : (Op.equalIn 10000 23 (.agg (words 624 s)) (.agg (words 624 s))).run Try.prog w = .ok true w :=
  run_equalIn_words w 9998 23 22 624 .u32 s Try.underlying23 Try.underlying22 info22
theorem run_eql23 (w : World) (s : Nat → BitVec 32) : (binOp .eql 23 (.agg (words 624 s)) (.agg (words 624 s))).run Try.prog w = .ok (.bool true) w := by
  rw [run_eql_struct, equal23]; rfl
theorem run_neq23 (w : World) (s : Nat → BitVec 32) : (binOp .neq 23 (.agg (words 624 s)) (.agg (words 624 s))).run Try.prog w = .ok (.bool false) w := by
  rw [run_neq_struct, equal23]; rfl

section
variable {ops : Array Oper} {rest : List Oper} {o : Oper} {a : Act} {w : World} {Q : Exit → Act → World → Prop}
/-- An array compared with itself. -/
theorem wpList_eql23 (hgd : o.guard = none) (x y : Operand) (t : TypeId) (ho : o.op = .binOp .eql 23 x y t) (s : Nat → BitVec 32) (hx : a.eval x = .agg (words 624 s)) (hy : a.eval y = .agg (words 624 s))
    (h : wpList Try.prog ops Q rest (a.put o.dst (.bool true)) w) : wpList Try.prog ops Q (o :: rest) a w :=
  wpList_plain hgd fun _ hK => by
    unfold Oper.wp execOp
    simp only [ho, hx, hy, Sem.run_bind, run_eqGuard_agg w .eql 23 x y _ _ guard23, Result.andThen_ok, run_eql23]
    exact hK _ _ h
theorem wpList_neq23 (hgd : o.guard = none) (x y : Operand) (t : TypeId) (ho : o.op = .binOp .neq 23 x y t) (s : Nat → BitVec 32) (hx : a.eval x = .agg (words 624 s)) (hy : a.eval y = .agg (words 624 s))
    (h : wpList Try.prog ops Q rest (a.put o.dst (.bool false)) w) : wpList Try.prog ops Q (o :: rest) a w :=
  wpList_plain hgd fun _ hK => by
    unfold Oper.wp execOp
    simp only [ho, hx, hy, Sem.run_bind, run_eqGuard_agg w .neq 23 x y _ _ guard23, Result.andThen_ok, run_neq23]
    exact hK _ _ h
/-- A generator's struct is put together. -/
theorem wpList_build_mt (hgd : o.guard = none) (x y : Operand) (ho : o.op = .build 40 #[(0, x), (1, y)]) (s : Nat → BitVec 32) (nx : Int) (hx : a.eval x = .agg (words 624 s)) (hy : a.eval y = .int .i64 nx)
    (h : wpList Try.prog ops Q rest (a.put o.dst (.agg (mtw s nx))) w) : wpList Try.prog ops Q (o :: rest) a w := by
  have e : Try.prog.built 40 (((#[(0, x), (1, y)] : Array (Nat × Operand)).map fun (i, x) => (i, a.eval x)).toList) = some (mtw s nx) := by
    have : (((#[(0, x), (1, y)] : Array (Nat × Operand)).map fun (i, x) => (i, a.eval x)).toList) = [(0, .agg (words 624 s)), (1, .int .i64 nx)] := by simp [hx, hy]
    rw [this]; exact built_mt s nx
  exact wpList_build hgd 40 _ ho (by rw [e]; rfl) (by rw [e]; exact h)
theorem wpList_build_new (hgd : o.guard = none) (y : Operand) (ho : o.op = .build 40 #[(1, y)]) (hy : a.eval y = .int .i64 624)
    (h : wpList Try.prog ops Q rest (a.put o.dst (.agg (mtw (fun _ => 0#32) 624))) w) : wpList Try.prog ops Q (o :: rest) a w := by
  have e : Try.prog.built 40 (((#[(1, y)] : Array (Nat × Operand)).map fun (i, x) => (i, a.eval x)).toList) = some (mtw (fun _ => 0#32) 624) := by
    have : (((#[(1, y)] : Array (Nat × Operand)).map fun (i, x) => (i, a.eval x)).toList) = [(1, .int .i64 624)] := by simp [hy]
    rw [this]; exact built_new
  exact wpList_build hgd 40 _ ho (by rw [e]; rfl) (by rw [e]; exact h)
end
end Go.Proofs.Qxb6604045a
