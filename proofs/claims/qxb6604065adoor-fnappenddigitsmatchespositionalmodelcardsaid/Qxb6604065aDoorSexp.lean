/-
  The walk of appendSignedExponent.
-/
import Derived.Test.Qxb6604065aDoorPlainRead
import Derived.Lib.ItoaLen
import Derived.Deep.DeepCutAuto
namespace Go.Proofs.Qxb6604065aDoor
open Go.RowKit

theorem Cp.push {w : World} {g n : Nat} {l : List UInt8} (h : Cp w g n l l.length) (hk : l.length < n) (c : UInt8) {x : Int} (hx : x = (c.toNat : Int)) : Cp (w.setCell ⟨g, l.length, none⟩ (.int .u8 x)) g n (l ++ [c]) (l.length + 1) := by
  have h' : Cp w g n (l ++ [c]) l.length := fun j hj => ⟨(h j hj).1, fun q => by rw [bt_app_l _ _ q]; exact (h j hj).2.1 q, (h j hj).2.2⟩
  refine h'.set hk ?_
  have := bt_app_r l [c] 0
  rw [Nat.add_zero] at this
  rw [hx, this]
  rfl
theorem Cp.only {w w' : World} {g n k : Nat} {l : List UInt8} (h : Cp w g n l k) (e : w'.heap[g]? = w.heap[g]?) : Cp w' g n l k := by
  intro j hj
  obtain ⟨⟨x, h1⟩, h2, h3⟩ := h j hj
  have hc : w'.cell? ⟨g, j, none⟩ = w.cell? ⟨g, j, none⟩ := World.cell?_of_block (w := w) (a := ⟨g, j, none⟩) e
  exact ⟨⟨x, hc.trans h1⟩, fun q => hc.trans (h2 q), (World.frozen?_of_block (w := w) (a := ⟨g, j, none⟩) e).trans h3⟩

section
variable {ops : Array Oper} {rest : List Oper} {o : Oper} {a : Act} {w : World} {Q : Exit → Act → World → Prop}
theorem zero35 : (Tryd.prog.info? 35).map (fun i => i.zero) = some (some (.agg (Array.replicate 24 (.int .u8 0)))) := by kernel_rfl
/-- 'var rev [24]byte'. -/
theorem wpList_rev (hgd : o.guard = none) (ho : o.op = .alloc 35)
    (h : ∀ w', Cp w' w.heap.size 24 [] 0 → Below w.heap.size w w' → (∃ cs, w'.heap[w.heap.size]? = some (.cells cs 35 (0, 0))) → wpList Tryd.prog ops Q rest (a.put o.dst (.pointer (some ⟨w.heap.size, 0, none⟩))) w') : wpList Tryd.prog ops Q (o :: rest) a w :=
  wpList_plain hgd fun _ hK => by
    have hz := zero35
    cases hq : Tryd.prog.info? 35 with
    | none => simp [hq] at hz
    | some i =>
      have hs : i.zero = some (.agg (Array.replicate 24 (.int .u8 0))) := by simpa [hq] using hz
      unfold Oper.wp execOp
      simp only [ho, Instr.alloc, zeroValue, typeInfo, run_program, hq, hs, newVar, newRow, Sem.run_bind, Sem.run_pure, Result.andThen_ok, Value.cells, run_newObj]
      refine hK _ _ (h _ (fun j hj => ⟨⟨.int .u8 0, ?_⟩, fun q => by omega, ?_⟩) ((Below.refl _ _).alloc (Nat.le_refl _) _) ⟨_, heap_alloc_new w _⟩)
      · refine (World.cell?_alloc_new w _ _ _).trans ?_
        simp [hj]
      · simp [World.frozen?]
end

/-- Block g holds cells of the array's type. -/
def TyR (w : World) (g : Nat) : Prop := ∃ cs, w.heap[g]? = some (.cells cs 35 (0, 0))
theorem TyR.set {w : World} {g : Nat} (h : TyR w g) (i : Nat) (v : Value) : TyR (w.setCell ⟨g, i, none⟩ v) g := by
  obtain ⟨cs, hc⟩ := h
  exact ⟨_, heap_setCell_same w g i cs 35 v hc⟩
section
variable {ops : Array Oper} {rest : List Oper} {o : Oper} {a : Act} {w : World} {Q : Exit → Act → World → Prop}
/-- 'append(v, c)' onto what is owned: a block of the array's type is left alone. -/
theorem wpList_app1g (hgd : o.guard = none) (s x : Operand) (ho : o.op = .call { callee := .builtin .append, args := #[s, x], argTypes := #[22, 22] })
    (B : Nat) (v : Value) (l : List UInt8) (hs : a.eval s = v) (hd : Ow B w v l) (hB : B ≤ w.heap.size) (n : Int) (c : UInt8) (hn : n = (c.toNat : Int))
    (hx : a.eval x = .slice (some ⟨w.heap.size, 0, none⟩) 1 1) (hlim : l.length + 1 ≤ 1099511627776)
    (h : ∀ v' w', Ow B w' v' (l ++ [c]) → Below B w w' → (∀ k, TyR w k → w'.heap[k]? = w.heap[k]?) → wpList Tryd.prog ops Q rest (a.put o.dst v') w') : wpList Tryd.prog ops Q (o :: rest) a (w.alloc (.cells #[.int .u8 n] 5)) := by
  subst hn
  obtain ⟨i0, hi, hz0, hz1, hz2⟩ := info_parts info5
  have hmx : l.length + 1 ≤ maxLen := by simp only [maxLen]; omega
  have hd' : Ow B (w.alloc (.cells #[.int .u8 (c.toNat : Int)] 5)) v l := hd.alloc _
  refine wpList_append_own _ hgd s x 22 ho B 5 i0 (.int .u8 0) 1 1 Tryd.underlying22 hi hz0 hz1 hz2 rfl (by decide) v l.length (Lib.byteCells l) hs hd' ⟨w.heap.size, 0, none⟩ 1 1 (Lib.byteCells [c]) hx (by simp [Lib.byteCells]) (cell_one_new _ _ _) (bc_one _) hmx (by omega) (by simp; omega) ?_
  intro v' w' h1 h2 _
  have hb : Below B w w' := ((Below.refl B w).alloc hB _).trans ((Below.refl B _).grown h2 (by simp; omega) hd'.lt)
  refine h v' w' ?_ hb ?_
  · unfold Ow
    rw [List.length_append, bc_app]
    exact h1
  · rintro k ⟨cs, hk⟩
    have hlt : k < w.heap.size := (Array.getElem?_eq_some_iff.1 hk).1
    rw [h2.block k (by simp; omega) ?_]
    · exact Below.heap_alloc w _ k hlt
    · intro e
      rcases hd.2 with ⟨rfl, _⟩ | ⟨g, cap, cur, rfl, _, hg, _⟩
      · simp [Value.ownBlock] at e
      · simp [Value.ownBlock] at e
        rw [← e, hk] at hg
        simp at hg
end
theorem Ow.step {B : Nat} {w w' : World} {v : Value} {l : List UInt8} (h : Ow B w v l) (k : Below w.heap.size w w') : Ow B w' v l := by
  refine ⟨h.1, ?_⟩
  rcases h.2 with q | ⟨g, cap, cur, hv, hg, hh, r⟩
  · exact .inl q
  · exact .inr ⟨g, cap, cur, hv, hg, by rw [k.block g (Array.getElem?_eq_some_iff.1 hh).1]; exact hh, r⟩

/-- The digits behind some rounds of the first loop: r is what is left, acc what has been laid, the lowest first. -/
def Rnd (u r : Nat) (acc : List UInt8) : Prop := (1 ≤ r → Lib.decDigits u = Lib.decDigits r ++ acc.reverse) ∧ (r = 0 → Lib.decDigits u = acc.reverse)
theorem dec_small {r : Nat} (h : r < 10) : Lib.decDigits r = [UInt8.ofNat (48 + r)] := by rw [Lib.decDigits, dif_pos h]
theorem dec_big {r : Nat} (h : ¬ r < 10) : Lib.decDigits r = Lib.decDigits (r / 10) ++ [UInt8.ofNat (48 + r % 10)] := by rw [Lib.decDigits, dif_neg h]
theorem Rnd.step {u r : Nat} {acc : List UInt8} (h : Rnd u r acc) (hr : 1 ≤ r) : Rnd u (r / 10) (acc ++ [UInt8.ofNat (48 + r % 10)]) := by
  have h1 := h.1 hr
  constructor
  · intro q
    rw [h1, dec_big (show ¬ r < 10 by omega)]; simp
  · intro q
    have hlt : r < 10 := by omega
    rw [h1, dec_small hlt, Nat.mod_eq_of_lt hlt]; simp
theorem Rnd.len {u r : Nat} {acc : List UInt8} (h : Rnd u r acc) (hu : u ≤ 9223372036854775808) : acc.length ≤ 20 := by
  have hl : (Lib.decDigits u).length ≤ 20 := by
    by_cases h0 : u = 0
    · subst h0; rw [Lib.decDigits, dif_pos (by omega)]; simp
    · have := Lib.itoa_length_le (-(u : Int)) (by omega) (by omega)
      rw [Lib.itoa_neg u (by omega)] at this
      simp at this
      omega
  by_cases hr : 1 ≤ r
  · have := congrArg List.length (h.1 hr)
    simp at this
    omega
  · have := congrArg List.length (h.2 (by omega))
    simp at this
    omega
theorem rem_neg (r : Nat) : (-(r : Int)).tmod 10 = -((r % 10 : Nat) : Int) := by
  rw [Int.neg_tmod, Int.tmod_eq_emod_of_nonneg (by omega)]; omega
theorem quo_neg (r : Nat) : (-(r : Int)).tdiv 10 = -((r / 10 : Nat) : Int) := by
  rw [Int.neg_tdiv, Int.tdiv_eq_ediv_of_nonneg (by omega)]; omega

/-- The exponent's sign. -/
def sgn (e : Int) : List UInt8 := if 0 ≤ e then [43] else [45]
theorem rev_step (acc : List UInt8) (m : Nat) (h : m < acc.length) (pre : List UInt8) : pre ++ acc.reverse.take (acc.length - (m + 1)) ++ [acc.getD m 0] = pre ++ acc.reverse.take (acc.length - m) := by
  rw [List.append_assoc, show acc.length - m = (acc.length - (m + 1)) + 1 by omega, take_snoc acc.reverse _ (by simp; omega)]
  congr 3
  simp only [List.getD_eq_getElem?_getD]
  rw [List.getElem?_reverse (by omega)]
  congr 3
  omega

set_option maxRecDepth 100000 in
set_option maxHeartbeats 2000000 in
/-- appendSignedExponent. -/
theorem sexp_any (B : Nat) (v : Value) (l : List UInt8) (e : Int) (w : World) (ho : Ow B w v l) (hB : B ≤ w.heap.size) (hlen : l.length ≤ 1048700) (h0 : -9223372036854775808 ≤ e) (h1 : e ≤ 9223372036854775807) :
    Calls Tryd.prog 19 #[v, .int .i64 e] w fun en w' => ∃ v', en = .returned v' ∧ Ow B w' v' (l ++ (sgn e ++ Lib.decDigits e.natAbs)) ∧ Below B w w' := by
  go_enter Tryd.func19, Tryd.ntmps19
  go_upto_if 11 with fail
  go_cut [0, 5] (fun x y wr => Ow B wr x (l ++ sgn e) ∧ y = .int .i64 (-((e.natAbs : Nat) : Int)) ∧ Below B w wr)
  case first =>
    by_cases he : 0 ≤ e
    · have EE : Hid (-e = -((e.natAbs : Nat) : Int)) := by show _ = _; omega
      have EI : Hid ((sgn e) = [43]) := if_pos he
      go_wp2_with (at_builtin; refine wpList_app1 rfl _ _ rfl B v l rfl (.inl ho) hB 43 43 rfl rfl (by omega) ?_; intro v1 w1 o1 b1)
      go_meet
      case rel => exact ⟨o1.cast (by rw [EI.out]), by rw [EE.out], b1⟩
    · have EE : Hid (e = -((e.natAbs : Nat) : Int)) := by show _ = _; omega
      have EI : Hid ((sgn e) = [45]) := if_neg he
      go_wp2_with (at_builtin; refine wpList_app1 rfl _ _ rfl B v l rfl (.inl ho) hB 45 45 rfl rfl (by omega) ?_; intro v1 w1 o1 b1)
      go_meet
      case rel => exact ⟨o1.cast (by rw [EI.out]), congrArg (Value.int .i64) EE.out, b1⟩
  case rest =>
  obtain ⟨o1, rfl, b1⟩ := hcut
  have HS : Hid ((sgn e).length = 1) := by show _ = _; unfold sgn; split <;> rfl
  have hu : e.natAbs ≤ 9223372036854775808 := by omega
  obtain ⟨sn, hsn⟩ : ∃ sn : List UInt8, sn = sgn e := ⟨_, rfl⟩
  have SN : Hid (sn = sgn e) := hsn
  rw [← hsn] at o1 HS
  clear hsn
  obtain ⟨u, hue⟩ : ∃ u : Nat, u = e.natAbs := ⟨_, rfl⟩
  have UE : Hid (u = e.natAbs) := hue
  rw [← hue] at hu ⊢
  clear hue h0 h1 ho
  obtain ⟨wa, rfl⟩ : ∃ wa, wa = wc := ⟨_, rfl⟩
  have hB1 : B ≤ wa.heap.size := Nat.le_trans hB b1.size
  go_upto_if 21 with (refine wpList_rev rfl rfl ?_; intro w2 c2 b2 z2)
  go_cut [7] (fun y wr => ∃ acc : List UInt8, y = .int .i64 (acc.length : Nat) ∧ Cp wr wa.heap.size 24 acc acc.length ∧ Rnd u u acc ∧ Below wa.heap.size wa wr ∧ TyR wr wa.heap.size)
  case first =>
    by_cases h0 : u = 0
    · have eb : ((-(u : Int)) == 0) = true := by rw [h0]; rfl
      have H0 : Hid (u = 0) := h0
      obtain ⟨⟨x0, hx0⟩, _, hf0⟩ := c2 0 (by omega)
      clear h0
      go_wp2
      go_meet
      case rel => exact ⟨[48], rfl, c2.push (by decide) 48 rfl, by rw [H0.out]; exact ⟨fun q => by omega, fun _ => by rw [dec_small (by omega)]; rfl⟩, b2.setCell (Nat.le_refl _) _, TyR.set z2 _ _⟩
    · have eb : ((-(u : Int)) == 0) = false := beq_eq_false_iff_ne.mpr (by omega)
      have H0 : Hid (¬ u = 0) := h0
      clear h0
      go_wp2
      go_meet
      case rel => exact ⟨[], rfl, c2, ⟨fun _ => by simp, fun q => absurd q H0.out⟩, b2, z2⟩
  case rest =>
  obtain ⟨acc0, rfl, c3, rn3, b3, ty3⟩ := hcut
  clear c2 b2 z2
  go_wp2
  go_loopw [5, 7] (fun x y wr => ∃ (r : Nat) (acc : List UInt8), x = .int .i64 (-(r : Int)) ∧ y = .int .i64 (acc.length : Nat) ∧ r ≤ 9223372036854775808 ∧ Cp wr wa.heap.size 24 acc acc.length ∧ Hid (Rnd u r acc) ∧ Below wa.heap.size wa wr ∧ TyR wr wa.heap.size) (fun x _ _ => (-(intOf x)).toNat)
  case atStart => exact ⟨u, acc0, rfl, rfl, hu, c3, rn3, b3, ty3⟩
  case round =>
    clear c3 rn3 b3 ty3
    obtain ⟨r, acc, rfl, rfl, hr, c3, rn3, b3, ty3⟩ := hrel
    have hal := rn3.out.len hu
    by_cases h0 : 1 ≤ r
    · have eb : ((-(r : Int)) != 0) = true := bne_iff_ne.mpr (by omega)
      have e1 := rem_neg r
      have e2 := quo_neg r
      obtain ⟨⟨x0, hx0⟩, _, hf0⟩ := c3 acc.length (by omega)
      have hm : 0 ≤ (r : Int) % 10 ∧ (r : Int) % 10 ≤ 9 := by omega
      have DB : Hid ((48 : Int) + (r : Int) % 10 = ((UInt8.ofNat (48 + r % 10)).toNat : Int)) := by show _ = _; rw [digit_byte (r % 10) (by omega)]; omega
      go_wp2
      go_roundw
      case rel => exact ⟨r / 10, acc ++ [UInt8.ofNat (48 + r % 10)], by go_num, by simp, by omega, by rw [List.length_append]; exact c3.push (by omega) _ DB.out, rn3.out.step h0, b3.setCell (Nat.le_refl _) _, ty3.set _ _⟩
      case measure => simp [intOf]; omega
    · have RV : Hid (Lib.decDigits u = acc.reverse) := rn3.out.2 (by omega)
      have eb : ((-(r : Int)) != 0) = false := bne_eq_false_iff_eq.mpr (by omega)
      clear rn3 h0
      go_wp2
      clear eb hr
      have o3 := o1.step b3
      have q3 : Below B w wr := b1.trans (b3.mono hB1)
      clear o1 b3 b1
      go_loopw [0, 7] (fun x y wr => ∃ m : Nat, m ≤ acc.length ∧ y = .int .i64 m ∧ Ow B wr x (l ++ sn ++ acc.reverse.take (acc.length - m)) ∧ Cp wr wa.heap.size 24 acc acc.length ∧ TyR wr wa.heap.size ∧ Below B w wr) (fun _ y _ => (intOf y).toNat)
      case atStart => exact ⟨acc.length, Nat.le_refl _, rfl, o3.cast (by simp), c3, ty3, q3⟩
      case round =>
        clear o3 c3 ty3 q3
        obtain ⟨m, hm, rfl, o3, c3, ty3, q3⟩ := hrel
        cases m with
        | zero =>
          go_wp2
          go_ret
          refine ⟨_, rfl, o3.cast ?_, q3⟩
          rw [Nat.sub_zero, List.take_of_length_le (by simp), ← RV.out, UE.out, ← SN.out, List.append_assoc]
        | succ m =>
          have q1 := (c3 m (by omega)).2.1 (by omega)
          have hBr : B ≤ wr.heap.size := Nat.le_trans hB q3.size
          have hsl := HS.out
          have E1 : Hid (bt acc m = ((acc.getD m 0).toNat : Int)) := rfl
          have T1 : Hid (∀ w4 : World, (∀ k, TyR wr k → w4.heap[k]? = wr.heap[k]?) → TyR w4 wa.heap.size) := fun w4 k => by
            obtain ⟨cs, hc⟩ := ty3
            exact ⟨cs, (k _ ⟨cs, hc⟩).trans hc⟩
          go_wp2_with (at_builtin; refine wpList_app1g rfl _ _ rfl B _ _ rfl o3 hBr (bt acc m) (acc.getD m 0) E1.out rfl (by simp; omega) ?_; intro v4 w4 o4 b4 k4)
          go_roundw
          case rel => exact ⟨m, by omega, by go_num, o4.cast (rev_step acc m (by omega) _), c3.only (k4 _ ty3), T1.out _ k4, q3.trans b4⟩
          case measure => simp [intOf]

end Go.Proofs.Qxb6604065aDoor
