/-
  The law 'FnMTTwistUndone': the walk.
-/
import Derived.Test.Qxb6604045aUntwist
namespace Go.Proofs.Qxb6604045a
open Go.RowKit
attribute [local go_sem] ui_and ui_or ui_xor ui_and_up ui_and_lo ui_and_1 ui_or_1 ui_xor_m ui_m_and ui_and_b ui_and_c ui_shr1 ui_shr5 ui_shr11 ui_shr18 ui_shr22 ui_shr30 ui_shl1 ui_shl7 ui_shl15 ui_zero

/-- The law's own argument, laid at block N, stands; so does all below it. -/
structure Keep (N : Nat) (s : Nat → BitVec 32) (w w' : World) : Prop where
  row : Row w' N 624 s
  below : Below N w w'
theorem Keep.lt {N : Nat} {s : Nat → BitVec 32} {w w' : World} (h : Keep N s w w') : N < w'.heap.size := h.row.lt (by omega)
theorem Keep.stepB {N B : Nat} {s : Nat → BitVec 32} {w w' w2 : World} (h : Keep N s w w') (k : Below B w' w2) (hB : N < B) : Keep N s w w2 :=
  ⟨h.row.ofBlock (k.block N hB), h.below.trans (k.mono (by omega))⟩
theorem Keep.step {N : Nat} {s : Nat → BitVec 32} {w w' w2 : World} (h : Keep N s w w') (k : Below w'.heap.size w' w2) : Keep N s w w2 := h.stepB k h.lt
theorem Keep.stepO {N b : Nat} {s : Nat → BitVec 32} {w w' w2 : World} (h : Keep N s w w') (k : Only b w' w2) (hb : N < b) : Keep N s w w2 :=
  ⟨h.row.only k (by omega), h.below.trans (k.below (by omega))⟩

set_option maxRecDepth 100000 in
set_option maxHeartbeats 400000 in
theorem undone_walk (s : Nat → BitVec 32) (hlaw : Hid (words 624 (untwist (twist s)) = words 624 (upd s 0 (s 0 &&& 2147483648#32)))) (w : World) :
    Calls Try.prog 5 #[.agg (words 624 s)] w fun e w' => e = .returned (.bool true) ∧ Below w.heap.size w w' := by
  go_enter Try.func5, Try.ntmps5
  go_wp2_with (first
    | (refine wpList_box_words rfl 23 _ rfl 624 s rfl ?_; intro w1 r1 n1; have k1 : Keep w.heap.size s w w1 := ⟨r1, n1.below⟩)
    | (go_at_call 8; refine (make_any s 0 w1).mono ?_; rintro e w2 ⟨rfl, m2, b2, z2⟩; have k2 := k1.step b2)
    | (go_at_call 14; refine (ztwist_any _ s 0 w2 m2).mono ?_; rintro e w3 ⟨rfl, m3, o3⟩; have k3 := k2.stepO o3 (by have := n1.size; omega))
    | (go_at_call 10; refine (zstate_any _ _ 0 w3 m3).mono ?_; rintro e w4 ⟨rfl, n4⟩; have k4 := k3.step n4.below)
    | (go_at_call 15; refine (untwist_any _ w4).mono ?_; rintro e w5 ⟨rfl, b5⟩; have k5 := k4.step b5; clear b2 o3 n4 b5 m2 m3 k2 k3 k4)
    | (have _ := r9; refine wpList_load_words rfl 23 (.tmp 4) rfl w5.heap.size rfl 624 624 22 _ q9 (Nat.le_refl _) Try.underlying23 info23 ?_)
    | (have _ := r9; refine wpList_load_words rfl 23 (.tmp 5) rfl w7.heap.size rfl 624 624 22 _ p9 (Nat.le_refl _) Try.underlying23 info23 ?_)
    | (have _ := r9; refine wpList_eql23 rfl _ _ _ rfl (upd s 0 (s 0 &&& 2147483648#32)) (congrArg Value.agg hlaw.out) rfl ?_)
    | (have _ := r8; refine wpList_store_words rfl 23 _ _ rfl w7.heap.size rfl 624 s _ rfl r8 info23 ?_; intro w9 r9 o9; have k9 := k8.stepO o9 k7.lt; have c9 := k9.row.cell (j := 0) (by omega); have d9 := r9.cell (j := 0) (by omega); have f9 := r9.free (j := 0) (by omega); have p9 := r9.set 0 (by omega) (s 0 &&& 2147483648#32); have q9 : Row (w9.setCell ⟨w7.heap.size, 0, none⟩ (.int .u32 (ui (s 0 &&& 2147483648#32)))) w5.heap.size 624 (untwist (twist s)) := ((r7.ofBlock (n8.below.block _ (r7.lt (by omega)))).only o9 (Nat.ne_of_lt (r7.lt (by omega)))).setO (Nat.ne_of_gt (r7.lt (by omega))) _ _)
    | (have _ := r7; refine wpList_alloc_words rfl 23 rfl 624 zero23 ?_; intro w8 r8 n8; have k8 := k7.step n8.below)
    | (have _ := r7; refine wpList_load_words rfl 23 (.tmp 1) rfl w.heap.size rfl 624 624 22 s k7.row (Nat.le_refl _) Try.underlying23 info23 ?_)
    | (have _ := r6; refine wpList_store_words rfl 23 _ _ rfl w5.heap.size rfl 624 (untwist (twist s)) _ rfl r6 info23 ?_; intro w7 r7 o7; have k7 := k6.stepO o7 k5.lt)
    | (have _ := k5; refine wpList_alloc_words rfl 23 rfl 624 zero23 ?_; intro w6 r6 n6; have k6 := k5.step n6.below)
    | (refine wpList_load_words rfl 23 (.tmp 1) rfl w.heap.size rfl 624 624 22 s r1 (Nat.le_refl _) Try.underlying23 info23 ?_))
  go_ret
  exact ⟨rfl, k9.below.setCell (Nat.le_of_lt k7.lt) _⟩

end Go.Proofs.Qxb6604045a
