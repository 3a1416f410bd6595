/-
  The law 'FnMTUint32AgainstModel': the walks.
-/
import Derived.Test.Qxb6604045aUndone
import Derived.Test.Qxb6604045aModel
namespace Go.Proofs.Qxb6604045a
open Go.RowKit
attribute [local go_sem] ui_and ui_or ui_xor ui_and_up ui_and_lo ui_and_1 ui_or_1 ui_xor_m ui_m_and ui_and_b ui_and_c ui_shr1 ui_shr5 ui_shr11 ui_shr18 ui_shr22 ui_shr30 ui_shl1 ui_shl7 ui_shl15 ui_zero

set_option maxRecDepth 100000 in
set_option maxHeartbeats 400000 in
theorem against_out (s : Nat → BitVec 32) (n : Int) (hn : n < 0 ∨ 624 < n) (w : World) :
    Calls Try.prog 3 #[.agg (words 624 s), .int .i64 n] w fun e w' => e = .returned (.bool true) ∧ Below w.heap.size w w' := by
  rcases hn with hn | hn
  · go_enter Try.func3, Try.ntmps3
    go_wp2_with (refine wpList_box_words rfl 23 _ rfl 624 s rfl ?_; intro w1 r1 n1)
    go_ret
    exact ⟨rfl, n1.below⟩
  · have h0 : ¬ n < 0 := by omega
    go_enter Try.func3, Try.ntmps3
    go_wp2_with (refine wpList_box_words rfl 23 _ rfl 624 s rfl ?_; intro w1 r1 n1)
    go_ret
    exact ⟨rfl, n1.below⟩

set_option maxRecDepth 100000 in
set_option maxHeartbeats 400000 in
/-- ZZMTUint32 where a word is left. -/
theorem zuint32_lt (b : Nat) (s : Nat → BitVec 32) (nx : Nat) (hn : nx < 624) (w : World) (h : MT w b s nx) :
    Calls Try.prog 9 #[.pointer (some ⟨b, 0, none⟩)] w fun e w' => e = .returned (.int .u32 (ui (temper (s nx)))) ∧ MT w' b s (nx + 1) ∧ Only b w w' := by
  go_enter Try.func9, Try.ntmps9
  go_wp2_with (go_at_call 17; refine (uint32_lt b s nx hn w h).mono ?_; rintro e w' ⟨rfl, hm, ho⟩)
  go_ret
  exact ⟨rfl, hm, ho⟩
set_option maxRecDepth 100000 in
set_option maxHeartbeats 400000 in
/-- ZZMTUint32 where the words are spent. -/
theorem zuint32_eq (b : Nat) (s : Nat → BitVec 32) (w : World) (h : MT w b s 624) :
    Calls Try.prog 9 #[.pointer (some ⟨b, 0, none⟩)] w fun e w' => e = .returned (.int .u32 (ui (temper (twist s 0)))) ∧ MT w' b (twist s) 1 ∧ Only b w w' := by
  go_enter Try.func9, Try.ntmps9
  go_wp2_with (go_at_call 17; refine (uint32_eq b s w h).mono ?_; rintro e w' ⟨rfl, hm, ho⟩)
  go_ret
  exact ⟨rfl, hm, ho⟩

set_option maxRecDepth 100000 in
set_option maxHeartbeats 1000000 in
theorem against_lt (s : Nat → BitVec 32) (n : Nat) (hn : n < 624) (hlaw : Hid (untemper (temper (s n)) = s n)) (w : World) :
    Calls Try.prog 3 #[.agg (words 624 s), .int .i64 n] w fun e w' => e = .returned (.bool true) ∧ Below w.heap.size w w' := by
  go_enter Try.func3, Try.ntmps3
  go_wp2_with (first
    | (refine wpList_box_words rfl 23 _ rfl 624 s rfl ?_; intro w1 r1 n1; have k1 : Keep w.heap.size s w w1 := ⟨r1, n1.below⟩)
    | (go_at_call 8; refine (make_any s n w1).mono ?_; rintro e w2 ⟨rfl, m2, b2, z2⟩; have k2 := k1.step b2)
    | (go_at_call 9; refine (zuint32_lt _ s n hn w2 m2).mono ?_; rintro e w3 ⟨rfl, m3, o3⟩; have k3 := k2.stepO o3 (by have := n1.size; omega))
    | (go_at_call 10; refine (zstate_any _ _ _ w3 m3).mono ?_; rintro e w4 ⟨rfl, n4⟩; have k4 := k3.step n4.below; have m4 := m3.ofBlock (n4.below.block _ m3.lt))
    | (go_at_call 11; have _ := r6; refine (znext_any _ _ _ w6 m6).mono ?_; rintro e w' ⟨rfl, hwq⟩; rw [hwq]; clear hwq)
    | (have _ := r8; refine wpList_load_words rfl 23 (.tmp 7) rfl w4.heap.size rfl 624 624 22 _ q8 (Nat.le_refl _) Try.underlying23 info23 ?_)
    | (have _ := r8; refine wpList_load_words rfl 23 (.tmp 9) rfl w6.heap.size rfl 624 624 22 _ r8 (Nat.le_refl _) Try.underlying23 info23 ?_)
    | (have _ := r8; refine wpList_neq23 rfl _ _ _ rfl s rfl rfl ?_)
    | (have _ := r7; refine wpList_store_words rfl 23 _ _ rfl w6.heap.size rfl 624 s _ rfl r7 info23 ?_; intro w8 r8 o8; have k8 := k7.stepO o8 k6.lt; have c8 := r8.cell hn; have q8 : Row w8 w4.heap.size 624 s := (r6.ofBlock (n7.below.block _ (r6.lt (by omega)))).only o8 (Nat.ne_of_lt (r6.lt (by omega))))
    | (have _ := r6; refine wpList_alloc_words rfl 23 rfl 624 zero23 ?_; intro w7 r7 n7; have k7 := k6.step n7.below)
    | (have _ := r6; refine wpList_load_words rfl 23 (.tmp 2) rfl w.heap.size rfl 624 624 22 s k6.row (Nat.le_refl _) Try.underlying23 info23 ?_)
    | (have _ := r5; refine wpList_store_words rfl 23 _ _ rfl w4.heap.size rfl 624 s _ rfl r5 info23 ?_; intro w6 r6 o6; have k6 := k5.stepO o6 k4.lt; have m6 := m5.only o6 (Nat.ne_of_lt m4.lt))
    | (have _ := k4; refine wpList_alloc_words rfl 23 rfl 624 zero23 ?_; intro w5 r5 n5; have k5 := k4.step n5.below; have m5 := m4.ofBlock (n5.below.block _ m4.lt))
    | (refine wpList_load_words rfl 23 (.tmp 2) rfl w.heap.size rfl 624 624 22 s r1 (Nat.le_refl _) Try.underlying23 info23 ?_))
  have ec : (ui (untemper (temper (s n))) == ui (s n)) = true := by rw [hlaw.out]; simp
  have kb := k8.below
  have hi0 : (0 : Int) ≤ (n : Int) := by omega
  have hi1 : (n : Int) < 624 := by omega
  clear r1 n1 k1 m2 b2 z2 k2 m3 o3 k3 n4 k4 m4 r5 n5 k5 m5 r6 o6 k6 m6 r7 n7 k7 r8 o8 k8 q8
  go_quiet ((go_at_call 13; exact Calls.quiet_of_same (untemper_any _ _)))
  go_wp2
  go_ret
  exact ⟨rfl, below_drewN kb _⟩

set_option maxRecDepth 100000 in
set_option maxHeartbeats 1000000 in
theorem against_eq (s : Nat → BitVec 32) (hlaw : Hid (untemper (temper (twist s 0)) = modeled s 0)) (hmod : Hid (words 624 (twist s) = words 624 (modeled s))) (w : World) :
    Calls Try.prog 3 #[.agg (words 624 s), .int .i64 624] w fun e w' => e = .returned (.bool true) ∧ Below w.heap.size w w' := by
  go_enter Try.func3, Try.ntmps3
  go_wp2_with (first
    | (refine wpList_box_words rfl 23 _ rfl 624 s rfl ?_; intro w1 r1 n1; have k1 : Keep w.heap.size s w w1 := ⟨r1, n1.below⟩)
    | (go_at_call 8; refine (make_any s 624 w1).mono ?_; rintro e w2 ⟨rfl, m2, b2, z2⟩; have k2 := k1.step b2)
    | (go_at_call 9; refine (zuint32_eq _ s w2 m2).mono ?_; rintro e w3 ⟨rfl, m3, o3⟩; have k3 := k2.stepO o3 (by have := n1.size; omega))
    | (go_at_call 10; refine (zstate_any _ _ _ w3 m3).mono ?_; rintro e w4 ⟨rfl, n4⟩; have k4 := k3.step n4.below; have m4 := m3.ofBlock (n4.below.block _ m3.lt))
    | (go_at_call 11; have _ := r6; refine (znext_any _ _ _ w6 m6).mono ?_; rintro e w' ⟨rfl, hwq⟩; rw [hwq]; clear hwq)
    | (go_at_call 12; have _ := r8; refine (model_any s w8).mono ?_; rintro e w9 ⟨rfl, b9⟩; have k9 := k8.step b9; have r9 := r8.ofBlock (b9.block _ (r8.lt (by omega))); have q9 := q8.ofBlock (b9.block _ (q8.lt (by omega))))
    | (have _ := r10; refine wpList_load_words rfl 23 (.tmp 7) rfl w4.heap.size rfl 624 624 22 _ q10 (Nat.le_refl _) Try.underlying23 info23 ?_)
    | (have _ := r10; refine wpList_load_words rfl 23 (.tmp 9) rfl w6.heap.size rfl 624 624 22 _ r10 (Nat.le_refl _) Try.underlying23 info23 ?_)
    | (have _ := r10; refine wpList_neq23 rfl _ _ _ rfl (modeled s) (congrArg Value.agg hmod.out) rfl ?_)
    | (have _ := r9; refine wpList_store_words rfl 23 _ _ rfl w6.heap.size rfl 624 (modeled s) _ rfl r9 info23 ?_; intro w10 r10 o10; have k10 := k9.stepO o10 k6.lt; have c10 := r10.cell (j := 0) (by omega); have q10 : Row w10 w4.heap.size 624 (twist s) := q9.only o10 (Nat.ne_of_lt (r6.lt (by omega))))
    | (have _ := r8; refine wpList_load_words rfl 23 (.tmp 2) rfl w.heap.size rfl 624 624 22 s k8.row (Nat.le_refl _) Try.underlying23 info23 ?_)
    | (have _ := r7; refine wpList_store_words rfl 23 _ _ rfl w6.heap.size rfl 624 s _ rfl r7 info23 ?_; intro w8 r8 o8; have k8 := k7.stepO o8 k6.lt; have q8 : Row w8 w4.heap.size 624 (twist s) := (r6.ofBlock (n7.below.block _ (r6.lt (by omega)))).only o8 (Nat.ne_of_lt (r6.lt (by omega))))
    | (have _ := r6; refine wpList_alloc_words rfl 23 rfl 624 zero23 ?_; intro w7 r7 n7; have k7 := k6.step n7.below)
    | (have _ := r6; refine wpList_load_words rfl 23 (.tmp 2) rfl w.heap.size rfl 624 624 22 s k6.row (Nat.le_refl _) Try.underlying23 info23 ?_)
    | (have _ := r5; refine wpList_store_words rfl 23 _ _ rfl w4.heap.size rfl 624 (twist s) _ rfl r5 info23 ?_; intro w6 r6 o6; have k6 := k5.stepO o6 k4.lt; have m6 := m5.only o6 (Nat.ne_of_lt m4.lt))
    | (have _ := k4; refine wpList_alloc_words rfl 23 rfl 624 zero23 ?_; intro w5 r5 n5; have k5 := k4.step n5.below; have m5 := m4.ofBlock (n5.below.block _ m4.lt))
    | (refine wpList_load_words rfl 23 (.tmp 2) rfl w.heap.size rfl 624 624 22 s r1 (Nat.le_refl _) Try.underlying23 info23 ?_))
  have ec : (ui (untemper (temper (twist s 0))) == ui (modeled s 0)) = true := by rw [hlaw.out]; simp
  have kb := k10.below
  clear r1 n1 k1 m2 b2 z2 k2 m3 o3 k3 n4 k4 m4 r5 n5 k5 m5 r6 o6 k6 m6 r7 n7 k7 r8 o8 k8 q8 b9 k9 r9 q9 r10 o10 k10 q10
  go_quiet ((go_at_call 13; exact Calls.quiet_of_same (untemper_any _ _)))
  go_wp2
  go_ret
  exact ⟨rfl, below_drewN kb _⟩

end Go.Proofs.Qxb6604045a
