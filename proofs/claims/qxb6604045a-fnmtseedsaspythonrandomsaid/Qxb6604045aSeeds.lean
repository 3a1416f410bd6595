/-
  The walks of the two laws over seeds.
-/
import Derived.Test.Qxb6604045aNew
namespace Go.Proofs.Qxb6604045a
open Go.RowKit
attribute [local go_sem] ui_and ui_or ui_xor ui_and_up ui_and_lo ui_and_1 ui_or_1 ui_xor_m ui_m_and ui_and_b ui_and_c ui_shr1 ui_shr5 ui_shr11 ui_shr18 ui_shr22 ui_shr30 ui_shl1 ui_shl7 ui_shl15 ui_zero

/-- A generator behind k outputs of its first block. -/
def stt (k : Nat) (s : Nat → BitVec 32) : Nat → BitVec 32 := if k = 0 then s else twist s
def nxt (k : Nat) : Int := if k = 0 then 624 else k

/-- The k-th output of the first block. -/
theorem uint32_at (b k : Nat) (s : Nat → BitVec 32) (hk : k < 624) (w : World) (h : MT w b (stt k s) (nxt k)) :
    Calls Try.prog 17 #[.pointer (some ⟨b, 0, none⟩)] w fun e w' => e = .returned (.int .u32 (ui (temper (twist s k)))) ∧ MT w' b (stt (k + 1) s) (nxt (k + 1)) ∧ Only b w w' := by
  cases k with
  | zero => exact uint32_eq b s w h
  | succ k =>
    have e1 : stt (k + 1) s = twist s := if_neg (by omega)
    have e2 : stt (k + 1 + 1) s = twist s := if_neg (by omega)
    have e3 : nxt (k + 1) = ((k + 1 : Nat) : Int) := if_neg (by omega)
    have e4 : nxt (k + 1 + 1) = ((k + 1 : Nat) : Int) + 1 := by rw [nxt, if_neg (by omega)]; omega
    rw [e1, e3] at h
    rw [e2, e4]
    exact uint32_lt b (twist s) (k + 1) hk w h

set_option maxRecDepth 100000 in
set_option maxHeartbeats 400000 in
/-- ZZMTUint32. -/
theorem zuint32_at (b k : Nat) (s : Nat → BitVec 32) (hk : k < 624) (w : World) (h : MT w b (stt k s) (nxt k)) :
    Calls Try.prog 9 #[.pointer (some ⟨b, 0, none⟩)] w fun e w' => e = .returned (.int .u32 (ui (temper (twist s k)))) ∧ MT w' b (stt (k + 1) s) (nxt (k + 1)) ∧ Only b w w' := by
  go_enter Try.func9, Try.ntmps9
  go_wp2_with (go_at_call 17; refine (uint32_at b k s hk w h).mono ?_; rintro e w' ⟨rfl, hm, ho⟩)
  go_ret
  exact ⟨rfl, hm, ho⟩

set_option maxRecDepth 100000 in
set_option maxHeartbeats 400000 in
/-- ZZNewMersenneTwister. -/
theorem znew_any (seed : BitVec 32) (n : Int) (hn : n = ui seed) (w : World) :
    Calls Try.prog 16 #[.int .u32 n] w fun e w' => e = .returned (.pointer (some ⟨w.heap.size, 0, none⟩)) ∧ MT w' w.heap.size (seeded seed) 624 ∧ Below w.heap.size w w' ∧ w'.heap.size = w.heap.size + 1 := by
  subst hn
  go_enter Try.func16, Try.ntmps16
  go_wp2_with (go_at_call 19; refine (new_any seed w).mono ?_; rintro e w' ⟨rfl, hm, hb, hz⟩)
  go_ret
  exact ⟨rfl, hm, hb, hz⟩

set_option maxRecDepth 100000 in
set_option maxHeartbeats 400000 in
/-- FnMTSeedsAsPythonRandom. -/
theorem python_walk (h0 : (ui (temper (twist (seeded 0#32) 0) >>> 5) == 113336382) = true) (h42 : (ui (temper (twist (seeded 42#32) 0) >>> 5) == 85822412) = true) (w : World) :
    Calls Try.prog 7 #[] w fun e w' => e = .returned (.bool true) ∧ Below w.heap.size w w' := by
  go_enter Try.func7, Try.ntmps7
  go_wp2_with (first
    | (go_at_call 16; have _ := m2; refine (znew_any 42#32 42 rfl w2).mono ?_; rintro e w3 ⟨rfl, m3, b3, z3⟩)
    | (go_at_call 16; refine (znew_any 0#32 0 rfl w).mono ?_; rintro e w1 ⟨rfl, m1, b1, z1⟩)
    | (go_at_call 9; have _ := m3; refine (zuint32_at w2.heap.size 0 (seeded 42#32) (by omega) w3 m3).mono ?_; rintro e w4 ⟨rfl, m4, o4⟩)
    | (go_at_call 9; refine (zuint32_at w.heap.size 0 (seeded 0#32) (by omega) w1 m1).mono ?_; rintro e w2 ⟨rfl, m2, o2⟩))
  go_ret
  have g2 := m2.lt
  exact ⟨rfl, ((b1.trans (o2.below (Nat.le_refl _))).trans (b3.mono (by omega))).trans (o4.below (by omega))⟩

theorem all_step {f g : Nat → Int} {k : Nat} (h : Hid (∀ j, j < k → f j = g j)) (e : (f k != g k) = false) : Hid (∀ j, j < k + 1 → f j = g j) := by
  intro j hj
  by_cases q : j = k
  · subst q; simpa using e
  · exact h.out j (by omega)

set_option maxRecDepth 100000 in
set_option maxHeartbeats 1000000 in
/-- FnMTDistinctSeedsDistinctFirstBlock: seeds that differ. -/
theorem distinct_walk (a b : BitVec 32) (hab : (ui a == ui b) = false)
    (hlaw : Hid (¬ ∀ j, j < 624 → ui (temper (twist (seeded a) j)) = ui (temper (twist (seeded b) j)))) (w : World) :
    Calls Try.prog 6 #[.int .u32 (ui a), .int .u32 (ui b)] w fun e w' => e = .returned (.bool true) ∧ Below w.heap.size w w' := by
  go_enter Try.func6, Try.ntmps6
  go_wp2_with (first
    | (go_at_call 16; have _ := m1; refine (znew_any b (ui b) rfl w1).mono ?_; rintro e w2 ⟨rfl, m2, b2, z2⟩)
    | (go_at_call 16; refine (znew_any a (ui a) rfl w).mono ?_; rintro e w1 ⟨rfl, m1, b1, z1⟩))
  have m1' : MT w2 w.heap.size (seeded a) 624 := m1.ofBlock (b2.block _ (by omega))
  have bel : Below w.heap.size w w2 := b1.trans (b2.mono (by omega))
  rw [z1] at m2
  clear z1 z2 m1 b1 b2
  go_loopw [7] (fun x wr => ∃ k : Nat, k ≤ 624 ∧ x = .int .i64 k ∧ MT wr w.heap.size (stt k (seeded a)) (nxt k) ∧ MT wr (w.heap.size + 1) (stt k (seeded b)) (nxt k) ∧ Below w.heap.size w wr ∧
      Hid (∀ j, j < k → ui (temper (twist (seeded a) j)) = ui (temper (twist (seeded b) j)))) (fun x _ => 624 - (intOf x).toNat)
  case atStart => exact ⟨0, by omega, rfl, m1', m2, bel, fun j hj => by omega⟩
  case round =>
    clear m1' m2 bel
    obtain ⟨k, hk, rfl, hm1, hm2, hb, hall⟩ := hrel
    by_cases hlt : k < 624
    · have g : w.heap.size ≠ w.heap.size + 1 := by omega
      go_wp2_with (first
        | (go_at_call 9; have _ := p1; refine (zuint32_at (w.heap.size + 1) k (seeded b) hlt w4 p2).mono ?_; rintro e w5 ⟨rfl, q2, o5⟩; have q1 := p1.only o5 g)
        | (go_at_call 9; refine (zuint32_at w.heap.size k (seeded a) hlt wr hm1).mono ?_; rintro e w4 ⟨rfl, p1, o4⟩; have p2 := hm2.only o4 g.symm))
      · go_ret
        exact ⟨rfl, (hb.trans (o4.below (Nat.le_refl _))).trans (o5.below (by omega))⟩
      · go_roundw
        case rel => exact ⟨k + 1, by omega, by go_num, q1, q2, (hb.trans (o4.below (Nat.le_refl _))).trans (o5.below (by omega)), all_step hall ‹_›⟩
        case measure => simp [intOf]; omega
    · obtain rfl : k = 624 := by omega
      exact absurd hall.out hlaw.out

end Go.Proofs.Qxb6604045a
