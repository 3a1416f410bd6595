/-
  THE PLAIN LAW: two seeds that give the same first block are one. No Go in sight.
-/
import Derived.Test.Qxb6604045aPlainUn
import Derived.Test.Qxb6604045aPlainTemper
namespace Go.Proofs.Qxb6604045a

/-! ### What is untwisted hangs on the 624 words alone -/
theorem un_congr {t t' : Nat → BitVec 32} (h : ∀ j, j < 624 → t j = t' j) : ∀ k, k ≤ 624 → un t k = un t' k
  | 0, _ => rfl
  | k + 1, hk => by
    have ih := un_congr h k (by omega)
    have e1 : t (623 - k) = t' (623 - k) := h _ (by omega)
    have e2 : umix t (un t' k) (623 - k) = umix t' (un t' k) (623 - k) := by
      unfold umix
      by_cases q : 227 ≤ 623 - k
      · rw [if_pos q, if_pos q]; exact h _ (by omega)
      · rw [if_neg q, if_neg q]
    rw [un, un, ih, ustep, ustep, e1, e2]

/-! ### The indices of the two loops -/
theorem idx1 : ∀ k, k ≤ 622 → idx 1 k = k + 1
  | 0, _ => rfl
  | k + 1, h => by rw [idx, idx1 k (by omega), wrapI, if_neg (by omega)]
theorem idx1_last : idx 1 623 = 1 := by
  rw [show (623 : Nat) = 622 + 1 from rfl, idx, idx1 622 (by omega)]; rfl
theorem idx2 : ∀ k, k ≤ 621 → idx 2 k = k + 2
  | 0, _ => rfl
  | k + 1, h => by rw [idx, idx2 k (by omega), wrapI, if_neg (by omega)]
theorem idx2_last : idx 2 622 = 1 := by
  rw [show (622 : Nat) = 621 + 1 from rfl, idx, idx2 621 (by omega)]; rfl

theorem wrapS_at (s : Nat → BitVec 32) (i j : Nat) (hj : j ≠ 0) : wrapS s i j = s j := by
  unfold wrapS
  split
  · exact upd_other _ _ hj
  · rfl
theorem sA_keep (seed : BitVec 32) (s0 : Nat → BitVec 32) (j : Nat) (hj : j ≠ 0) (k : Nat) : ∀ n, (∀ m, k ≤ m → m < k + n → idx 1 m ≠ j) → sA seed s0 (k + n) j = sA seed s0 k j
  | 0, _ => rfl
  | n + 1, h => by
    rw [show k + (n + 1) = (k + n) + 1 by omega, sA, wrapS_at _ _ _ hj, upd_other _ _ (fun e => h (k + n) (by omega) (by omega) e.symm)]
    exact sA_keep seed s0 j hj k n (fun m h1 h2 => h m h1 (by omega))
theorem sB_keep (s0 : Nat → BitVec 32) (j : Nat) (hj : j ≠ 0) (k : Nat) : ∀ n, (∀ m, k ≤ m → m < k + n → idx 2 m ≠ j) → sB s0 (k + n) j = sB s0 k j
  | 0, _ => rfl
  | n + 1, h => by
    rw [show k + (n + 1) = (k + n) + 1 by omega, sB, wrapS_at _ _ _ hj, upd_other _ _ (fun e => h (k + n) (by omega) (by omega) e.symm)]
    exact sB_keep s0 j hj k n (fun m h1 h2 => h m h1 (by omega))
theorem idx1_ne (j : Nat) (k n : Nat) (hj : j ≠ 1) (hk : j ≤ k) (hn : k + n ≤ 624) : ∀ m, k ≤ m → m < k + n → idx 1 m ≠ j := by
  intro m h1 h2
  by_cases e : m = 623
  · subst e; rw [idx1_last]; exact fun q => hj q.symm
  · rw [idx1 m (by omega)]; omega
theorem idx2_ne (j : Nat) (k n : Nat) (hj : j ≠ 1) (hk : j ≤ k + 1) (hn : k + n ≤ 623) : ∀ m, k ≤ m → m < k + n → idx 2 m ≠ j := by
  intro m h1 h2
  by_cases e : m = 622
  · subst e; rw [idx2_last]; exact fun q => hj q.symm
  · rw [idx2 m (by omega)]; omega

/-! ### Four words -/
section
variable (seed : BitVec 32) (I A : Nat → BitVec 32)
theorem word_A3 : sA seed I 624 3 = (I 3 ^^^ (mixf (sA seed I 624 2) * 1664525#32)) + seed := by
  have k3 : sA seed I 624 3 = sA seed I 3 3 := sA_keep seed I 3 (by omega) 3 621 (idx1_ne 3 3 621 (by omega) (by omega) (by omega))
  have k2 : sA seed I 624 2 = sA seed I 2 2 := sA_keep seed I 2 (by omega) 2 622 (idx1_ne 2 2 622 (by omega) (by omega) (by omega))
  have k0 : sA seed I 2 3 = I 3 := sA_keep seed I 3 (by omega) 0 2 (fun m h1 h2 => by rw [idx1 m (by omega)]; omega)
  rw [k3, k2, sA, wrapS_at _ _ _ (by omega), idx1 2 (by omega), upd_same, k0]
theorem word_B2 : sB A 623 2 = (A 2 ^^^ (mixf (A 1) * 1566083941#32)) - BitVec.ofNat 32 2 := by
  have k2 : sB A 623 2 = sB A 1 2 := sB_keep A 2 (by omega) 1 622 (idx2_ne 2 1 622 (by omega) (by omega) (by omega))
  rw [k2, sB, wrapS_at _ _ _ (by omega), idx2 0 (by omega), upd_same, sB]
theorem word_B3 : sB A 623 3 = (A 3 ^^^ (mixf (sB A 623 2) * 1566083941#32)) - BitVec.ofNat 32 3 := by
  have k3 : sB A 623 3 = sB A 2 3 := sB_keep A 3 (by omega) 2 621 (idx2_ne 3 2 621 (by omega) (by omega) (by omega))
  have k2 : sB A 623 2 = sB A 1 2 := sB_keep A 2 (by omega) 1 622 (idx2_ne 2 1 622 (by omega) (by omega) (by omega))
  have k0 : sB A 1 3 = A 3 := sB_keep A 3 (by omega) 0 1 (fun m h1 h2 => by rw [idx2 m (by omega)]; omega)
  rw [k3, k2, sB, wrapS_at _ _ _ (by omega), idx2 1 (by omega), upd_same, k0]
theorem word_B1 : sB A 623 1 = (A 1 ^^^ (mixf (sB A 623 623) * 1566083941#32)) - BitVec.ofNat 32 1 := by
  have k1 : sB A 622 1 = A 1 := sB_keep A 1 (by omega) 0 622 (fun m h1 h2 => by rw [idx2 m (by omega)]; omega)
  have kz : sB A 623 623 = sB A 622 623 := sB_keep A 623 (by omega) 622 1 (idx2_ne 623 622 1 (by omega) (by omega) (by omega))
  have k0 : sB A 622 0 = sB A 622 623 := by
    rw [show (622 : Nat) = 621 + 1 from rfl, sB, wrapS, if_pos (by rw [idx2 621 (by omega)]), upd_same, upd_other _ _ (show (623 : Nat) ≠ 0 by omega)]
  have k : sB A 623 1 = (sB A 622 1 ^^^ (mixf (sB A 622 (1 - 1)) * 1566083941#32)) - BitVec.ofNat 32 1 := by
    rw [show (623 : Nat) = 622 + 1 from rfl, sB, wrapS_at _ _ _ (by omega), idx2_last, upd_same]
  rw [k, k1, kz, ← k0]
end

/-! ### The seed comes back -/
theorem sub_inj {x y c : BitVec 32} (h : x - c = y - c) : x = y := by
  have := congrArg (· + c) h
  simpa using this
theorem xor_inj {x y c : BitVec 32} (h : x ^^^ c = y ^^^ c) : x = y := by
  have := congrArg (· ^^^ c) h
  simpa [BitVec.xor_assoc] using this
theorem add_inj {x y c : BitVec 32} (h : c + x = c + y) : x = y := by
  have := congrArg (· - c) h
  simpa [BitVec.add_comm c] using this
theorem seed_of_state {a b : BitVec 32} (I : Nat → BitVec 32) (h : ∀ j, 1 ≤ j → j < 624 → sB (sA a I 624) 623 j = sB (sA b I 624) 623 j) : a = b := by
  have h1 := h 1 (by omega) (by omega)
  rw [word_B1, word_B1, h 623 (by omega) (by omega)] at h1
  have a1 := xor_inj (sub_inj h1)
  have h2 := h 2 (by omega) (by omega)
  rw [word_B2, word_B2, a1] at h2
  have a2 := xor_inj (sub_inj h2)
  have h3 := h 3 (by omega) (by omega)
  rw [word_B3, word_B3, h 2 (by omega) (by omega)] at h3
  have a3 := xor_inj (sub_inj h3)
  rw [word_A3, word_A3, a2] at a3
  exact add_inj a3

/-- THE PLAIN LAW. -/
theorem seeds_distinct {a b : BitVec 32} (h : ∀ j, j < 624 → temper (twist (seeded a) j) = temper (twist (seeded b) j)) : a = b := by
  have ht : ∀ j, j < 624 → twist (seeded a) j = twist (seeded b) j := fun j hj => temper_inj (h j hj)
  have hu : untwist (twist (seeded a)) = untwist (twist (seeded b)) := un_congr ht 624 (Nat.le_refl _)
  refine seed_of_state (ini 623) (fun j h1 h2 => ?_)
  have := congrFun hu j
  rw [untwist_twist _ j h2, untwist_twist _ j h2, upd_other _ _ (by omega), upd_other _ _ (by omega)] at this
  unfold seeded at this
  rwa [upd_other _ _ (by omega), upd_other _ _ (by omega)] at this

end Go.Proofs.Qxb6604045a
