/-
  THE PLAIN LAW: the first output at the seeds 0 and 42. The seeded words by three plain recurrences, reckoned by the kernel.
-/
import Derived.Test.Qxb6604045aPlainSeeds
namespace Go.Proofs.Qxb6604045a

/-- Word j behind the first loop. -/
def J : Nat → BitVec 32
  | 0 => 19650218#32
  | k + 1 => 1812433253#32 * mixf (J k) + BitVec.ofNat 32 (k + 1)
/-- Word j behind the second loop's first lap. -/
def aN (seed : BitVec 32) : Nat → BitVec 32
  | 0 => J 0
  | k + 1 => (J (k + 1) ^^^ (mixf (aN seed k) * 1664525#32)) + seed
/-- Word 1 behind the second loop. -/
def a1 (seed : BitVec 32) : BitVec 32 := (aN seed 1 ^^^ (mixf (aN seed 623) * 1664525#32)) + seed
/-- Word j + 1 behind the third loop's first lap (word 1 as it was). -/
def bN (seed : BitVec 32) : Nat → BitVec 32
  | 0 => a1 seed
  | k + 1 => (aN seed (k + 2) ^^^ (mixf (bN seed k) * 1566083941#32)) - BitVec.ofNat 32 (k + 2)
/-- The first output. -/
def first (seed : BitVec 32) : BitVec 32 := temper (tword 2147483648#32 ((a1 seed ^^^ (mixf (bN seed 622) * 1566083941#32)) - 1#32) (bN seed 396))

theorem ini_at : ∀ k j, j ≤ k → ini k j = J j
  | 0, j, h => by obtain rfl : j = 0 := by omega
                  rfl
  | k + 1, j, h => by
    by_cases e : j = k + 1
    · subst e; rw [ini, upd_same, ini_at k k (Nat.le_refl _), J]
    · rw [ini, upd_other _ _ e]; exact ini_at k j (by omega)

theorem sA_old (seed : BitVec 32) (I : Nat → BitVec 32) (k j : Nat) (hk : k ≤ 622) (hj : k < j) : sA seed I k j = I j := by
  have := sA_keep seed I j (by omega) 0 k (fun m h1 h2 => by rw [idx1 m (by omega)]; omega)
  rwa [Nat.zero_add] at this
theorem sA_zero (seed : BitVec 32) (I : Nat → BitVec 32) : ∀ k, k ≤ 622 → sA seed I k 0 = I 0
  | 0, _ => rfl
  | k + 1, h => by
    rw [sA, idx1 k (by omega), wrapS, if_neg (by omega), upd_other _ _ (by omega)]
    exact sA_zero seed I k (by omega)
theorem sA_at (seed : BitVec 32) : ∀ j, 1 ≤ j → j ≤ 623 → sA seed (ini 623) j j = aN seed j
  | 0, h, _ => by omega
  | j + 1, _, h => by
    have e0 : sA seed (ini 623) j (j + 1) = J (j + 1) := by rw [sA_old seed _ j (j + 1) (by omega) (by omega), ini_at 623 (j + 1) h]
    have e1 : sA seed (ini 623) j j = aN seed j := by
      cases j with
      | zero => rw [sA, ini_at 623 0 (by omega)]; rfl
      | succ j => exact sA_at seed (j + 1) (by omega) (by omega)
    rw [sA, wrapS_at _ _ _ (by omega), idx1 j (by omega), upd_same, e0, show j + 1 - 1 = j by omega, e1, aN]
theorem sA_end (seed : BitVec 32) (j : Nat) (h1 : 2 ≤ j) (h2 : j ≤ 623) : sA seed (ini 623) 624 j = aN seed j := by
  rw [← sA_at seed j (by omega) h2]
  have := sA_keep seed (ini 623) j (by omega) j (624 - j) (idx1_ne j j (624 - j) (by omega) (by omega) (by omega))
  rwa [show j + (624 - j) = 624 by omega] at this
theorem sA_end1 (seed : BitVec 32) : sA seed (ini 623) 624 1 = a1 seed := by
  have k1 : sA seed (ini 623) 623 1 = aN seed 1 := by
    rw [← sA_at seed 1 (by omega) (by omega)]
    exact sA_keep seed (ini 623) 1 (by omega) 1 622 (fun m h1 h2 => by rw [idx1 m (by omega)]; omega)
  have k0 : sA seed (ini 623) 623 0 = aN seed 623 := by
    have e : sA seed (ini 623) 623 0 = sA seed (ini 623) 623 623 := by
      rw [show (623 : Nat) = 622 + 1 from rfl, sA, wrapS, if_pos (by rw [idx1 622 (by omega)]), upd_same, upd_other _ _ (show (622 + 1 : Nat) ≠ 0 by omega)]
    rw [e]; exact sA_at seed 623 (by omega) (by omega)
  have k : sA seed (ini 623) 624 1 = (sA seed (ini 623) 623 1 ^^^ (mixf (sA seed (ini 623) 623 (1 - 1)) * 1664525#32)) + seed := by
    rw [show (624 : Nat) = 623 + 1 from rfl, sA, wrapS_at _ _ _ (by omega), idx1_last, upd_same]
  rw [k, k1, show (1 : Nat) - 1 = 0 from rfl, k0, a1]

theorem sB_old (A : Nat → BitVec 32) (k j : Nat) (hk : k ≤ 622) (hj : k + 1 < j) : sB A k j = A j := by
  have := sB_keep A j (by omega) 0 k (fun m h1 h2 => by rw [idx2 m (by omega)]; omega)
  rwa [Nat.zero_add] at this
theorem sB_at (seed : BitVec 32) : ∀ k, k ≤ 622 → sB (sA seed (ini 623) 624) k (k + 1) = bN seed k
  | 0, _ => by rw [sB, sA_end1]; rfl
  | k + 1, h => by
    have e0 : sB (sA seed (ini 623) 624) k (k + 2) = aN seed (k + 2) := by rw [sB_old _ k (k + 2) (by omega) (by omega), sA_end seed (k + 2) (by omega) (by omega)]
    rw [sB, wrapS_at _ _ _ (by omega), idx2 k (by omega), upd_same, e0, show k + 2 - 1 = k + 1 by omega, sB_at seed k (by omega), bN]
theorem sB_end (seed : BitVec 32) (k : Nat) (h1 : 1 ≤ k) (h2 : k ≤ 622) : sB (sA seed (ini 623) 624) 623 (k + 1) = bN seed k := by
  rw [← sB_at seed k h2]
  have := sB_keep (sA seed (ini 623) 624) (k + 1) (by omega) k (623 - k) (idx2_ne (k + 1) k (623 - k) (by omega) (by omega) (by omega))
  rwa [show k + (623 - k) = 623 by omega] at this

theorem first_out (seed : BitVec 32) : temper (twist (seeded seed) 0) = first seed := by
  have t := twist_at (seeded seed) 0 (by omega)
  rw [if_pos (by omega), if_neg (by omega)] at t
  have e0 : seeded seed 0 = 2147483648#32 := upd_same _ _ _
  have e1 : seeded seed (0 + 1) = (a1 seed ^^^ (mixf (bN seed 622) * 1566083941#32)) - 1#32 := by
    unfold seeded
    rw [upd_other _ _ (by omega), word_B1, sA_end1, sB_end seed 622 (by omega) (by omega)]
  have e2 : seeded seed (0 + 397) = bN seed 396 := by
    unfold seeded
    rw [upd_other _ _ (by omega), sB_end seed 396 (by omega) (by omega)]
  rw [t, e0, e1, e2, first]

theorem first_0 : first 0#32 >>> 5 = 113336382#32 := by decide +kernel
theorem first_42 : first 42#32 >>> 5 = 85822412#32 := by decide +kernel

end Go.Proofs.Qxb6604045a
