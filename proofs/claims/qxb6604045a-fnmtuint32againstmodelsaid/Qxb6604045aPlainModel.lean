/-
  THE PLAIN LAW: the flat recurrence is the twist. No Go in sight.
-/
import Derived.Test.Qxb6604045aPlainUn
namespace Go.Proofs.Qxb6604045a

/-- The first k words of f, zeros behind. -/
def cpw (f : Nat → BitVec 32) (k : Nat) : Nat → BitVec 32 := fun j => if j < k then f j else 0#32
theorem cpw_zero (f : Nat → BitVec 32) (j : Nat) : cpw f 0 j = 0#32 := if_neg (by omega)
theorem cpw_all (f : Nat → BitVec 32) {n j : Nat} (h : j < n) : cpw f n j = f j := if_pos h
theorem cpw_step (f : Nat → BitVec 32) (k j : Nat) : upd (cpw f k) k (f k) j = cpw f (k + 1) j := by
  by_cases e : j = k
  · subst e; rw [upd_same, cpw, if_pos (by omega)]
  · rw [upd_other _ _ e, cpw, cpw]
    by_cases h : j < k
    · rw [if_pos h, if_pos (by omega)]
    · rw [if_neg h, if_neg (by omega)]

/-- The word that the flat recurrence lays. -/
def mword (a b c : BitVec 32) : BitVec 32 :=
  c ^^^ (((a &&& 2147483648#32) ||| (b &&& 2147483647#32)) >>> 1) ^^^ (2567483615#32 &&& (0#32 - (((a &&& 2147483648#32) ||| (b &&& 2147483647#32)) &&& 1#32)))
/-- The 1248 words behind k rounds. -/
def md (s : Nat → BitVec 32) : Nat → Nat → BitVec 32
  | 0 => cpw s 624
  | k + 1 => upd (md s k) (k + 624) (mword (md s k k) (md s k (k + 1)) (md s k (k + 397)))
def modeled (s : Nat → BitVec 32) : Nat → BitVec 32 := fun j => md s 624 (j + 624)

theorem bit_cases (y : BitVec 32) : y &&& 1#32 = 0#32 ∨ y &&& 1#32 = 1#32 := by
  cases h : y.getLsbD 0 with
  | false =>
    left
    apply BitVec.eq_of_getLsbD_eq
    intro i hi
    rw [low_bit]
    by_cases e : i = 0
    · subst e; rw [h]; simp
    · simp [e]
  | true =>
    right
    apply BitVec.eq_of_getLsbD_eq
    intro i hi
    rw [low_bit]
    by_cases e : i = 0
    · subst e; rw [h]; simp
    · simp [e, BitVec.getLsbD_one]
theorem mword_tword (a b c : BitVec 32) : mword a b c = tword a b c := by
  unfold mword tword
  rcases bit_cases ((a &&& 2147483648#32) ||| (b &&& 2147483647#32)) with h | h
  · rw [if_pos h, h, show (2567483615#32 &&& (0#32 - 0#32)) = 0#32 by decide, BitVec.xor_zero]
  · rw [if_neg (by rw [h]; decide), h, show (2567483615#32 &&& (0#32 - 1#32)) = 2567483615#32 by decide]

theorem md_old (s : Nat → BitVec 32) : ∀ k j, j < 624 → md s k j = s j
  | 0, j, h => cpw_all s h
  | k + 1, j, h => by rw [md, upd_other _ _ (by omega)]; exact md_old s k j h
theorem md_new (s : Nat → BitVec 32) : ∀ k, k ≤ 624 → ∀ j, j < k → md s k (j + 624) = twist s j
  | 0, _, j, h => by omega
  | k + 1, hk, j, h => by
    have ih := md_new s k (by omega)
    rw [md]
    by_cases e : j = k
    · subst e
      rw [upd_same, mword_tword, twist_at s j (by omega), md_old s j j (by omega)]
      congr 1
      · by_cases q : j + 1 < 624
        · rw [if_pos q, md_old s j _ q]
        · obtain rfl : j = 623 := by omega
          rw [if_neg q]; exact ih 0 (by omega)
      · by_cases q : 227 ≤ j
        · rw [if_pos q, show j + 397 = (j - 227) + 624 by omega]; exact ih (j - 227) (by omega)
        · rw [if_neg q, md_old s j _ (by omega)]
    · rw [upd_other _ _ (by omega)]; exact ih j (by omega)
/-- THE PLAIN LAW. -/
theorem modeled_twist (s : Nat → BitVec 32) (j : Nat) (hj : j < 624) : modeled s j = twist s j := md_new s 624 (Nat.le_refl _) j hj

end Go.Proofs.Qxb6604045a
