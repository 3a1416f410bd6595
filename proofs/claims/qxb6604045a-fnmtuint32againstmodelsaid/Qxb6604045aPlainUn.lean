/-
  THE PLAIN LAW: untwisting a twisted state gives the state back, but for the low bits of word 0. No Go in sight.
-/
import Derived.Test.Qxb6604045aPlain
namespace Go.Proofs.Qxb6604045a

theorem masks : ∀ i : Fin 32, ((2147483648#32).getLsbD i && (2147483647#32).getLsbD i) = false ∧ ((2147483648#32).getLsbD i || (2147483647#32).getLsbD i) = true := by decide

theorem hi_of_mix (a b : BitVec 32) : (a &&& 2147483648#32 ||| b &&& 2147483647#32) &&& 2147483648#32 = a &&& 2147483648#32 := by
  apply BitVec.eq_of_getLsbD_eq
  intro i hi
  have h := masks ⟨i, hi⟩
  simp only [BitVec.getLsbD_and, BitVec.getLsbD_or] at h ⊢
  generalize (2147483648#32).getLsbD i = u at h ⊢
  generalize (2147483647#32).getLsbD i = l at h ⊢
  generalize a.getLsbD i = p
  generalize b.getLsbD i = q
  revert h
  cases u <;> cases l <;> cases p <;> cases q <;> simp
theorem lo_of_mix (a b : BitVec 32) : (a &&& 2147483648#32 ||| b &&& 2147483647#32) &&& 2147483647#32 = b &&& 2147483647#32 := by
  apply BitVec.eq_of_getLsbD_eq
  intro i hi
  have h := masks ⟨i, hi⟩
  simp only [BitVec.getLsbD_and, BitVec.getLsbD_or] at h ⊢
  generalize (2147483648#32).getLsbD i = u at h ⊢
  generalize (2147483647#32).getLsbD i = l at h ⊢
  generalize a.getLsbD i = p
  generalize b.getLsbD i = q
  revert h
  cases u <;> cases l <;> cases p <;> cases q <;> simp
theorem join_masks (a : BitVec 32) : (a &&& 2147483648#32) ||| (a &&& 2147483647#32) = a := by
  apply BitVec.eq_of_getLsbD_eq
  intro i hi
  have h := masks ⟨i, hi⟩
  simp only [BitVec.getLsbD_and, BitVec.getLsbD_or] at h ⊢
  generalize (2147483648#32).getLsbD i = u at h ⊢
  generalize (2147483647#32).getLsbD i = l at h ⊢
  generalize a.getLsbD i = p
  revert h
  cases u <;> cases l <;> cases p <;> simp
theorem hi_hi (a : BitVec 32) : (a &&& 2147483648#32) &&& 2147483648#32 = a &&& 2147483648#32 := by
  rw [BitVec.and_assoc, BitVec.and_self]

theorem xor_back (c z : BitVec 32) : (c ^^^ z) ^^^ c = z := by
  rw [BitVec.xor_comm c z, BitVec.xor_assoc, BitVec.xor_self, BitVec.xor_zero]

theorem low_bit (y : BitVec 32) (i : Nat) : (y &&& 1#32).getLsbD i = (decide (i = 0) && y.getLsbD i) := by
  rw [BitVec.getLsbD_and]
  cases i with
  | zero => simp
  | succ i => simp [BitVec.getLsbD_one]

/-- From what the twist mixed in, y comes back. -/
theorem uy_even_back (y : BitVec 32) (h : y &&& 1#32 = 0#32) : uy (y >>> 1) = y := by
  have h0 : y.getLsbD 0 = false := by
    have := congrArg (fun x => BitVec.getLsbD x 0) h
    simp only [low_bit] at this
    simpa using this
  have e : (y >>> 1) &&& 2147483648#32 = 0#32 := by
    apply BitVec.eq_of_getLsbD_eq
    intro i hi
    have hm : ∀ i : Fin 32, (2147483648#32).getLsbD i = decide (i.val = 31) := by decide
    have hm' := hm ⟨i, hi⟩
    simp only at hm'
    rw [BitVec.getLsbD_and, hm', BitVec.getLsbD_ushiftRight]
    by_cases e : i = 31
    · subst e; simp
    · simp [e]
  unfold uy
  rw [if_pos e]
  apply BitVec.eq_of_getLsbD_eq
  intro i hi
  rw [BitVec.getLsbD_shiftLeft, BitVec.getLsbD_ushiftRight]
  cases i with
  | zero => rw [h0]; simp
  | succ i => simp [hi, Nat.add_comm 1 i]
theorem uy_odd_back (y : BitVec 32) (h : ¬ y &&& 1#32 = 0#32) : uy ((y >>> 1) ^^^ 2567483615#32) = y := by
  have h0 : y.getLsbD 0 = true := by
    cases hb : y.getLsbD 0 with
    | true => rfl
    | false =>
      refine absurd ?_ h
      apply BitVec.eq_of_getLsbD_eq
      intro i hi
      rw [low_bit]
      by_cases e : i = 0
      · subst e; rw [hb]; simp
      · simp [e]
  have e : ¬ ((y >>> 1) ^^^ 2567483615#32) &&& 2147483648#32 = 0#32 := by
    intro q
    have := congrArg (fun x => BitVec.getLsbD x 31) q
    simp only [BitVec.getLsbD_and, BitVec.getLsbD_xor, BitVec.getLsbD_ushiftRight] at this
    have k1 : (2567483615#32).getLsbD 31 = true := by decide
    have k2 : (2147483648#32).getLsbD 31 = true := by decide
    rw [k1, k2] at this
    simp at this
  unfold uy
  rw [if_neg e, BitVec.xor_assoc, BitVec.xor_self, BitVec.xor_zero]
  apply BitVec.eq_of_getLsbD_eq
  intro i hi
  rw [BitVec.getLsbD_or, BitVec.getLsbD_shiftLeft, BitVec.getLsbD_ushiftRight]
  cases i with
  | zero => simp [h0]
  | succ i => simp [hi, Nat.add_comm 1 i]
theorem uy_tword (a b c : BitVec 32) : uy (tword a b c ^^^ c) = (a &&& 2147483648#32) ||| (b &&& 2147483647#32) := by
  unfold tword
  by_cases h : ((a &&& 2147483648#32) ||| (b &&& 2147483647#32)) &&& 1#32 = 0#32
  · rw [if_pos h, xor_back]; exact uy_even_back _ h
  · rw [if_neg h, BitVec.xor_assoc c, xor_back]; exact uy_odd_back _ h

/-! ### The twist, word by word -/
theorem tw_old (s : Nat → BitVec 32) : ∀ k j, k ≤ j → tw k s j = s j
  | 0, _, _ => rfl
  | k + 1, j, h => by
    rw [tw, step, upd_other _ _ (by omega)]
    exact tw_old s k j (by omega)
theorem tw_new (s : Nat → BitVec 32) (j : Nat) : ∀ k, j < k → tw k s j = tw (j + 1) s j
  | 0, h => by omega
  | k + 1, h => by
    by_cases e : j = k
    · subst e; rfl
    · rw [tw, step, upd_other _ _ e]
      exact tw_new s j k (by omega)
theorem twist_at (s : Nat → BitVec 32) (i : Nat) (hi : i < 624) :
    twist s i = tword (s i) (if i + 1 < 624 then s (i + 1) else twist s 0) (if 227 ≤ i then twist s (i - 227) else s (i + 397)) := by
  unfold twist
  rw [tw_new s i 624 hi, tw, step, upd_same, tw_old s i i (Nat.le_refl _)]
  congr 1
  · by_cases h : i + 1 < 624
    · rw [if_pos h, Nat.mod_eq_of_lt h, tw_old s i _ (by omega)]
    · obtain rfl : i = 623 := by omega
      rw [if_neg (by omega), tw_new s 0 624 (by omega)]
      exact tw_new s 0 623 (by omega)
  · by_cases h : 227 ≤ i
    · rw [if_pos h, show (i + 397) % 624 = i - 227 by omega, tw_new s _ i (by omega), tw_new s _ 624 (by omega)]
    · rw [if_neg h, Nat.mod_eq_of_lt (by omega), tw_old s i _ (by omega)]

/-! ### The untwist, round by round -/
theorem un_at (s : Nat → BitVec 32) : ∀ k, k ≤ 624 → ∀ j, j < 624 →
    un (twist s) k j = if 624 < j + k then s j else if j + k = 624 then s j &&& 2147483648#32 else 0#32
  | 0, _, j, hj => by rw [if_neg (by omega), if_neg (by omega)]; rfl
  | k + 1, hk, j, hj => by
    have ih := un_at s k (by omega)
    obtain ⟨i, hi⟩ : ∃ i, i + k = 623 := ⟨623 - k, by omega⟩
    have ei : 623 - k = i := by omega
    have hmix : umix (twist s) (un (twist s) k) i = if 227 ≤ i then twist s (i - 227) else s (i + 397) := by
      unfold umix
      by_cases h : 227 ≤ i
      · rw [if_pos h, if_pos h]
      · rw [if_neg h, if_neg h, ih _ (by omega), if_pos (by omega)]
    have hy : uy (twist s i ^^^ umix (twist s) (un (twist s) k) i) = (s i &&& 2147483648#32) ||| ((if i + 1 < 624 then s (i + 1) else twist s 0) &&& 2147483647#32) := by
      rw [hmix, twist_at s i (by omega)]
      exact uy_tword _ _ _
    have h0 : un (twist s) k i = 0#32 := by rw [ih i (by omega), if_neg (by omega), if_neg (by omega)]
    rw [un, ei, ustep, hy]
    by_cases h1 : i + 1 < 624
    · simp only [if_pos h1]
      by_cases e1 : j = i + 1
      · subst e1
        rw [upd_same, if_pos (by omega), upd_other _ _ (by omega), ih _ (by omega), if_neg (by omega), if_pos (by omega), lo_of_mix, hi_hi, join_masks]
      · rw [upd_other _ _ e1]
        by_cases e2 : j = i
        · subst e2
          rw [upd_same, if_neg (by omega), if_pos (by omega), hi_of_mix, h0]
          simp
        · rw [upd_other _ _ e2, ih j hj]
          by_cases e3 : 624 < j + k
          · rw [if_pos e3, if_pos (by omega)]
          · rw [if_neg e3, if_neg (by omega), if_neg (by omega), if_neg (by omega)]
    · simp only [if_neg h1]
      by_cases e2 : j = i
      · subst e2
        rw [upd_same, if_neg (by omega), if_pos (by omega), hi_of_mix, h0]
        simp
      · rw [upd_other _ _ e2, ih j hj]
        by_cases e3 : 624 < j + k
        · rw [if_pos e3, if_pos (by omega)]
        · rw [if_neg e3, if_neg (by omega), if_neg (by omega), if_neg (by omega)]

/-- THE PLAIN LAW. -/
theorem untwist_twist (s : Nat → BitVec 32) (j : Nat) (hj : j < 624) : untwist (twist s) j = upd s 0 (s 0 &&& 2147483648#32) j := by
  unfold untwist
  rw [un_at s 624 (Nat.le_refl _) j hj]
  by_cases e : j = 0
  · subst e; rw [if_neg (by omega), if_pos (by omega), upd_same]
  · rw [if_pos (by omega), upd_other _ _ e]

end Go.Proofs.Qxb6604045a
