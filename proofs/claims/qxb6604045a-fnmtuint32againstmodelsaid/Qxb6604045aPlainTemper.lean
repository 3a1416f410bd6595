/-
  THE PLAIN LAW: untempering undoes tempering. No Go in sight.
-/
import Derived.Test.Qxb6604045aPlain
namespace Go.Proofs.Qxb6604045a

theorem un4 (x : BitVec 32) : untemper4 (temper4 x) = x := by
  unfold untemper4 temper4
  apply BitVec.eq_of_getLsbD_eq
  intro i hi
  simp only [BitVec.getLsbD_xor, BitVec.getLsbD_ushiftRight]
  rw [BitVec.getLsbD_of_ge x (18 + (18 + i)) (by omega)]
  generalize x.getLsbD i = a
  generalize x.getLsbD (18 + i) = b
  cases a <;> cases b <;> rfl
theorem un1 (x : BitVec 32) : untemper1 (temper1 x) = x := by
  unfold untemper1 temper1
  apply BitVec.eq_of_getLsbD_eq
  intro i hi
  simp only [BitVec.getLsbD_xor, BitVec.getLsbD_ushiftRight]
  rw [BitVec.getLsbD_of_ge x (11 + (22 + i)) (by omega), show 11 + (11 + i) = 22 + i by omega]
  generalize x.getLsbD i = a
  generalize x.getLsbD (11 + i) = b
  generalize x.getLsbD (22 + i) = c
  cases a <;> cases b <;> cases c <;> rfl

/-- A shift to the left under a mask, as a linear map. -/
def phi (n : Nat) (m t : BitVec 32) : BitVec 32 := (t <<< n) &&& m
theorem phi_xor (n : Nat) (m a b : BitVec 32) : phi n m (a ^^^ b) = phi n m a ^^^ phi n m b := by
  unfold phi
  apply BitVec.eq_of_getLsbD_eq
  intro i hi
  simp only [BitVec.getLsbD_and, BitVec.getLsbD_xor, BitVec.getLsbD_shiftLeft]
  generalize m.getLsbD i = p
  generalize a.getLsbD (i - n) = q
  generalize b.getLsbD (i - n) = r
  generalize decide (i < 32) = u
  generalize decide (i < n) = v
  cases p <;> cases q <;> cases r <;> cases u <;> cases v <;> rfl
theorem phi_low (n : Nat) (m t : BitVec 32) (c : Nat) (h : ∀ i, i < c → t.getLsbD i = false) : ∀ i, i < c + n → (phi n m t).getLsbD i = false := by
  intro i hi
  unfold phi
  rw [BitVec.getLsbD_and, BitVec.getLsbD_shiftLeft]
  by_cases hn : i < n
  · simp [hn]
  · rw [h (i - n) (by omega)]; simp
theorem zero_of_low (t : BitVec 32) (c : Nat) (hc : 32 ≤ c) (h : ∀ i, i < c → t.getLsbD i = false) : t = 0#32 := by
  apply BitVec.eq_of_getLsbD_eq
  intro i hi
  rw [h i (by omega)]; simp
theorem xx (a b : BitVec 32) : a ^^^ b ^^^ b = a := by rw [BitVec.xor_assoc, BitVec.xor_self, BitVec.xor_zero]
/-- One round of the fixed point takes the error one power further. -/
theorem phi_round (n : Nat) (m x e : BitVec 32) : (x ^^^ phi n m x) ^^^ phi n m (x ^^^ e) = x ^^^ phi n m e := by
  rw [phi_xor, BitVec.xor_assoc x, ← BitVec.xor_assoc (phi n m x), BitVec.xor_self, BitVec.zero_xor]

theorem un3 (x : BitVec 32) : untemper3 (temper3 x) = x := by
  have e0 : temper3 x = x ^^^ phi 15 4022730752#32 x := rfl
  have e1 : un15 (temper3 x) (temper3 x) = x ^^^ phi 15 4022730752#32 (phi 15 4022730752#32 x) := by
    show temper3 x ^^^ phi 15 4022730752#32 (temper3 x) = _
    rw [e0, phi_round]
  have e2 : un15 (temper3 x) (un15 (temper3 x) (temper3 x)) = x ^^^ phi 15 4022730752#32 (phi 15 4022730752#32 (phi 15 4022730752#32 x)) := by
    show temper3 x ^^^ phi 15 4022730752#32 (un15 (temper3 x) (temper3 x)) = _
    rw [e1, e0, phi_round]
  unfold untemper3
  rw [e2, zero_of_low _ (0 + 15 + 15 + 15) (by omega) (phi_low _ _ _ _ (phi_low _ _ _ _ (phi_low _ _ _ 0 (fun i hi => by omega)))), BitVec.xor_zero]
theorem un2 (x : BitVec 32) : untemper2 (temper2 x) 4 = x := by
  have e0 : temper2 x = x ^^^ phi 7 2636928640#32 x := rfl
  have step : ∀ k e, untemper2 (temper2 x) k = x ^^^ e → untemper2 (temper2 x) (k + 1) = x ^^^ phi 7 2636928640#32 e := by
    intro k e h
    show temper2 x ^^^ phi 7 2636928640#32 (untemper2 (temper2 x) k) = _
    rw [h, e0, phi_round]
  have s4 := step 3 _ (step 2 _ (step 1 _ (step 0 _ e0)))
  rw [s4, zero_of_low _ (0 + 7 + 7 + 7 + 7 + 7) (by omega) (phi_low _ _ _ _ (phi_low _ _ _ _ (phi_low _ _ _ _ (phi_low _ _ _ _ (phi_low _ _ _ 0 (fun i hi => by omega)))))), BitVec.xor_zero]

/-- THE PLAIN LAW. -/
theorem untemper_temper (x : BitVec 32) : untemper (temper x) = x := by
  unfold untemper temper
  rw [un4, un3, un2, un1]
theorem temper_inj {x y : BitVec 32} (h : temper x = temper y) : x = y := by
  rw [← untemper_temper x, h, untemper_temper]

end Go.Proofs.Qxb6604045a
