/-
  THE PLAIN LAW: what appendDigits lays has the form that readBack reads, with the digits and the point in it.
-/
import Derived.Test.Qxb6604065aDoorDigits
namespace Go.Proofs.Qxb6604065aDoor
open Go.RowKit

def Dg (l : List UInt8) : Prop := ∀ j, j < l.length → dgB (bt l j) = true
theorem dg46 : dgB 46 = false := by decide
theorem dg101 : dgB 101 = false := by decide
theorem bt_zero (c : UInt8) (l : List UInt8) : bt (c :: l) 0 = (c.toNat : Int) := rfl
theorem bt_succ (c : UInt8) (l : List UInt8) (j : Nat) : bt (c :: l) (j + 1) = bt l j := rfl
theorem bt_tail (A R : List UInt8) (n : Nat) (h : A.length = n) (j : Nat) : bt (A ++ R) (n + j) = bt R j := by subst h; exact bt_app_r A R j

theorem mkForm (A F E : List UInt8) (sg : UInt8) (hA : A ≠ []) (dA : Dg A) (h0 : bt A 0 = 48 → A.length = 1) (dF : Dg F) (dE : Dg E) (hs : sg = 43 ∨ sg = 45)
    (tl : List UInt8) (ht : tl = A ++ ((if F = [] then [] else 46 :: F) ++ (if E = [] then [] else 101 :: sg :: E))) : Form tl A F E (sg.toNat : Int) := by
  have hp := List.length_pos_iff.mpr hA
  have a0 : ∀ j, j < A.length → bt tl j = bt A j := fun j hj => by rw [ht, bt_app_l _ _ hj]
  have hr : ∀ j, bt tl (A.length + j) = bt ((if F = [] then [] else 46 :: F) ++ (if E = [] then [] else 101 :: sg :: E)) j := fun j => by rw [ht, bt_app_r]
  have hl : tl.length = A.length + ((if F = [] then [] else 46 :: F).length + (if E = [] then [] else 101 :: sg :: E).length) := by rw [ht, List.length_append, List.length_append]
  have r0 := hr 0
  rw [Nat.add_zero] at r0
  have hsg : (sg.toNat : Int) = 43 ∨ (sg.toNat : Int) = 45 := by
    rcases hs with h | h
    · exact .inl (by rw [h]; rfl)
    · exact .inr (by rw [h]; rfl)
  by_cases hF : F = []
  · have hfp : fpos A F = A.length := if_pos hF
    rw [if_pos hF] at hr hl r0
    rw [List.nil_append] at hr r0
    by_cases hE : E = []
    · rw [if_pos hE] at hl
      simp only [List.length_nil, Nat.add_zero] at hl
      exact ⟨hA, by omega, fun j hj => by rw [a0 j hj]; exact dA j hj, a0, fun h => h0 (by rw [← a0 0 hp]; exact h), fun h => by omega, fun _ h => by omega, fun h => absurd hF h, fun h => absurd hF h, fun h => absurd hF h, fun _ => by rw [hfp]; exact hl, fun h => absurd hE h, fun h => absurd hE h⟩
    · rw [if_neg hE] at hl r0 hr
      simp only [List.length_nil, Nat.zero_add, List.length_cons] at hl
      have x0 : bt tl A.length = 101 := r0
      exact ⟨hA, by omega, fun j hj => by rw [a0 j hj]; exact dA j hj, a0, fun h => h0 (by rw [← a0 0 hp]; exact h), fun _ => by rw [x0]; exact dg101, fun _ _ => by rw [x0]; decide, fun h => absurd hF h, fun h => absurd hF h, fun h => absurd hF h, fun h => absurd h hE,
        fun _ => ⟨by rw [hfp]; omega, by rw [hfp]; exact x0, by rw [hfp, hr 1]; rfl, hsg⟩,
        fun _ j hj => by
          have e : bt tl (fpos A F + 2 + j) = bt E j := by rw [hfp, Nat.add_assoc, hr (2 + j), Nat.add_comm 2 j]; rfl
          exact ⟨by rw [e]; exact dE j hj, e⟩⟩
  · have hfp : fpos A F = A.length + 1 + F.length := if_neg hF
    rw [if_neg hF] at hr hl r0
    have x0 : bt tl A.length = 46 := r0
    have hpF := List.length_pos_iff.mpr hF
    have xf : ∀ j, j < F.length → bt tl (A.length + 1 + j) = bt F j := fun j hj => by
      rw [Nat.add_assoc, hr (1 + j), Nat.add_comm 1 j, List.cons_append, bt_succ, bt_app_l _ _ hj]
    have xr : ∀ j, bt tl (A.length + 1 + F.length + j) = bt (if E = [] then [] else 101 :: sg :: E) j := fun j => by
      rw [show A.length + 1 + F.length + j = A.length + (F.length + j + 1) by omega, hr, List.cons_append, bt_succ, bt_app_r]
    by_cases hE : E = []
    · rw [if_pos hE] at hl
      simp only [List.length_nil, Nat.add_zero, List.length_cons] at hl
      exact ⟨hA, by omega, fun j hj => by rw [a0 j hj]; exact dA j hj, a0, fun h => h0 (by rw [← a0 0 hp]; exact h), fun _ => by rw [x0]; exact dg46, fun h => absurd h hF, fun _ => ⟨by omega, x0⟩, fun _ j hj => ⟨by rw [xf j hj]; exact dF j hj, xf j hj⟩, fun _ h => by omega,
        fun _ => by rw [hfp]; omega, fun h => absurd hE h, fun h => absurd hE h⟩
    · rw [if_neg hE] at hl xr
      simp only [List.length_cons] at hl
      have y0 : bt tl (A.length + 1 + F.length) = 101 := by have := xr 0; rw [Nat.add_zero] at this; exact this
      exact ⟨hA, by omega, fun j hj => by rw [a0 j hj]; exact dA j hj, a0, fun h => h0 (by rw [← a0 0 hp]; exact h), fun _ => by rw [x0]; exact dg46, fun h => absurd h hF, fun _ => ⟨by omega, x0⟩, fun _ j hj => ⟨by rw [xf j hj]; exact dF j hj, xf j hj⟩,
        fun _ _ => by rw [y0]; exact dg101, fun h => absurd h hE,
        fun _ => ⟨by rw [hfp]; omega, by rw [hfp]; exact y0, by rw [hfp, xr 1]; rfl, hsg⟩,
        fun _ j hj => by
          have e : bt tl (fpos A F + 2 + j) = bt E j := by rw [hfp, Nat.add_assoc, xr (2 + j), Nat.add_comm 2 j]; rfl
          exact ⟨by rw [e]; exact dE j hj, e⟩⟩

/-! ### Decimal numerals -/
theorem dec_nonempty (u : Nat) : Lib.decDigits u ≠ [] := by
  rw [Lib.decDigits]
  split <;> simp
theorem digit_byte (d : Nat) (h : d < 10) : ((UInt8.ofNat (48 + d)).toNat : Int) = 48 + d := by
  rw [UInt8.toNat_ofNat']
  omega
theorem dg_snoc {l : List UInt8} {c : UInt8} (h : Dg l) (hc : dgB (c.toNat : Int) = true) : Dg (l ++ [c]) := by
  intro j hj
  simp only [List.length_append, List.length_cons, List.length_nil] at hj
  by_cases e : j < l.length
  · rw [bt_app_l _ _ e]; exact h j e
  · have := bt_app_r l [c] 0
    rw [show j = l.length + 0 by omega, this]
    exact hc
theorem dec_facts (u : Nat) : Dg (Lib.decDigits u) ∧ nval (Lib.decDigits u) = u := by
  induction u using Nat.strongRecOn with
  | ind u ih =>
    rw [Lib.decDigits]
    by_cases h : u < 10
    · rw [dif_pos h]
      have e := digit_byte u h
      refine ⟨dg_snoc (l := []) (fun j hj => by simp at hj) (by rw [e, dgB_iff]; omega), ?_⟩
      have := nval_snoc [] (UInt8.ofNat (48 + u))
      rw [List.nil_append] at this
      rw [this, e]
      show (0 : Int) * 10 + _ = _
      omega
    · rw [dif_neg h]
      obtain ⟨h1, h2⟩ := ih (u / 10) (by omega)
      have e := digit_byte (u % 10) (by omega)
      refine ⟨dg_snoc h1 (by rw [e, dgB_iff]; omega), ?_⟩
      rw [nval_snoc, h2, e]
      omega

/-! ### The four layouts -/
theorem dg_take {l : List UInt8} (h : Dg l) (k : Nat) : Dg (l.take k) := by
  intro j hj
  simp only [List.length_take] at hj
  rw [bt_take _ _ _ (by omega)]
  exact h j (by omega)
theorem dg_drop {l : List UInt8} (h : Dg l) (k : Nat) : Dg (l.drop k) := by
  intro j hj
  simp only [List.length_drop] at hj
  rw [bt_drop]
  exact h (k + j) (by omega)
theorem dg_rep (n : Nat) : Dg (List.replicate n 48) := by
  intro j hj
  simp only [List.length_replicate] at hj
  rw [bt_rep n j hj]
  decide
theorem dg_app {l m : List UInt8} (h : Dg l) (k : Dg m) : Dg (l ++ m) := by
  intro j hj
  rw [List.length_append] at hj
  by_cases e : j < l.length
  · rw [bt_app_l _ _ e]; exact h j e
  · have := bt_app_r l m (j - l.length)
    rw [show l.length + (j - l.length) = j by omega] at this
    rw [this]; exact k _ (by omega)

/-- THE PLAIN LAW. -/
theorem layout_form (ds : List UInt8) (p : Int) (hs : Sh ds) (hp0 : -9223372036854775808 < p) (hp1 : p ≤ 9223372036854775807) :
    ∃ (A F E : List UInt8) (sg : Int) (f r : Nat), Form (layout ds p) A F E sg ∧ A ++ F = List.replicate f 48 ++ ds ++ List.replicate r 48 ∧ p = (A.length : Int) - f + expv E sg ∧
      nval E ≤ 9223372036854775808 ∧ (sg = 43 → nval E ≤ 9223372036854775807) := by
  obtain ⟨hne, hd, hh, _⟩ := hs
  have hpos := List.length_pos_iff.mpr hne
  have nv0 : nval [] = 0 := rfl
  unfold layout
  by_cases c1 : (ds.length : Int) ≤ p ∧ p ≤ 21
  · rw [if_pos c1]
    refine ⟨ds ++ List.replicate (p.toNat - ds.length) 48, [], [], (43 : UInt8).toNat, 0, p.toNat - ds.length, mkForm _ [] [] 43 (by simp [hne]) (dg_app hd (dg_rep _)) (fun h => absurd (by rw [bt_app_l _ _ hpos] at h; exact h) hh) (fun j hj => by simp at hj) (fun j hj => by simp at hj) (.inl rfl) _ (by simp), by simp, ?_, by rw [nv0]; decide, fun _ => by rw [nv0]; decide⟩
    rw [expv, if_pos rfl]
    simp
    omega
  · rw [if_neg c1]
    by_cases c2 : 0 < p ∧ p ≤ 21
    · rw [if_pos c2]
      have hlt : p.toNat < ds.length := by omega
      have hdr : ds.drop p.toNat ≠ [] := drop_ne hlt
      refine ⟨ds.take p.toNat, ds.drop p.toNat, [], (43 : UInt8).toNat, 0, 0, mkForm _ _ [] 43 (take_ne hne (by omega)) (dg_take hd _) (fun h => absurd (by rw [bt_take _ _ _ (by omega)] at h; exact h) hh) (dg_drop hd _) (fun j hj => by simp at hj) (.inl rfl) _ (by rw [if_neg hdr]; simp), by simp, ?_, by rw [nv0]; decide, fun _ => by rw [nv0]; decide⟩
      rw [expv, if_pos rfl, List.length_take]
      omega
    · rw [if_neg c2]
      by_cases c3 : -6 < p ∧ p ≤ 0
      · rw [if_pos c3]
        have hF : List.replicate (-p).toNat 48 ++ ds ≠ [] := by simp [hne]
        refine ⟨[48], List.replicate (-p).toNat 48 ++ ds, [], (43 : UInt8).toNat, 1 + (-p).toNat, 0, mkForm _ _ [] 43 (by simp) (dg_rep 1) (fun _ => rfl) (dg_app (dg_rep _) hd) (fun j hj => by simp at hj) (.inl rfl) _ (by rw [if_neg hF]; simp), ?_, ?_, by rw [nv0]; decide, fun _ => by rw [nv0]; decide⟩
        · rw [Nat.add_comm 1, List.replicate_succ]; simp
        · rw [expv, if_pos rfl]
          simp
          omega
      · rw [if_neg c3]
        obtain ⟨u, hu⟩ : ∃ u : Nat, u = (p - 1).natAbs := ⟨_, rfl⟩
        obtain ⟨dE, nE⟩ := dec_facts u
        have hE := dec_nonempty u
        by_cases hq : 0 ≤ p - 1
        · have ei : Lib.itoa (p - 1) = Lib.decDigits u := by rw [Lib.itoa, if_neg (by omega), hu]; congr 1; omega
          refine ⟨ds.take 1, ds.drop 1, Lib.decDigits u, (43 : UInt8).toNat, 0, 0, mkForm _ _ _ 43 (take_ne hne (by omega)) (dg_take hd _) (fun h => absurd (by rw [bt_take _ _ _ (by omega)] at h; exact h) hh) (dg_drop hd _) dE (.inl rfl) _ ?_, by rw [List.take_append_drop]; simp, ?_, by omega, fun _ => by omega⟩
          · rw [sci, if_neg hE, if_pos hq, ei]
            by_cases h1 : ds.length ≤ 1
            · rw [if_pos h1, if_pos (List.drop_eq_nil_of_le h1)]; simp
            · rw [if_neg h1, if_neg (drop_ne (by omega))]; simp
          · rw [expv, if_neg hE, if_neg (by decide), nE, List.length_take]
            omega
        · have ei : Lib.itoa (p - 1) = 45 :: Lib.decDigits u := by rw [Lib.itoa, if_pos (by omega), hu]
          refine ⟨ds.take 1, ds.drop 1, Lib.decDigits u, (45 : UInt8).toNat, 0, 0, mkForm _ _ _ 45 (take_ne hne (by omega)) (dg_take hd _) (fun h => absurd (by rw [bt_take _ _ _ (by omega)] at h; exact h) hh) (dg_drop hd _) dE (.inr rfl) _ ?_, by rw [List.take_append_drop]; simp, ?_, by omega, fun h => absurd h (by decide)⟩
          · rw [sci, if_neg hE, if_neg hq, ei]
            by_cases h1 : ds.length ≤ 1
            · rw [if_pos h1, if_pos (List.drop_eq_nil_of_le h1)]; simp
            · rw [if_neg h1, if_neg (drop_ne (by omega))]; simp
          · rw [expv, if_neg hE, if_pos (by decide), nE, List.length_take]
            omega

end Go.Proofs.Qxb6604065aDoor
