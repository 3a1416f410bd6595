/-
  The form of a text that readBack reads; the plain facts about it.
-/
import Derived.Test.Qxb6604065aDoorSmall
namespace Go.Proofs.Qxb6604065aDoor
open Go.RowKit

/-- Where the fraction ends. -/
def fpos (A F : List UInt8) : Nat := if F = [] then A.length else A.length + 1 + F.length
/-- The text tl is: digits A; a point and digits F, where F is not empty; an 'e', a sign and digits E, where E is not empty. -/
structure Form (tl A F E : List UInt8) (sg : Int) : Prop where
  pos : A ≠ []
  le : A.length ≤ tl.length
  a_dig : ∀ j, j < A.length → dgB (bt tl j) = true
  a_get : ∀ j, j < A.length → bt tl j = bt A j
  a_zero : bt tl 0 = 48 → A.length = 1
  a_end : A.length < tl.length → dgB (bt tl A.length) = false
  f_none : F = [] → A.length < tl.length → bt tl A.length ≠ 46
  f_some : F ≠ [] → A.length + 1 + F.length ≤ tl.length ∧ bt tl A.length = 46
  f_dig : F ≠ [] → ∀ j, j < F.length → dgB (bt tl (A.length + 1 + j)) = true ∧ bt tl (A.length + 1 + j) = bt F j
  f_end : F ≠ [] → A.length + 1 + F.length < tl.length → dgB (bt tl (A.length + 1 + F.length)) = false
  e_none : E = [] → tl.length = fpos A F
  e_some : E ≠ [] → tl.length = fpos A F + 2 + E.length ∧ bt tl (fpos A F) = 101 ∧ bt tl (fpos A F + 1) = sg ∧ (sg = 43 ∨ sg = 45)
  e_dig : E ≠ [] → ∀ j, j < E.length → dgB (bt tl (fpos A F + 2 + j)) = true ∧ bt tl (fpos A F + 2 + j) = bt E j

/-- Not empty. -/
def ne (l : List UInt8) : Bool := !l.isEmpty
theorem ne_nil {l : List UInt8} (h : l = []) : ne l = false := by simp [ne, h]
theorem ne_cons {l : List UInt8} (h : ¬ l = []) : ne l = true := by simp [ne, h]
theorem Ow.cast {B : Nat} {w : World} {v : Value} {l l' : List UInt8} (h : Ow B w v l) (e : l = l') : Ow B w v l' := e ▸ h
theorem take_snoc (l : List UInt8) (k : Nat) (h : k < l.length) : l.take (k + 1) = l.take k ++ [l.getD k 0] := by
  rw [List.take_succ_eq_append_getElem h]
  simp [h]
theorem bt_eq {l m : List UInt8} {i j : Nat} (h : bt l i = bt m j) : l.getD i 0 = m.getD j 0 := by
  unfold bt at h
  apply UInt8.toNat_inj.mp
  omega

/-- The number that digits write. -/
def nval (l : List UInt8) : Int := l.foldl (fun a c => a * 10 + ((c.toNat : Int) - 48)) 0
theorem nval_snoc (l : List UInt8) (c : UInt8) : nval (l ++ [c]) = nval l * 10 + ((c.toNat : Int) - 48) := by simp [nval]
/-- The exponent that is read. -/
def expv (E : List UInt8) (sg : Int) : Int := if E = [] then 0 else if sg = 45 then -(nval E) else nval E
theorem nval_take (E : List UInt8) (k : Nat) (hk : k < E.length) : nval (E.take (k + 1)) = nval (E.take k) * 10 + (bt E k - 48) := by
  rw [take_snoc E k hk, nval_snoc]; rfl
theorem nval_mono (E : List UInt8) (hd : ∀ j, j < E.length → 48 ≤ bt E j) : ∀ k m, k + m ≤ E.length → 0 ≤ nval (E.take k) ∧ nval (E.take k) ≤ nval (E.take (k + m)) := by
  have pos : ∀ k, k ≤ E.length → 0 ≤ nval (E.take k) := by
    intro k
    induction k with
    | zero => intro _; simp [nval]
    | succ k ih =>
      intro h
      have := ih (by omega)
      have := hd k (by omega)
      rw [nval_take E k (by omega)]
      omega
  intro k m
  induction m with
  | zero => intro h; exact ⟨pos k h, Int.le_refl _⟩
  | succ m ih =>
    intro h
    obtain ⟨a, c⟩ := ih (by omega)
    have p1 := pos (k + m) (by omega)
    have p2 := hd (k + m) (by omega)
    refine ⟨a, ?_⟩
    rw [show k + (m + 1) = (k + m) + 1 by omega, nval_take E (k + m) (by omega)]
    omega

theorem bt_app_l (l m : List UInt8) {j : Nat} (h : j < l.length) : bt (l ++ m) j = bt l j := by simp [bt, List.getElem?_append, h]
theorem bt_app_r (l m : List UInt8) (j : Nat) : bt (l ++ m) (l.length + j) = bt m j := by
  unfold bt
  rw [List.getD_eq_getElem?_getD, List.getD_eq_getElem?_getD, List.getElem?_append_right (Nat.le_add_right _ _), Nat.add_sub_cancel_left]
theorem bt_rep (n j : Nat) (h : j < n) : bt (List.replicate n 48) j = 48 := by simp [bt, h]
theorem al_lo (f r : Nat) (ds : List UInt8) {j : Nat} (h : j < f) : bt (List.replicate f 48 ++ ds ++ List.replicate r 48) j = 48 := by
  rw [List.append_assoc, bt_app_l _ _ (by simpa using h), bt_rep f j h]
theorem al_mid (f r : Nat) (ds : List UInt8) (j : Nat) (h : j < ds.length) : bt (List.replicate f 48 ++ ds ++ List.replicate r 48) (f + j) = bt ds j := by
  have := bt_app_r (List.replicate f 48) (ds ++ List.replicate r 48) j
  rw [List.length_replicate] at this
  rw [List.append_assoc, this, bt_app_l _ _ h]
theorem al_hi (f r : Nat) (ds : List UInt8) {j : Nat} (h : j < r) : bt (List.replicate f 48 ++ ds ++ List.replicate r 48) (f + ds.length + j) = 48 := by
  have := bt_app_r (List.replicate f 48 ++ ds) (List.replicate r 48) j
  rw [List.length_append, List.length_replicate] at this
  rw [this, bt_rep r j h]
theorem al_le {tl A F E : List UInt8} {sg : Int} (hf : Form tl A F E sg) : (A ++ F).length ≤ tl.length := by
  rw [List.length_append]
  by_cases h : F = []
  · have := hf.le; rw [h, List.length_nil]; omega
  · have := (hf.f_some h).1; omega

theorem ret_read {g go k n n' c : Nat} {x x' : Int} (h1 : n = n') (h2 : x = x') :
    Ending.returned (.tuple #[.slice (some ⟨g, go + k, none⟩) n c, .int .i64 x, .bool true]) = .returned (.tuple #[.slice (some ⟨g, go + k, none⟩) n' c, .int .i64 x', .bool true]) := by
  rw [h1, h2]
theorem exp_lo {tl A F E : List UInt8} {sg : Int} (hf : Form tl A F E sg) (hE : ¬ E = []) (j : Nat) (hj : j < E.length) : 48 ≤ bt E j := by
  obtain ⟨h1, h2⟩ := hf.e_dig hE j hj
  rw [← h2]
  exact ((dgB_iff _).1 h1).1
/-- One digit more of the exponent. -/
theorem exp_step (E : List UInt8) (hd : ∀ j, j < E.length → 48 ≤ bt E j) (hx : Hid (nval E ≤ 9223372036854775808)) (k : Nat) (hk : k < E.length) :
    nval (E.take (k + 1)) = nval (E.take k) * 10 + (bt E k - 48) ∧ 0 ≤ nval (E.take k) ∧ nval (E.take k) * 10 + (bt E k - 48) ≤ 9223372036854775808 := by
  have h1 := nval_take E k hk
  have h2 := (nval_mono E hd k 0 (by omega)).1
  have h3 := (nval_mono E hd (k + 1) (E.length - (k + 1)) (by omega)).2
  rw [show k + 1 + (E.length - (k + 1)) = E.length by omega, List.take_length] at h3
  have := hx.out
  exact ⟨h1, h2, by omega⟩
theorem nval_pos {tl A F E : List UInt8} {sg : Int} (hf : Form tl A F E sg) (hE : ¬ E = []) : 0 ≤ nval E := by
  have := (nval_mono E (fun j hj => exp_lo hf hE j hj) E.length 0 (by omega)).1
  rwa [List.take_length] at this
theorem no_over {a d : Int} (h1 : a * 10 + (d - 48) ≤ 9223372036854775808) (t1 : 48 ≤ d) (t2 : d ≤ 57) :
    ¬ -a < (-9223372036854775808 + (d - 48)).tdiv 10 := by
  have e : (-9223372036854775808 + (d - 48)).tdiv 10 = -((9223372036854775808 - (d - 48)) / 10) := by
    rw [show -9223372036854775808 + (d - 48) = -(9223372036854775808 - (d - 48)) by omega, Int.neg_tdiv, Int.tdiv_eq_ediv_of_nonneg (by omega)]
  rw [e]
  omega

end Go.Proofs.Qxb6604065aDoor
