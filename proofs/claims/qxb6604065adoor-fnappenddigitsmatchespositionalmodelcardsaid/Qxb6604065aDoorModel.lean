/-
  layoutModel, whole.
-/
import Derived.Test.Qxb6604065aDoorLayout
namespace Go.Proofs.Qxb6604065aDoor
open Go.RowKit

set_option maxRecDepth 100000 in
set_option maxHeartbeats 2000000 in
theorem model_sci (vb : Value) (lb ds : List UInt8) (b off cap : Nat) (p : Int) (w : World) (hb : Full w.heap.size w vb lb) (hd : ds ≠ []) (hA : At w b off ds) (hcap : ds.length ≤ cap) (hl1 : lb.length ≤ 524288) (hl2 : ds.length ≤ 524288) (hr0 : -9223372036854775808 < p) (hr1 : p ≤ 9223372036854775807) (h1 : p ≤ -6 ∨ 21 < p) :
    Calls Tryd.prog 9 #[vb, .slice (some ⟨b, off, none⟩) ds.length cap, .int .i64 p] w fun e w' => ∃ v', e = .returned v' ∧ Rd w'.heap.size w' v' (lb ++ sci ds (p - 1)) ∧ Below w.heap.size w w' := by
  have hp := List.length_pos_iff.mpr hd
  have c0 := hA 0 hp
  rw [Nat.add_zero] at c0
  have hlt := hA.lt hd
  have HH : Hid ([ds.getD 0 0] = ds.take 1) := head_cell ds hd
  have SG : Hid (sgn (p - 1) ++ Lib.decDigits (p - 1).natAbs = (if 0 ≤ p - 1 then [43] else []) ++ Lib.itoa (p - 1)) := sgn_itoa _
  by_cases hk : 1 < ds.length
  · have eS : Hid (sci ds (p - 1) = [ds.getD 0 0] ++ ([46] ++ ds.drop 1) ++ [101] ++ (sgn (p - 1) ++ Lib.decDigits (p - 1).natAbs)) := by show _ = _; rw [sci, if_neg (show ¬ ds.length ≤ 1 by omega), SG.out, HH.out]; simp
    have hk1 : (1 : Int) < (ds.length : Int) := by omega
    have hk2 := drop_ne hk
    rcases h1 with h1 | h1
    · have d1 : decide (-6 < p) = false := by simp; omega
      go_enter Tryd.func9, Tryd.ntmps9
      go_wp2_with (first
        | (at_builtin; have _ := o3; refine wpList_app1 rfl _ _ rfl w.heap.size v3 _ rfl (.inl o3) b3.size 101 101 rfl rfl (by simp; omega) ?_; intro v4 w4 o4 b4; replace b4 := b3.trans b4)
        | (at_builtin; have _ := o2; refine wpList_app rfl _ _ rfl w.heap.size v2 _ rfl (.inl o2) b2.size b (off + 1) _ (ds.drop 1) (ds.length - 1) (by rw [List.length_drop]) rfl hk2 ((hA.drop 1).below b2 hlt) (by simp; omega) ?_; intro v3 w3 o3 b3; replace b3 := b2.trans b3)
        | (at_builtin; have _ := o1; refine wpList_app1 rfl _ _ rfl w.heap.size v1 _ rfl (.inl o1) b1.size 46 46 rfl rfl (by simp; omega) ?_; intro v2 w2 o2 b2; replace b2 := b1.trans b2)
        | (at_builtin; refine wpList_app1 rfl _ _ rfl w.heap.size vb lb rfl (.inr hb) (Nat.le_refl _) (bt ds 0) (ds.getD 0 0) rfl rfl (by omega) ?_; intro v1 w1 o1 b1)
        | (go_at_call 19; refine (sexp_any w.heap.size v4 _ (p - 1) w4 o4 b4.size (by simp; omega) (by omega) (by omega)).mono ?_; rintro e w6 ⟨v6, rfl, o6, b6⟩))
      all_goals (go_ret; exact ⟨_, rfl, (o6.cast (by rw [eS.out]; simp)).rd, b4.trans b6⟩)
    · have d1 : decide (p ≤ 21) = false := by simp; omega
      go_enter Tryd.func9, Tryd.ntmps9
      go_wp2_with (first
        | (at_builtin; have _ := o3; refine wpList_app1 rfl _ _ rfl w.heap.size v3 _ rfl (.inl o3) b3.size 101 101 rfl rfl (by simp; omega) ?_; intro v4 w4 o4 b4; replace b4 := b3.trans b4)
        | (at_builtin; have _ := o2; refine wpList_app rfl _ _ rfl w.heap.size v2 _ rfl (.inl o2) b2.size b (off + 1) _ (ds.drop 1) (ds.length - 1) (by rw [List.length_drop]) rfl hk2 ((hA.drop 1).below b2 hlt) (by simp; omega) ?_; intro v3 w3 o3 b3; replace b3 := b2.trans b3)
        | (at_builtin; have _ := o1; refine wpList_app1 rfl _ _ rfl w.heap.size v1 _ rfl (.inl o1) b1.size 46 46 rfl rfl (by simp; omega) ?_; intro v2 w2 o2 b2; replace b2 := b1.trans b2)
        | (at_builtin; refine wpList_app1 rfl _ _ rfl w.heap.size vb lb rfl (.inr hb) (Nat.le_refl _) (bt ds 0) (ds.getD 0 0) rfl rfl (by omega) ?_; intro v1 w1 o1 b1)
        | (go_at_call 19; refine (sexp_any w.heap.size v4 _ (p - 1) w4 o4 b4.size (by simp; omega) (by omega) (by omega)).mono ?_; rintro e w6 ⟨v6, rfl, o6, b6⟩))
      all_goals (go_ret; exact ⟨_, rfl, (o6.cast (by rw [eS.out]; simp)).rd, b4.trans b6⟩)
  · have eS : Hid (sci ds (p - 1) = [ds.getD 0 0] ++ [101] ++ (sgn (p - 1) ++ Lib.decDigits (p - 1).natAbs)) := by show _ = _; rw [sci, if_pos (show ds.length ≤ 1 by omega), SG.out, HH.out]; simp
    have hk1 : ¬ (1 : Int) < (ds.length : Int) := by omega
    rcases h1 with h1 | h1
    · have d1 : decide (-6 < p) = false := by simp; omega
      go_enter Tryd.func9, Tryd.ntmps9
      go_wp2_with (first
        | (at_builtin; have _ := o1; refine wpList_app1 rfl _ _ rfl w.heap.size v1 _ rfl (.inl o1) b1.size 101 101 rfl rfl (by simp; omega) ?_; intro v4 w4 o4 b4; replace b4 := b1.trans b4)
        | (at_builtin; refine wpList_app1 rfl _ _ rfl w.heap.size vb lb rfl (.inr hb) (Nat.le_refl _) (bt ds 0) (ds.getD 0 0) rfl rfl (by omega) ?_; intro v1 w1 o1 b1)
        | (go_at_call 19; refine (sexp_any w.heap.size v4 _ (p - 1) w4 o4 b4.size (by simp; omega) (by omega) (by omega)).mono ?_; rintro e w6 ⟨v6, rfl, o6, b6⟩))
      all_goals (go_ret; exact ⟨_, rfl, (o6.cast (by rw [eS.out]; simp)).rd, b4.trans b6⟩)
    · have d1 : decide (p ≤ 21) = false := by simp; omega
      go_enter Tryd.func9, Tryd.ntmps9
      go_wp2_with (first
        | (at_builtin; have _ := o1; refine wpList_app1 rfl _ _ rfl w.heap.size v1 _ rfl (.inl o1) b1.size 101 101 rfl rfl (by simp; omega) ?_; intro v4 w4 o4 b4; replace b4 := b1.trans b4)
        | (at_builtin; refine wpList_app1 rfl _ _ rfl w.heap.size vb lb rfl (.inr hb) (Nat.le_refl _) (bt ds 0) (ds.getD 0 0) rfl rfl (by omega) ?_; intro v1 w1 o1 b1)
        | (go_at_call 19; refine (sexp_any w.heap.size v4 _ (p - 1) w4 o4 b4.size (by simp; omega) (by omega) (by omega)).mono ?_; rintro e w6 ⟨v6, rfl, o6, b6⟩))
      all_goals (go_ret; exact ⟨_, rfl, (o6.cast (by rw [eS.out]; simp)).rd, b4.trans b6⟩)

/-- layoutModel. -/
theorem model_any (vb : Value) (lb ds : List UInt8) (b off cap : Nat) (p : Int) (w : World) (hb : Full w.heap.size w vb lb) (hd : ds ≠ []) (hA : At w b off ds) (hcap : ds.length ≤ cap) (hl1 : lb.length ≤ 524288) (hl2 : ds.length ≤ 524288) (hr0 : -9223372036854775808 < p) (hr1 : p ≤ 9223372036854775807) :
    Calls Tryd.prog 9 #[vb, .slice (some ⟨b, off, none⟩) ds.length cap, .int .i64 p] w fun e w' => ∃ v', e = .returned v' ∧ Rd w'.heap.size w' v' (lb ++ layout ds p) ∧ Below w.heap.size w w' := by
  by_cases c : -6 < p ∧ p ≤ 21
  · exact model_pos vb lb ds b off cap p w hb hd hA (by omega) (by omega) c.1 c.2
  · have hp := List.length_pos_iff.mpr hd
    rw [layout, if_neg (by omega), if_neg (by omega), if_neg (by omega)]
    exact model_sci vb lb ds b off cap p w hb hd hA hcap hl1 hl2 hr0 hr1 (by omega)

end Go.Proofs.Qxb6604065aDoor
