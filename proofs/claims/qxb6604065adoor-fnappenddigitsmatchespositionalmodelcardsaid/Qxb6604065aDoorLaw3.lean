/-
  The walk of the law 'FnAppendDigitsMatchesPositionalModel'.
-/
import Derived.Test.Qxb6604065aDoorGuards
import Derived.Lib.ItoaLen
import Derived.Test.Qxb6604065aDoorModel
namespace Go.Proofs.Qxb6604065aDoor
open Go.RowKit

theorem itoa_len (i : Int) (h0 : -9223372036854775808 ≤ i) (h1 : i ≤ 9223372036854775807) : (Lib.itoa i).length ≤ 21 := Lib.itoa_length_le i h0 h1
theorem layout_len (ds : List UInt8) (p : Int) (hl : ds.length ≤ 1048576) (h0 : -9223372036854775808 < p) (h1 : p ≤ 9223372036854775807) : (layout ds p).length ≤ 1048700 := by
  have := itoa_len (p - 1) (by omega) (by omega)
  unfold layout sci
  repeat' split
  all_goals simp
  all_goals omega
theorem layout_ne (ds : List UInt8) (p : Int) (hd : ds ≠ []) : layout ds p ≠ [] := by
  unfold layout sci
  repeat' split
  all_goals simp [hd]

set_option maxHeartbeats 400000 in
theorem law3_big (v0 v1 : Value) (a a' : Option Addr) (n c n' c' : Nat) (e0 : v0 = .slice a n c) (e1 : v1 = .slice a' n' c') (p : Int) (w : World) (h : ¬ n + n' ≤ 1048576) (h0 : n ≤ 9223372036854775807) (h1 : n' ≤ 9223372036854775807) :
    Calls Tryd.prog 3 #[v0, v1, .int .i64 p] w fun e w' => e = .returned (.bool true) ∧ w = w' := by
  subst e0; subst e1
  go_enter Tryd.func3, Tryd.ntmps3
  go_wp2_with (go_at_call 6; refine (bytes6_no a a' n c n' c' p w h h0 h1).mono ?_; rintro e w' ⟨rfl, rfl⟩)
  go_ret
  exact ⟨rfl, rfl⟩

set_option maxHeartbeats 400000 in
theorem law3_half (a a' : Option Addr) (n c n' c' : Nat) (p : Int) (w : World) (h : n + n' ≤ 1048576) (h2 : 524288 < n ∨ 524288 < n') :
    Calls Tryd.prog 3 #[.slice a n c, .slice a' n' c', .int .i64 p] w fun e w' => e = .returned (.bool true) ∧ w = w' := by
  by_cases q : 524288 < n
  · go_enter Tryd.func3, Tryd.ntmps3
    go_wp2_with (go_at_call 6; refine (bytes6_yes a a' n c n' c' p w h).mono ?_; rintro e w' ⟨rfl, rfl⟩)
    go_ret
    exact ⟨rfl, rfl⟩
  · have q' : 524288 < n' := by omega
    have hd : decide ((524288 : Int) < (n : Int)) = false := by simp; omega
    go_enter Tryd.func3, Tryd.ntmps3
    go_wp2_with (go_at_call 6; refine (bytes6_yes a a' n c n' c' p w h).mono ?_; rintro e w' ⟨rfl, rfl⟩)
    go_ret
    exact ⟨rfl, rfl⟩

set_option maxHeartbeats 400000 in
theorem law3_notsh (a : Option Addr) (n c : Nat) (v1 : Value) (a' : Option Addr) (c' : Nat) (l1 : List UInt8) (e1 : v1 = .slice a' l1.length c') (N : Nat) (p : Int) (w : World) (hr : Rd N w v1 l1) (h : n + l1.length ≤ 1048576) (h2 : n ≤ 524288) (h3 : l1.length ≤ 524288) (hs : ¬ Sh l1) :
    Calls Tryd.prog 3 #[.slice a n c, v1, .int .i64 p] w fun e w' => e = .returned (.bool true) ∧ w = w' := by
  have hd : decide ((524288 : Int) < (n : Int)) = false := by simp; omega
  have hd' : decide ((524288 : Int) < (l1.length : Int)) = false := by simp; omega
  rw [e1] at hr ⊢
  go_enter Tryd.func3, Tryd.ntmps3
  go_wp2_with (first
    | (go_at_call 6; refine (bytes6_yes a a' n c l1.length c' p w h).mono ?_; rintro e w' ⟨rfl, rfl⟩)
    | (go_at_call 7; refine (isShortest_any N _ l1 w hr (by omega)).mono ?_; rintro e w' ⟨hrt, hw⟩; rcases hrt with ⟨q, _⟩ | ⟨_, rfl⟩; (· exact absurd q hs); rw [hw]; clear hw))
  go_ret
  exact ⟨rfl, rfl⟩

set_option maxHeartbeats 400000 in
theorem law3_min (a : Option Addr) (n c : Nat) (v1 : Value) (a' : Option Addr) (c' : Nat) (l1 : List UInt8) (e1 : v1 = .slice a' l1.length c') (N : Nat) (w : World) (hr : Rd N w v1 l1) (h : n + l1.length ≤ 1048576) (h2 : n ≤ 524288) (h3 : l1.length ≤ 524288) (hs : Sh l1) :
    Calls Tryd.prog 3 #[.slice a n c, v1, .int .i64 (-9223372036854775808)] w fun e w' => e = .returned (.bool true) ∧ w = w' := by
  have hd : decide ((524288 : Int) < (n : Int)) = false := by simp; omega
  have hd' : decide ((524288 : Int) < (l1.length : Int)) = false := by simp; omega
  rw [e1] at hr ⊢
  go_enter Tryd.func3, Tryd.ntmps3
  go_wp2_with (first
    | (go_at_call 6; refine (bytes6_yes a a' n c l1.length c' _ w h).mono ?_; rintro e w' ⟨rfl, rfl⟩)
    | (go_at_call 7; refine (isShortest_any N _ l1 w hr (by omega)).mono ?_; rintro e w' ⟨hrt, hw⟩; rcases hrt with ⟨_, rfl⟩ | ⟨q, _⟩; rotate_left; (· exact absurd hs q); rw [hw]; clear hw))
  go_ret
  exact ⟨rfl, rfl⟩

theorem app_ne (l : List UInt8) {m : List UInt8} (h : m ≠ []) : l ++ m ≠ [] := by simp [h]
theorem rd_ne {N : Nat} {w : World} {v : Value} {l : List UInt8} (h : Rd N w v l) (hl : l ≠ []) :
    ∃ b off cap, v = .slice (some ⟨b, off, none⟩) l.length cap ∧ b < N ∧ l.length ≤ cap ∧ At w b off l := by
  rcases h with ⟨q, _⟩ | ⟨_, r⟩
  · exact absurd q hl
  · exact r
theorem pre_rd {w : World} {N g go gc : Nat} {l m : List UInt8} (h : At w g go (l ++ m)) (hg : g < N) (hc : l.length ≤ gc) : Rd N w (.slice (some ⟨g, go, none⟩) l.length gc) l := by
  by_cases hl : l = []
  · subst hl; exact .inl ⟨rfl, _, gc, rfl, fun e => by cases e⟩
  · refine .inr ⟨hl, g, go, gc, rfl, hg, hc, ?_⟩
    have := h.take l.length
    rwa [List.take_left] at this
theorem suf_at {w : World} {g go : Nat} {l m : List UInt8} (h : At w g go (l ++ m)) (n : Nat) : At (w.drewN n) g (go + l.length) m := by
  have := h.drop l.length
  rw [List.drop_left] at this
  exact this.drewN n
theorem digits_rd {w : World} {N g : Nat} {l : List UInt8} (hl : l ≠ []) (h : At w g 0 l) (hg : g < N) : Rd N w (.slice (some ⟨g, 0, none⟩) l.length l.length) l :=
  .inr ⟨hl, g, 0, _, rfl, hg, Nat.le_refl _, h⟩
/-- What is known of the table stands in later worlds, from later blocks on. -/
theorem tab_up {B : Nat} {w w3 w4 : World} (ht : Tab B w) (b3 : Below B w w3) (b4 : Below w3.heap.size w3 w4) (hB : B ≤ w3.heap.size) : Tab w4.heap.size w4 := by
  intro w' hb
  exact ht w' ((b3.trans (b4.mono hB)).trans (hb.mono (Nat.le_trans hB b4.size)))

set_option maxRecDepth 100000 in
set_option maxHeartbeats 2000000 in
theorem law3_main (v0 : Value) (l0 : List UInt8) (a : Option Addr) (c : Nat) (e0 : v0 = .slice a l0.length c) (l1 : List UInt8) (b off cap : Nat) (p : Int) (w : World) (hr0 : Rd w.heap.size w v0 l0) (hA : At w b off l1) (hcap : l1.length ≤ cap)
    (h : l0.length + l1.length ≤ 1048576) (h2 : l0.length ≤ 524288) (h3 : l1.length ≤ 524288) (hs : Sh l1) (hp0 : -9223372036854775808 < p) (hp1 : p ≤ 9223372036854775807) (ht : Tab w.heap.size w) :
    Calls Tryd.prog 3 #[v0, .slice (some ⟨b, off, none⟩) l1.length cap, .int .i64 p] w fun e w' => e = .returned (.bool true) ∧ Below w.heap.size w w' := by
  have hd : decide ((524288 : Int) < (l0.length : Int)) = false := by simp; omega
  have hd' : decide ((524288 : Int) < (l1.length : Int)) = false := by simp; omega
  have hq := fun w => run_neq_slice_nil_any (P := Tryd.prog) w 22 5 (some ⟨b, off, none⟩) l1.length cap 0 0 Tryd.underlying22
  have hpm : (p == -9223372036854775808) = false := beq_eq_false_iff_ne.mpr (by omega)
  have hbl : b < w.heap.size := hA.lt hs.1
  have hr1 : Rd w.heap.size w (.slice (some ⟨b, off, none⟩) l1.length cap) l1 := .inr ⟨hs.1, b, off, cap, rfl, hbl, hcap, hA⟩
  have hL0 := layout_len l1 p (by omega) hp0 hp1
  obtain ⟨i0, hi, hz0, hz1, hz2⟩ := info_parts info5
  rw [e0] at hr0 ⊢
  go_enter Tryd.func3, Tryd.ntmps3
  go_wp2_with (first
    | (go_at_call 6; refine (bytes6_yes a (some ⟨b, off, none⟩) l0.length c l1.length cap p w h).mono ?_; rintro e w' ⟨rfl, rfl⟩)
    | (go_at_call 7; refine (isShortest_any w.heap.size _ l1 w hr1 (by omega)).mono ?_; rintro e w' ⟨hrt, hw⟩; rcases hrt with ⟨_, rfl⟩ | ⟨q, _⟩; rotate_left; (· exact absurd hs q); rw [hw]; clear hw)
    | (at_make; refine wpList_make_full w rfl _ _ 22 rfl w.heap.size 5 i0 (.int .u8 0) 1 Tryd.underlying22 hi hz0 hz1 .i64 .i64 _ _ l1.length rfl rfl rfl rfl (by rw [hz2]; omega) (by simp only [maxLen]; omega) (Nat.le_refl _) ?_; intro w1 ho1 hg1; have b1 : Below w.heap.size w w1 := (Below.refl _ _).grown hg1 (Nat.le_refl _) (fun k hk => by cases hk))
    | (have _ := ho1; refine wpList_copyb rfl _ _ rfl w.heap.size w.heap.size l1.length _ ho1 b off cap l1 rfl rfl rfl (hA.below b1 hbl) ?_; intro w2 hA2 b2 hs2; replace b2 := b1.trans b2; clear ho1 hg1 b1)
    | (go_at_call 9; refine (model_any v4 l0 l1 w.heap.size 0 l1.length p w4 f4 hs.1 ((hA2.below b3 hs2).below b4 (Nat.lt_of_lt_of_le hs2 b3.size)) (Nat.le_refl _) (by omega) (by omega) hp0 hp1).mono ?_; rintro e w5 ⟨v5, rfl, r5, b5⟩; have K : Below w3.heap.size w3 w5 := b4.trans (b5.mono b4.size))
    | (go_at_call 10; refine (zdigits_any v3 l0 l1 w.heap.size 0 l1.length p w5 ((f3.below K).mono K.size) hs.1 ((hA2.below b3 hs2).below K (Nat.lt_of_lt_of_le hs2 b3.size)) (Nat.le_refl _) (by omega) (by omega) (tab_up ht (b2.trans (b3.mono b2.size)) K (Nat.le_trans b2.size b3.size)) hp0 hp1).mono ?_; rintro e w6 ⟨v6, rfl, o6, b6⟩)
    | (go_at_call 11; refine (same_any w6.heap.size w5.heap.size _ _ (l0 ++ layout l1 p) w6 o6.rd (r5.below b6) (by simp; omega)).mono ?_; rintro e w7 ⟨rfl, nn, rfl⟩)
    | (go_at_call 8; have _ := f3; refine (clone_any w3.heap.size _ l0 w3 f3.1 (by omega)).mono ?_; rintro e w4 ⟨v4, rfl, f4, b4⟩)
    | (go_at_call 8; refine (clone_any w.heap.size _ l0 w2 (hr0.below b2) (by omega)).mono ?_; rintro e w3 ⟨v3, rfl, f3, b3⟩))
  go_ret
  refine ⟨rfl, ?_⟩
  have q3 : Below w.heap.size w w3 := b2.trans (b3.mono b2.size)
  have q5 : Below w.heap.size w w5 := q3.trans (K.mono q3.size)
  have q6 : Below w.heap.size w w6 := q5.trans (b6.mono q5.size)
  exact below_drewN q6 nn

end Go.Proofs.Qxb6604065aDoor
