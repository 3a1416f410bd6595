/-
  The walk of the law 'FnHasPrefixHoldsOfItselfAndOfShorterQueries'.
-/
import Derived.Test.Qxb6604188aPrefix
import Derived.Test.Qxb6604188aBytes
import Derived.Deep.DeepCutAuto
import Derived.Deep.RegionWith
namespace Go.Proofs.Qxb6604188a
open Go.RowKit

theorem Hp.self (e : ByteArray) (l : List ByteArray) : Hp e l e l := ⟨rfl, fun i hi => by rw [part, if_pos hi]⟩
theorem Hp.shorter {ve : ByteArray} {vr : List ByteArray} {e : ByteArray} {r : List ByteArray} (h : Hp ve vr e r) (n : Nat) : Hp ve vr e (r.take n) :=
  ⟨h.1, fun i hi => by
    simp only [List.length_take] at hi
    rw [h.2 i (by omega), st_take _ _ _ (by omega)]⟩

theorem cells10 {w : World} {g : Nat} {x0 x1 x2 x3 x4 x5 x6 x7 x8 x9 : Value} (e : w.heap[g]? = some (.cells #[x0, x1, x2, x3, x4, x5, x6, x7, x8, x9] 29 (0, 0))) :
    w.cell? ⟨g, 0, none⟩ = some x0 ∧ w.cell? ⟨g, 1, none⟩ = some x1 ∧ w.cell? ⟨g, 2, none⟩ = some x2 ∧ w.cell? ⟨g, 3, none⟩ = some x3 ∧ w.cell? ⟨g, 4, none⟩ = some x4 ∧
    w.cell? ⟨g, 5, none⟩ = some x5 ∧ w.cell? ⟨g, 6, none⟩ = some x6 ∧ w.cell? ⟨g, 7, none⟩ = some x7 ∧ w.cell? ⟨g, 8, none⟩ = some x8 ∧ w.cell? ⟨g, 9, none⟩ = some x9 := by
  simp [World.cell?, e]

theorem Rd.heap {N : Nat} {w w0 : World} {v : Value} {l : List ByteArray} (e : w.heap = w0.heap) (h : Rd N w0 v l) : Rd N w v l := by
  rcases h with h | ⟨hl, b, off, cap, rfl, hb, hc, ha⟩
  · exact .inl h
  · exact .inr ⟨hl, b, off, cap, rfl, hb, hc, ha.mono (by rw [e])⟩
theorem zprefix_yes (x ve : ByteArray) (vR : Value) (k : Int) (p : ByteArray) (hp : Bool) (q : ByteArray) (hd : Bool) (d : ByteArray) (vL : Value) (e : ByteArray) (v : Value) (vr r : List ByteArray) (w0 w : World) (hR : Rd w0.heap.size w0 vR vr) (hr : Rd w0.heap.size w0 v r) (hlen : r.length ≤ 1048576) (hL : ∃ ao n c, vL = .slice ao n c) (hh : Hp ve vr e r) (hw : w.heap = w0.heap) :
    Calls Try.prog 10 #[ver x ve vR k p hp q hd d vL, .string e, v] w fun en w' => en = .returned (.bool true) ∧ Below w.heap.size w w' := by
  refine (zprefix_any x ve vR k p hp q hd d vL e v vr r w (by rw [hw]; exact hR.heap hw) (by rw [hw]; exact hr.heap hw) hlen hL).mono ?_
  rintro en w' ⟨⟨_, h⟩ | ⟨h, _⟩, b⟩
  · exact ⟨h, b⟩
  · exact absurd hh h
theorem wrap_nat (n : Nat) (h : n ≤ 1048576) : IntKind.i64.wrap (n : Int) = n := by
  simp [IntKind.wrap, IntKind.bits, IntKind.signed]
  omega
theorem rd_take {w : World} {N b off c n : Nat} {l : List ByteArray} (hA : At w b off l) (hb : b < N) (hc : l.length ≤ c) (hn : n ≤ l.length) : Rd N w (.slice (some ⟨b, off, none⟩) n c) (l.take n) := by
  have hl : (l.take n).length = n := by rw [List.length_take]; omega
  by_cases h : l.take n = []
  · rw [h] at hl
    exact .inl ⟨h, _, c, by rw [← hl]; rfl, fun e => by cases e⟩
  · exact .inr ⟨h, b, off, c, by rw [hl], hb, by omega, hA.take n⟩
theorem chain {w wc w2 w3 w4 wa : World} {cs : Array Value} (b1 : Below w.heap.size w wc) (b2 : Below wc.heap.size wc w2) (b3 : Below w2.heap.size w2 w3) (b4 : Below w3.heap.size w3 w4) (e : wa = w4.alloc (.cells cs 29)) :
    wa.heap[w4.heap.size]? = some (.cells cs 29 (0, 0)) ∧ w4.heap.size < wa.heap.size ∧ Below w2.heap.size w2 wa ∧ Below wc.heap.size wc wa ∧ Below w.heap.size w wa := by
  subst e
  have ba : Below w4.heap.size w4 (w4.alloc (.cells cs 29)) := (Below.refl _ _).alloc (Nat.le_refl _) _
  have b23 := b3.trans (b4.mono b3.size)
  have b24 := b23.trans (ba.mono b23.size)
  have b14 := b2.trans (b24.mono b2.size)
  exact ⟨heap_alloc_new _ _, (Array.getElem?_eq_some_iff.1 (heap_alloc_new w4 (.cells cs 29))).1, b24, b14, b1.trans (b14.mono b1.size)⟩

set_option maxRecDepth 100000 in
set_option maxHeartbeats 4000000 in
theorem law_walk (s0 s1 s4 s6 s8 s10 : ByteArray) (k : Int) (p q : Bool) (v v' v'' : Value) (l l' l'' : List ByteArray) (w : World) (hr : Rd w.heap.size w v l) (hr' : Rd w.heap.size w v' l') (hr'' : Rd w.heap.size w v'' l'') :
    Calls Try.prog 3 #[.string s0, .string s1, v, .int .i64 k, .string s4, .bool p, .string s6, .bool q, .string s8, v', .string s10, v''] w fun en w' => en = .returned (.bool true) ∧ Below w.heap.size w w' := by
  obtain ⟨a, c, rfl, h0, hA⟩ := hr''.form
  have hq := fun w => run_neq_slice_nil_any (P := Try.prog) w 22 9 a l''.length c 0 0 Try.underlying22
  go_enter Try.func3, Try.ntmps3
  go_upto_if 43 with (go_at_call 4; refine (zz_any s0 s1 s4 s6 s8 s10 k p q v v' _ l l' l'' w.heap.size w hr hr' hr'').mono ?_; rintro e w' ⟨hz, rfl⟩; rcases hz with rfl | ⟨rfl, h2, h9, h11⟩)
  · go_ret
    exact ⟨rfl, Below.refl _ _⟩
  go_cut [11] (fun x wr => Rd wr.heap.size wr x l'' ∧ Below w.heap.size w wr)
  case first =>
    cases a with
    | none =>
      go_wp2
      go_meet
      case rel => exact ⟨(by obtain ⟨rfl, rfl⟩ := h0 (by simp); exact hr''), Below.refl _ _⟩
    | some ad =>
      obtain ⟨i0, hi, hz0, hz1, hz2⟩ := info_parts info9
      go_wp2_with (first
        | (at_make; refine wpList_make_full w rfl _ _ 22 rfl w.heap.size 9 i0 (.string ByteArray.empty) 1 Try.underlying22 hi hz0 hz1 .i64 .i64 _ _ l''.length rfl rfl rfl rfl (by rw [hz2]; omega) (by simp only [maxLen]; omega) (Nat.le_refl _) ?_; intro w1 ho1 hg1; have b1 : Below w.heap.size w w1 := (Below.refl _ _).grown hg1 (Nat.le_refl _) (fun k hk => by cases hk))
        | (have _ := ho1; refine wpList_copys rfl _ _ rfl w.heap.size w.heap.size l''.length _ ho1 ad c l'' rfl rfl rfl (fun hne => ⟨(hA hne).choose, (hA hne).choose_spec.choose, (hA hne).choose_spec.choose_spec.1, (hA hne).choose_spec.choose_spec.2.1, (hA hne).choose_spec.choose_spec.2.2.1, (hA hne).choose_spec.choose_spec.2.2.2.below b1 (hA hne).choose_spec.choose_spec.2.1⟩) ?_; intro w2 hA2 b2; replace b2 := b1.trans b2; clear ho1 hg1 b1))
      go_meet
      case rel => exact ⟨rd_of_at hA2 rfl, b2⟩
  case rest =>
  obtain ⟨r1, b1⟩ := hcut
  clear hr'' h0 hA hq
  have b1s := b1.size
  obtain ⟨a1, c1, rfl, h0, hA⟩ := r1.form
  by_cases hl : l'' = []
  · subst hl
    clear hA h0
    go_wp2_with (first
      | (go_at_call 5; refine (vbytes_any s0 s1 s4 s6 s8 v v' l l' w.heap.size w.heap.size _ (hr.below b1) (hr'.below b1)).mono ?_; rintro e w' ⟨⟨r0, rfl⟩, rfl⟩)
      | (go_at_call 6; refine (add_any _ _ _).mono ?_; rintro e w' ⟨⟨r0, rfl⟩, rfl⟩)
      | (go_at_call 7; refine (addList_any _ _ _ [] _ r1).mono ?_; rintro e w' ⟨⟨r0, rfl⟩, rfl⟩)
      | (go_at_call 8; have _ := r2; refine (clone_any w.heap.size v' l' w2 ((hr'.below b1).below (b2.mono b1s)) h9).mono ?_; rintro e w3 ⟨v3, rfl, r3, b3⟩; obtain ⟨a3, c3, rfl, _, _⟩ := r3.form)
      | (go_at_call 8; refine (clone_any w.heap.size v l wc (hr.below b1) h2).mono ?_; rintro e w2 ⟨v2, rfl, r2, b2⟩; obtain ⟨a2, c2, rfl, _, _⟩ := r2.form)
      | (go_at_call 9; refine (make_any s0 s1 a2 _ c2 k s4 p s6 q s8 a3 _ c3 w3).mono ?_; rintro e w4 ⟨rfl, b4⟩; unfold ver)
      | (go_at_call 10; obtain ⟨wa, hwa⟩ : ∃ wa, wa = w4.alloc (.cells #[.string s0, .string s1, .slice a2 l.length c2, .int .i64 k, .string s4, .bool p, .string s6, .bool q, .string s8, .slice a3 l'.length c3] 29) := ⟨_, rfl⟩; rw [← hwa]; obtain ⟨_, _, b24, b14, b04⟩ := chain b1 b2 b3 b4 hwa; refine (zprefix_any s0 s1 _ k s4 p s6 q s8 (.slice a3 l'.length c3) s1 _ l l wa ((r2.below b24).mono b24.size) ((r2.below b24).mono b24.size) h2 ⟨_, _, _, rfl⟩).mono ?_; rintro e w5 ⟨h5, b5⟩; rcases h5 with ⟨_, rfl⟩ | ⟨h5, _⟩; rotate_left; (· exact absurd (Hp.self s1 l) h5); clear hwa))
    all_goals go_ret
    · exact ⟨rfl, b1⟩
    · exact ⟨rfl, b04.trans (b5.mono b04.size)⟩
  · have hlp := List.length_pos_iff.mpr hl
    have hle : (l''.length == 0) = false := beq_eq_false_iff_ne.mpr (by omega)
    obtain ⟨n, hn⟩ : ∃ n, l''.length = n + 1 := ⟨l''.length - 1, by omega⟩
    have HN : Hid (l''.length = n + 1) := hn
    clear hn
    obtain ⟨bq, oq, rfl, hbq, hcq, hAq⟩ := hA hl
    go_wp2_with (first
      | (go_at_call 5; refine (vbytes_any s0 s1 s4 s6 s8 v v' l l' w.heap.size w.heap.size _ (hr.below b1) (hr'.below b1)).mono ?_; rintro e w' ⟨⟨r0, rfl⟩, rfl⟩)
      | (go_at_call 6; refine (add_any _ _ _).mono ?_; rintro e w' ⟨⟨r0, rfl⟩, rfl⟩)
      | (go_at_call 7; refine (addList_any _ _ _ l'' _ r1).mono ?_; rintro e w' ⟨⟨r0, rfl⟩, rfl⟩)
      | (go_at_call 8; have _ := r2; refine (clone_any w.heap.size v' l' w2 ((hr'.below b1).below (b2.mono b1s)) h9).mono ?_; rintro e w3 ⟨v3, rfl, r3, b3⟩; obtain ⟨a3, c3, rfl, _, _⟩ := r3.form)
      | (go_at_call 8; refine (clone_any w.heap.size v l wc (hr.below b1) h2).mono ?_; rintro e w2 ⟨v2, rfl, r2, b2⟩; obtain ⟨a2, c2, rfl, _, _⟩ := r2.form)
      | (go_at_call 9; refine (make_any s0 s1 a2 _ c2 k s4 p s6 q s8 a3 _ c3 w3).mono ?_; rintro e w4 ⟨rfl, b4⟩; unfold ver)
      | (go_at_call 10; have _ := b5; refine (zprefix_any s0 s1 _ k s4 p s6 q s8 (.slice a3 l'.length c3) s10 _ l l'' w5 (((r2.below b24).mono b24.size).below b5 |>.mono b5.size) (((r1.below b14).mono b14.size).below b5 |>.mono b5.size) h11 ⟨_, _, _, rfl⟩).mono ?_; rintro e w6 ⟨h6, b6⟩; have hg6 := (b6.block _ (Nat.lt_of_lt_of_le hlt b5.size)).trans hg5; clear d0 d1 d2 d3 d4 d5 d6 d7 d8 d9; obtain ⟨d0, d1, d2, d3, d4, d5, d6, d7, d8, d9⟩ := cells10 hg6; rcases h6 with ⟨h6, rfl⟩ | ⟨h6, rfl⟩)
      | (go_at_call 10; obtain ⟨wa, hwa⟩ : ∃ wa, wa = w4.alloc (.cells #[.string s0, .string s1, .slice a2 l.length c2, .int .i64 k, .string s4, .bool p, .string s6, .bool q, .string s8, .slice a3 l'.length c3] 29) := ⟨_, rfl⟩; rw [← hwa]; obtain ⟨hga, hlt, b24, b14, b04⟩ := chain b1 b2 b3 b4 hwa; refine (zprefix_any s0 s1 _ k s4 p s6 q s8 (.slice a3 l'.length c3) s1 _ l l wa ((r2.below b24).mono b24.size) ((r2.below b24).mono b24.size) h2 ⟨_, _, _, rfl⟩).mono ?_; rintro e w5 ⟨h5, b5⟩; rcases h5 with ⟨_, rfl⟩ | ⟨h5, _⟩; rotate_left; (· exact absurd (Hp.self s1 l) h5); clear hwa; have hg5 := (b5.block _ hlt).trans hga; obtain ⟨d0, d1, d2, d3, d4, d5, d6, d7, d8, d9⟩ := cells10 hg5))
    all_goals try (go_ret; exact ⟨rfl, b1⟩)
    all_goals try (go_ret; exact ⟨rfl, (b04.trans (b5.mono b04.size)).trans (b6.mono (b04.trans (b5.mono b04.size)).size)⟩)
    have hn := HN.out
    have e1 : (l''.length : Int) - 1 = (n : Int) := by omega
    have e2 : (n : Int) ≤ (c1 : Int) := by omega
    have e3 : n ≤ c1 := by omega
    have b16 : Below wc.heap.size wc w6 := (b14.trans (b5.mono b14.size)).trans (b6.mono (b14.trans (b5.mono b14.size)).size)
    have b26 : Below w2.heap.size w2 w6 := (b24.trans (b5.mono b24.size)).trans (b6.mono (b24.trans (b5.mono b24.size)).size)
    have b06 : Below w.heap.size w w6 := (b04.trans (b5.mono b04.size)).trans (b6.mono (b04.trans (b5.mono b04.size)).size)
    have r6 := rd_take (n := n) (hAq.below b16 hbq) (Nat.lt_of_lt_of_le hbq b16.size) hcq (by omega)
    have hn6 : (l''.take n).length ≤ 1048576 := by rw [List.length_take]; omega
    have hp6 := h6.shorter n
    have e5 : n ≤ 1048576 := by omega
    clear hn
    have e4 : IntKind.i64.wrap (n : Int) = n := wrap_nat n e5
    go_region_with (go_at_call 10; refine (zprefix_yes s0 s1 _ k s4 p s6 q s8 (.slice a3 l'.length c3) s10 _ l (l''.take n) w6 _ ((r2.below b26).mono b26.size) r6 hn6 ⟨_, _, _, rfl⟩ hp6 (by rfl)).mono ?_; rintro e w7 ⟨rfl, b7⟩)
    all_goals (go_wp2_with fail)
    all_goals go_ret
    all_goals exact ⟨rfl, b06.drew.trans (b7.mono b06.drew.size)⟩

end Go.Proofs.Qxb6604188a
