/-
  The walk of zzJoinedBegins.
-/
import Derived.Test.Qxb6604794aCovers
import Derived.Lib.AppendStr
namespace Go.Proofs.Qxb6604794a
open Go.RowKit

section
variable {ops : Array Oper} {rest : List Oper} {o : Oper} {a : Act} {w : World} {Q : Exit → Act → World → Prop}
/-- 'append(v, s...)' onto what is owned. -/
theorem wpList_apps (hgd : o.guard = none) (sl x : Operand) (ho : o.op = .call { callee := .builtin .append, args := #[sl, x], argTypes := #[23, 9] })
    (B : Nat) (v : Value) (l : List UInt8) (hs : a.eval sl = v) (hd : By.Ow B w v l) (hB : B ≤ w.heap.size) (s : ByteArray) (hx : a.eval x = .string s) (hlim : l.length + s.size ≤ 1099511627776)
    (h : ∀ v' w', By.Ow B w' v' (l ++ by' s) → Below B w w' → wpList Try.prog ops Q rest (a.put o.dst v') w') : wpList Try.prog ops Q (o :: rest) a w := by
  obtain ⟨i0, hi, hz0, hz1, hz2⟩ := info_parts By.info5
  refine Lib.wpList_append_own_string w hgd sl x 23 9 ho B 5 i0 Try.underlying23 Try.underlying9 hi hz0 hz1 hz2 v l.length (Lib.byteCells l) hs hd s hx (by simp only [maxLen]; omega) (by omega) hB ?_
  intro v' w' h1 h2 _
  refine h v' w' ?_ ((Below.refl B w).grown h2 hB hd.lt)
  unfold By.Ow
  rw [List.length_append, by_len, By.bc_app]
  exact h1
end

theorem J_len (l : List ByteArray) (c : ByteArray) (i : Nat) : (J l c (i + 1)).length = (J l c i).length + (if 0 < i then c.size else 0) + (st l i).size := by
  rw [J, List.length_append, List.length_append, by_len]
  split <;> simp [by_len] <;> omega
theorem too_long {l : List ByteArray} {c : ByteArray} {kb : List UInt8} {i : Nat} (h : i ≤ l.length) (hlt : kb.length < (J l c i).length) : ¬ J l c l.length <+: kb := fun q => by
  have := ((J_pre l c h).trans q).length_le
  omega

theorem below_drewN {B : Nat} {a w : World} (h : Below B a w) (n : Nat) : Below B a (w.drewN n) := ⟨h.os, h.tape, h.output, h.size, h.block⟩
/-- Byte for byte. -/
theorem pre_iff {T kb : List UInt8} (h : T.length ≤ kb.length) : (∀ j, j < T.length → By.bt T j = By.bt kb j) ↔ T <+: kb := by
  constructor
  · intro q
    rw [List.prefix_iff_eq_take]
    refine List.ext_getElem (by rw [List.length_take]; omega) fun j h1 _ => ?_
    have := q j h1
    rw [By.bt_get h1, By.bt_get (by omega)] at this
    rw [List.getElem_take]
    exact UInt8.toNat_inj.1 (by omega)
  · rintro ⟨t, rfl⟩ j hj
    rw [By.bt_get hj, By.bt_get (by rw [List.length_append]; omega), List.getElem_append_left hj]

set_option maxRecDepth 100000 in
set_option maxHeartbeats 2000000 in
theorem joined_any (v vk : Value) (l : List ByteArray) (c : ByteArray) (kb : List UInt8) (w : World) (hr : Rd w.heap.size w v l) (hk : By.Rd w.heap.size w vk kb) (hl : l.length ≤ 1048576) (hkl : kb.length ≤ 1048576) (hc : c.size ≤ 1048576) (hs : ∀ j, j < l.length → (st l j).size ≤ 1048576) :
    Calls Try.prog 10 #[v, .string c, vk] w fun en w' => RetP (J l c l.length <+: kb) en ∧ Below w.heap.size w w' := by
  obtain ⟨a, cc, rfl, _, hA⟩ := hr.form
  obtain ⟨ak, ck, rfl, _, hK⟩ := hk.form
  go_enter Try.func10, Try.ntmps10
  go_wp2
  go_loopw [7, 8] (fun x y wr => ∃ (i n : Nat), x = .int .i64 n ∧ y = .int .i64 i ∧ i ≤ l.length ∧ n ≤ kb.length ∧ Hid (n = (J l c i).length) ∧ w = wr) (fun _ y _ => l.length - (intOf y).toNat)
  case atStart => exact ⟨0, 0, rfl, rfl, by omega, by omega, rfl, rfl⟩
  case round =>
    obtain ⟨i, n, rfl, rfl, hi, hn, HN, rfl⟩ := hrel
    by_cases hlt : i < l.length
    · obtain ⟨b, off, rfl, hbl, _, hB⟩ := hA (fun e => by rw [e] at hlt; simp at hlt)
      have hcell := hB i hlt
      have JL : Hid ((J l c (i + 1)).length = (J l c i).length + (if 0 < i then c.size else 0) + (st l i).size) := J_len l c i
      have hsi := hs i hlt
      by_cases hi0 : 0 < i
      · have hi1 : (0 : Int) < (i : Int) := by omega
        have EQ : Hid ((J l c (i + 1)).length = n + c.size + (st l i).size) := by show _ = _; rw [JL.out, if_pos hi0, HN.out]
        by_cases q1 : kb.length < n + c.size
        · have q2 : (kb.length : Int) < (n : Int) + (c.size : Int) := by omega
          go_wp2
          go_ret
          exact ⟨.inr ⟨too_long (i := i + 1) hlt (by rw [EQ.out]; omega), rfl⟩, Below.refl _ _⟩
        · have q2 : ¬ (kb.length : Int) < (n : Int) + (c.size : Int) := by omega
          by_cases q3 : kb.length < n + c.size + (st l i).size
          · have q4 : (kb.length : Int) < (n : Int) + (c.size : Int) + ((st l i).size : Int) := by omega
            go_wp2
            go_ret
            exact ⟨.inr ⟨too_long (i := i + 1) hlt (by rw [EQ.out]; omega), rfl⟩, Below.refl _ _⟩
          · have q4 : ¬ (kb.length : Int) < (n : Int) + (c.size : Int) + ((st l i).size : Int) := by omega
            go_wp2
            go_roundw
            case rel => exact ⟨i + 1, n + c.size + (st l i).size, by go_num, by go_num, by omega, by omega, EQ.out.symm, by simp⟩
            case measure => simp [intOf]; omega
      · have hi1 : ¬ (0 : Int) < (i : Int) := by omega
        have EQ : Hid ((J l c (i + 1)).length = n + (st l i).size) := by show _ = _; rw [JL.out, if_neg hi0, HN.out]; omega
        by_cases q3 : kb.length < n + (st l i).size
        · have q4 : (kb.length : Int) < (n : Int) + ((st l i).size : Int) := by omega
          go_wp2
          go_ret
          exact ⟨.inr ⟨too_long (i := i + 1) hlt (by rw [EQ.out]; omega), rfl⟩, Below.refl _ _⟩
        · have q4 : ¬ (kb.length : Int) < (n : Int) + ((st l i).size : Int) := by omega
          go_wp2
          go_roundw
          case rel => exact ⟨i + 1, n + (st l i).size, by go_num, by go_num, by omega, by omega, EQ.out.symm, by simp⟩
          case measure => simp [intOf]; omega
    · obtain rfl : i = l.length := by omega
      obtain ⟨i0, hi', hz0, hz1, hz2⟩ := info_parts By.info5
      go_wp2_with (at_make; refine wpList_make_own w rfl _ _ 23 rfl w.heap.size 5 i0 (.int .u8 0) 1 Try.underlying23 hi' hz0 hz1 .i64 .i64 _ n rfl rfl rfl (by rw [hz2]; omega) (by simp only [maxLen]; omega) (Nat.le_refl _) ?_; intro w1 ho1 hg1)
      have o1 : By.Ow w.heap.size w1 (.slice (some ⟨w.heap.size, 0, none⟩) 0 n) [] := ho1
      have b1 : Below w.heap.size w w1 := (Below.refl _ _).grown hg1 (Nat.le_refl _) (fun k hk => by cases hk)
      clear ho1 hg1 hi' hz0 hz1 hz2 hlt hi
      go_loopw [9, 10] (fun x y wr => ∃ i : Nat, y = .int .i64 i ∧ i ≤ l.length ∧ By.Ow w.heap.size wr x (J l c i) ∧ Below w.heap.size w wr) (fun _ y _ => l.length - (intOf y).toNat)
      case atStart => exact ⟨0, rfl, by omega, o1, b1⟩
      case round =>
        clear o1 b1
        obtain ⟨i, rfl, hi, o1, b1⟩ := hrel
        have hB1 := b1.size
        by_cases hlt : i < l.length
        · obtain ⟨b, off, rfl, hbl, _, hB⟩ := hA (fun e => by rw [e] at hlt; simp at hlt)
          have hcell := (hB.below b1 hbl) i hlt
          have hsi := hs i hlt
          have HL : Hid ((J l c i).length ≤ n) := by show _ ≤ _; rw [HN.out]; exact (J_pre l c hi).length_le
          have hl0 := HL.out
          by_cases hi0 : 0 < i
          · have hi1 : (0 : Int) < (i : Int) := by omega
            have EJ : Hid (J l c i ++ by' c ++ by' (st l i) = J l c (i + 1)) := by show _ = _; rw [J, if_pos hi0, List.append_assoc]
            have HB2 : (J l c i ++ by' c).length + (st l i).size ≤ 1099511627776 := by rw [List.length_append, by_len]; omega
            go_wp2_with (first
              | (at_builtin; have _ := o2; refine wpList_apps rfl _ _ rfl w.heap.size v2 (J l c i ++ by' c) rfl o2 b2.size (st l i) rfl HB2 ?_; intro v3 w3 o3 b3)
              | (at_builtin; refine wpList_apps rfl _ _ rfl w.heap.size _ _ rfl o1 hB1 c rfl (by omega) ?_; intro v2 w2 o2 b2; replace b2 := b1.trans b2; have hcell2 := (hB.below b2 hbl) i hlt))
            go_roundw
            case rel => exact ⟨i + 1, by go_num, by omega, EJ.out ▸ o3, b2.trans b3⟩
            case measure => simp [intOf]; omega
          · have hi1 : ¬ (0 : Int) < (i : Int) := by omega
            have EJ : Hid (J l c i ++ by' (st l i) = J l c (i + 1)) := by show _ = _; rw [J, if_neg hi0]; rfl
            go_wp2_with (at_builtin; refine wpList_apps rfl _ _ rfl w.heap.size _ _ rfl o1 hB1 (st l i) rfl (by omega) ?_; intro v3 w3 o3 b3)
            go_roundw
            case rel => exact ⟨i + 1, by go_num, by omega, EJ.out ▸ o3, b1.trans b3⟩
            case measure => simp [intOf]; omega
        · obtain rfl : i = l.length := by omega
          have rX := o1.rd
          obtain ⟨ax, cx, rfl, _, hX⟩ := rX.form
          have hk1 := hk.below b1
          obtain ⟨T, hT⟩ : ∃ T, T = J l c l.length := ⟨_, rfl⟩
          have HT : Hid (T = J l c l.length) := hT
          have hnT : n = T.length := by rw [hT]; exact HN.out
          rw [← hT] at hX ⊢
          clear hT rX o1 hlt hi
          go_wp2
          go_loopw [11] (fun x w3 => ∃ p : Nat, x = .int .i64 p ∧ p ≤ n ∧ Hid (∀ j, j < p → By.bt T j = By.bt kb j) ∧ Below w.heap.size w w3 ∧ w3.heap = wr.heap) (fun x _ => n - (intOf x).toNat)
          case atStart => exact ⟨0, rfl, by omega, (show ∀ j, _ from fun j hj => by omega), b1, rfl⟩
          case round =>
            obtain ⟨p, rfl, hp, HE, b3, e3⟩ := hrel
            by_cases hlt : p < n
            · have hpT : p < T.length := by omega
              have hpk : p < kb.length := by omega
              obtain ⟨bx, ox, rfl, _, _, hBx⟩ := hX (fun e => by rw [e] at hpT; simp at hpT)
              obtain ⟨bk, ok, rfl, hbk, _, hBk⟩ := hK (fun e => by rw [e] at hpk; simp at hpk)
              have c1 := (hBx.mono (w' := wr) (by rw [e3])) p hpT
              have c2 := (hBk.below b3 hbk) p hpk
              have i1 : (p : Int) < (n : Int) := by omega
              have i2 : (p : Int) < (T.length : Int) := by omega
              have i3 : (p : Int) < (kb.length : Int) := by omega
              by_cases hq : By.bt T p = By.bt kb p
              · have hE : Hid (∀ j, j < p + 1 → By.bt T j = By.bt kb j) := by
                  show ∀ j, _
                  intro j hj
                  by_cases e : j = p
                  · rw [e]; exact hq
                  · exact HE.out j (by omega)
                rw [hq] at c1
                go_wp2
                go_quiet (fail)
                go_wp2
                go_roundw
                case rel => exact ⟨p + 1, by go_num, by omega, hE, below_drewN b3 _, e3⟩
                case measure => simp [intOf]; omega
              · go_wp2
                go_quiet (fail)
                go_wp2
                go_ret
                exact ⟨.inr ⟨fun h => hq ((pre_iff (by omega)).2 (HT.out ▸ h) p hpT), rfl⟩, below_drewN b3 _⟩
            · obtain rfl : p = n := by omega
              have hP : Hid (T <+: kb) := (pre_iff (by omega)).1 (by rw [← hnT]; exact HE.out)
              go_wp2
              go_ret
              exact ⟨.inl ⟨HT.out ▸ hP.out, rfl⟩, b3⟩

end Go.Proofs.Qxb6604794a
