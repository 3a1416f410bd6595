/-
  The walks of hasPrefix, covers and its shim.
-/
import Derived.Test.Qxb6604794aSmall
import Derived.Laws.BytesArg
import Derived.Laws.IdiomStrings
namespace Go.Proofs.Qxb6604794a
open Go.RowKit

theorem toList_inj {a b : ByteArray} (h : a.toList = b.toList) : a = b := by
  rw [ByteArray.toList_eq, ByteArray.toList_eq] at h
  exact WideShapes.bytes_inj h
theorem toList_ne {a b : ByteArray} (h : ¬ a = b) : (a.toList == b.toList) = false := beq_eq_false_iff_ne.mpr fun e => h (toList_inj e)

namespace By
theorem Rd.form {N : Nat} {w : World} {v : Value} {l : List UInt8} (h : Rd N w v l) :
    ∃ ao cap, v = .slice ao l.length cap ∧ (ao = none → l = [] ∧ cap = 0) ∧ (l ≠ [] → ∃ b off, ao = some ⟨b, off, none⟩ ∧ b < N ∧ l.length ≤ cap ∧ At w b off l) := by
  rcases h with ⟨rfl, ao, cap, rfl, h0⟩ | ⟨hl, b, off, cap, rfl, hb, hc, ha⟩
  · exact ⟨ao, cap, rfl, fun e => ⟨rfl, h0 e⟩, fun e => absurd rfl e⟩
  · exact ⟨_, cap, rfl, (fun e => by cases e), fun _ => ⟨b, off, rfl, hb, hc, ha⟩⟩
theorem conv {w : World} {ao : Option Addr} {cap : Nat} {l : List UInt8} (n : Nat) (hn : n ≤ l.length) (hA : l ≠ [] → ∃ b off, ao = some ⟨b, off, none⟩ ∧ At w b off l) :
    (convert 23 9 (.slice ao n cap)).run Try.prog w = .ok (.string ⟨(l.take n).toArray⟩) w := by
  have hlen : (l.take n).length = n := by rw [List.length_take]; omega
  cases ao with
  | none =>
    have : l = [] := Classical.byContradiction fun h => by obtain ⟨_, _, e, _⟩ := hA h; cases e
    subst this
    have := run_convert_bytes_nil (P := Try.prog) w 23 5 Try.underlying23 Try.underlying5 n cap 9 Try.underlying9
    rw [this]
    simp
    rfl
  | some a =>
    have := run_convert_bytes_back (P := Try.prog) w 23 9 5 a cap (l.take n) Try.underlying23 Try.underlying5 Try.underlying9 (by
      intro j hj
      have hl : l ≠ [] := fun e => by rw [e] at hj; simp at hj
      obtain ⟨b, off, e, hB⟩ := hA hl
      injection e with e
      subst e
      rw [add_lit, (hB.take n) j hj, bt_get hj])
    rw [hlen] at this
    exact this
end By

/-- The answer yes or no. -/
def RetP (p : Prop) (en : Ending) : Prop := (p ∧ en = .returned (.bool true)) ∨ (¬ p ∧ en = .returned (.bool false))
/-- The bytes of a string. -/
def by' (s : ByteArray) : List UInt8 := s.data.toList
theorem by_len (s : ByteArray) : (by' s).length = s.size := by
  unfold by'
  rw [Array.length_toList]
  rfl
theorem take_eq_iff (kb : List UInt8) (s : ByteArray) : (⟨(kb.take s.size).toArray⟩ : ByteArray) = s ↔ by' s <+: kb := by
  constructor
  · intro h
    have : kb.take s.size = by' s := by
      have := congrArg (fun x : ByteArray => x.data.toList) h
      simpa [by'] using this
    rw [← this]
    exact List.take_prefix _ _
  · intro h
    have := List.prefix_iff_eq_take.1 h
    rw [by_len] at this
    rw [← this]
    cases s
    simp [by']

set_option maxRecDepth 100000 in
set_option maxHeartbeats 1000000 in
theorem hasp_any (N : Nat) (v : Value) (kb : List UInt8) (s : ByteArray) (w : World) (hr : By.Rd N w v kb) :
    Calls Try.prog 14 #[v, .string s] w fun en w' => RetP (by' s <+: kb) en ∧ w = w' := by
  obtain ⟨ao, cap, rfl, h0, hA⟩ := hr.form
  by_cases h1 : s.size ≤ kb.length
  · have hcv := By.conv (cap := cap) s.size h1 (w := w) (ao := ao) (fun h => by obtain ⟨b, off, e, _, _, hB⟩ := hA h; exact ⟨b, off, e, hB⟩)
    have hcap : s.size ≤ cap := by
      by_cases h : kb = []
      · rw [h, List.length_nil] at h1; omega
      · obtain ⟨_, _, _, _, h2, _⟩ := hA h; omega
    have d1 : decide ((s.size : Int) ≤ (kb.length : Int)) = true := by simp; omega
    by_cases h2 : by' s <+: kb
    · rw [(take_eq_iff kb s).2 h2] at hcv
      go_enter Try.func14, Try.ntmps14
      go_wp2
      go_ret
      exact ⟨.inl ⟨h2, rfl⟩, rfl⟩
    · have hne : (List.take s.size kb == s.toList) = false := beq_eq_false_iff_ne.mpr fun e => h2 (by rw [by', ← ByteArray.toList_eq, ← e]; exact List.take_prefix _ _)
      go_enter Try.func14, Try.ntmps14
      go_wp2
      go_ret
      exact ⟨.inr ⟨h2, rfl⟩, rfl⟩
  · have d1 : decide ((s.size : Int) ≤ (kb.length : Int)) = false := by simp; omega
    have h2 : ¬ by' s <+: kb := fun h => h1 (by have := h.length_le; rw [by_len] at this; exact this)
    go_enter Try.func14, Try.ntmps14
    go_wp2
    go_ret
    exact ⟨.inr ⟨h2, rfl⟩, rfl⟩

/-- The first k parts, joined with c between each two. -/
def J (l : List ByteArray) (c : ByteArray) : Nat → List UInt8
  | 0 => []
  | k + 1 => J l c k ++ ((if 0 < k then by' c else []) ++ by' (st l k))
theorem J_pre (l : List ByteArray) (c : ByteArray) {i j : Nat} (h : i ≤ j) : J l c i <+: J l c j := by
  induction j with
  | zero => obtain rfl : i = 0 := by omega
            exact List.prefix_refl _
  | succ j ih =>
    by_cases e : i = j + 1
    · subst e; exact List.prefix_refl _
    · exact (ih (by omega)).trans (List.prefix_append _ _)
theorem pre_app {a s kb : List UInt8} (h : a <+: kb) : s <+: kb.drop a.length ↔ a ++ s <+: kb := by
  obtain ⟨t, rfl⟩ := h
  rw [List.drop_left, List.prefix_append_right_inj]
theorem step {a s kb rb : List UInt8} (e : rb = kb.drop a.length) (h : s <+: rb) (ha : a <+: kb) : a ++ s <+: kb ∧ rb.drop s.length = kb.drop (a ++ s).length := by
  subst e
  exact ⟨(pre_app ha).1 h, by rw [List.drop_drop, List.length_append]⟩
/-- What is left behind the first n bytes. -/
theorem By.rd_sliced {N : Nat} {w : World} {ao : Option Addr} {cap n : Nat} {l : List UInt8} (h : By.Rd N w (.slice ao l.length cap) l) (hn : n ≤ l.length) :
    By.Rd N w (.slice (if cap = n then ao else Option.map (fun x => x.add n) ao) (l.length - n) (cap - n)) (l.drop n) := by
  rcases h with ⟨rfl, ao', cap', e, h0⟩ | ⟨hl, b, off, cap', e, hb, hc, hA⟩
  · injection e with e1 _ e3
    subst e1
    subst e3
    obtain rfl : n = 0 := by simpa using hn
    refine .inl ⟨by simp, _, _, rfl, fun q => ?_⟩
    split at q
    · have := h0 q; omega
    · have := h0 (by simpa using q); omega
  · injection e with e1 _ e3
    subst e1
    subst e3
    by_cases hd : l.drop n = []
    · have hz : l.length - n = 0 := by rw [← List.length_drop, hd]; rfl
      rw [hz]
      refine .inl ⟨hd, _, _, rfl, fun q => ?_⟩
      split at q
      · cases q
      · cases q
    · have hlt : n < l.length := by
        have := List.length_pos_iff.mpr hd
        rw [List.length_drop] at this
        omega
      refine .inr ⟨hd, b, off + n, cap - n, ?_, hb, by rw [List.length_drop]; omega, hA.drop n⟩
      rw [if_neg (by omega), List.length_drop, Option.map_some, add_lit]

theorem By.rd_sliced' {N : Nat} {w : World} {ao : Option Addr} {cap n m : Nat} {l : List UInt8} (h : By.Rd N w (.slice ao m cap) l) (hm : m = l.length) (hn : n ≤ l.length) :
    By.Rd N w (.slice (if cap = n then ao else Option.map (fun x => x.add n) ao) (m - n) (cap - n)) (l.drop n) := by
  subst hm
  exact By.rd_sliced h hn
theorem two {c s : ByteArray} {rb : List UInt8} (h1 : by' c <+: rb) (h2 : by' s <+: rb.drop c.size) : by' c ++ by' s <+: rb := (pre_app h1).1 (by rw [by_len]; exact h2)
theorem two' {c s : ByteArray} {rb : List UInt8} (h1 : by' c <+: rb) (h : by' c ++ by' s <+: rb) : by' s <+: rb.drop c.size := by
  have := (pre_app h1).2 h
  rwa [by_len] at this

set_option maxRecDepth 100000 in
set_option maxHeartbeats 1000000 in
theorem covers_any (g : Int) (v vk : Value) (l : List ByteArray) (c : ByteArray) (kb : List UInt8) (w : World) (hr : Rd w.heap.size w v l) (hk : By.Rd w.heap.size w vk kb) (hl : l.length ≤ 1048576) :
    Calls Try.prog 13 #[.agg #[.int .u8 g, v], .string c, vk] w fun en w' => RetP (J l c l.length <+: kb) en ∧ Below w.heap.size w w' := by
  obtain ⟨a, cc, rfl, _, hA⟩ := hr.form
  go_enter Try.func13, Try.ntmps13
  go_wp2
  have hb := (Below.refl w.heap.size w).alloc (Nat.le_refl _) (.cells #[.int .u8 g, .slice a l.length cc] 33)
  go_loopw [7, 14] (fun x y wr => ∃ i : Nat, y = .int .i64 i ∧ i ≤ l.length ∧ By.Rd w.heap.size wr x (kb.drop (J l c i).length) ∧ Hid (J l c i <+: kb) ∧ _ = wr) (fun _ y _ => l.length - (intOf y).toNat)
  case atStart => exact ⟨0, rfl, by omega, hk.below hb, List.nil_prefix, rfl⟩
  case round =>
    obtain ⟨i, rfl, hi, hx, hp, rfl⟩ := hrel
    by_cases hlt : i < l.length
    · obtain ⟨b, off, rfl, hbl, _, hB⟩ := hA (fun e => by rw [e] at hlt; simp at hlt)
      have hc := (hB.below hb hbl) i hlt
      obtain ⟨ao, cap, rfl, h0, hD⟩ := hx.form
      obtain ⟨rb, hrb⟩ : ∃ rb, rb = kb.drop (J l c i).length := ⟨_, rfl⟩
      have RB : Hid (rb = kb.drop (J l c i).length) := hrb
      rw [← hrb] at hx hD ⊢
      clear hrb hD h0
      have NO : Hid (∀ s, J l c i ++ s <+: J l c (i + 1) → ¬ s <+: rb → ¬ J l c l.length <+: kb) := fun s h1 h2 h3 => h2 (by rw [RB.out]; exact (pre_app hp.out).2 ((h1.trans (J_pre l c hlt)).trans h3))
      by_cases hi0 : 0 < i
      · have hi1 : (0 : Int) < (i : Int) := by omega
        have hJ : Hid (J l c (i + 1) = J l c i ++ (by' c ++ by' (st l i))) := by show _ = _; rw [J, if_pos hi0]
        go_wp2_with (first
          | (go_at_call 14; have _ := hq1; refine (hasp_any _ _ _ (st l i) _ (By.rd_sliced hx hle1)).mono ?_; rintro e w' ⟨hq, rfl⟩; rcases hq with ⟨hq, rfl⟩ | ⟨hq, rfl⟩; have hle := hq.length_le; rw [by_len, List.length_drop] at hle)
          | (go_at_call 14; refine (hasp_any _ _ _ c _ hx).mono ?_; rintro e w' ⟨hq1, rfl⟩; rcases hq1 with ⟨hq1, rfl⟩ | ⟨hq1, rfl⟩; have hle1 : c.size ≤ rb.length := (by have := hq1.length_le; rwa [by_len] at this)))
        · go_roundw
          case rel => exact ⟨i + 1, by go_num, by omega, by rw [hJ.out, ← (step RB.out (two hq1 hq) hp.out).2, List.length_append, by_len, by_len, ← List.drop_drop]; exact By.rd_sliced' (By.rd_sliced hx hle1) (by rw [List.length_drop]) (by rw [List.length_drop]; exact hle), (show _ <+: _ by rw [hJ.out]; exact (step RB.out (two hq1 hq) hp.out).1), by simp⟩
          case measure => simp [intOf]; omega
        all_goals first
          | (go_ret; exact ⟨.inr ⟨NO.out _ (by rw [hJ.out]; exact List.prefix_refl _) (fun h => hq (two' hq1 h)), rfl⟩, hb⟩)
          | (go_ret; exact ⟨.inr ⟨NO.out _ (by rw [hJ.out, ← List.append_assoc]; exact List.prefix_append _ _) hq1, rfl⟩, hb⟩)
      · have hi1 : ¬ (0 : Int) < (i : Int) := by omega
        have hJ : Hid (J l c (i + 1) = J l c i ++ by' (st l i)) := by show _ = _; rw [J, if_neg hi0]; rfl
        go_wp2_with (go_at_call 14; refine (hasp_any _ _ _ (st l i) _ hx).mono ?_; rintro e w' ⟨hq, rfl⟩; rcases hq with ⟨hq, rfl⟩ | ⟨hq, rfl⟩; have hle : (st l i).size ≤ rb.length := (by have := hq.length_le; rwa [by_len] at this))
        · go_roundw
          case rel => exact ⟨i + 1, by go_num, by omega, by rw [hJ.out, ← (step RB.out hq hp.out).2, by_len]; exact By.rd_sliced hx hle, (show _ <+: _ by rw [hJ.out]; exact (step RB.out hq hp.out).1), by simp⟩
          case measure => simp [intOf]; omega
        · go_ret
          exact ⟨.inr ⟨NO.out _ (by rw [hJ.out]; exact List.prefix_refl _) hq, rfl⟩, hb⟩
    · obtain rfl : i = l.length := by omega
      go_wp2
      go_ret
      exact ⟨.inl ⟨hp.out, rfl⟩, hb⟩

set_option maxRecDepth 100000 in
theorem zcovers_any (g : Int) (v vk : Value) (l : List ByteArray) (c : ByteArray) (kb : List UInt8) (w : World) (hr : Rd w.heap.size w v l) (hk : By.Rd w.heap.size w vk kb) (hl : l.length ≤ 1048576) :
    Calls Try.prog 9 #[.int .u8 g, v, .string c, vk] w fun en w' => RetP (J l c l.length <+: kb) en ∧ Below w.heap.size w w' := by
  obtain ⟨a, cc, e, _, _⟩ := hr.form
  subst e
  go_enter Try.func9, Try.ntmps9
  go_wp2_with (go_at_call 13; refine (covers_any g _ vk l c kb w hr hk hl).mono ?_; rintro e w' ⟨h1, h2⟩; rcases h1 with ⟨h1, rfl⟩ | ⟨h1, rfl⟩)
  all_goals go_ret
  · exact ⟨.inl ⟨h1, rfl⟩, h2⟩
  · exact ⟨.inr ⟨h1, rfl⟩, h2⟩

end Go.Proofs.Qxb6604794a
