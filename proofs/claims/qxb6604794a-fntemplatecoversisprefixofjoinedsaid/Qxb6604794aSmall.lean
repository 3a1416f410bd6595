/-
  The walks of the bounds and of the clones.
-/
import Derived.Test.Qxb6604794aMem
namespace Go.Proofs.Qxb6604794a
open Go.RowKit

/-- What the bound returns. -/
def RetZ (l : List ByteArray) (c : ByteArray) (n : Nat) (en : Ending) : Prop := en = .returned (.bool false) ∨ (en = .returned (.bool true) ∧ l.length ≤ 1048576 ∧ c.size ≤ 1048576 ∧ n ≤ 1048576 ∧ ∀ j, j < l.length → (st l j).size ≤ 1048576)
/-- Some bool is returned. -/
def RetB (en : Ending) : Prop := ∃ b : Bool, en = .returned (.bool b)

set_option maxRecDepth 100000 in
set_option maxHeartbeats 4000000 in
theorem zz_any (g : Int) (c : ByteArray) (v : Value) (l : List ByteArray) (ak : Option Addr) (nk ck : Nat) (N : Nat) (w : World) (hr : Rd N w v l) :
    Calls Try.prog 5 #[.int .u8 g, v, .string c, .slice ak nk ck] w fun en w' => RetZ l c nk en ∧ w = w' := by
  obtain ⟨a, cc, rfl, _, hA⟩ := hr.form
  clear hr
  go_enter Try.func5, Try.ntmps5
  go_wp2
  all_goals try (go_ret; exact ⟨.inl rfl, rfl⟩)
  have H0 : Hid (l.length ≤ 1048576) := by show _ ≤ _; omega
  go_loopw [9, 10] (fun x y wr => ∃ (s : Int) (i : Nat), x = .int .i64 s ∧ y = .int .i64 i ∧ 0 ≤ s ∧ s ≤ 1048576 ∧ i ≤ l.length ∧ Hid (∀ j, j < i → (st l j).size ≤ 1048576) ∧ w = wr) (fun _ y _ => l.length - (intOf y).toNat)
  case atStart => exact ⟨_, 0, rfl, rfl, by omega, by omega, by omega, (show ∀ j, _ from fun j hj => by omega), rfl⟩
  case round =>
    obtain ⟨s, i, rfl, rfl, hs0, hs1, hi, HS, rfl⟩ := hrel
    by_cases hlt : i < l.length
    · obtain ⟨b, off, rfl, _, _, hB⟩ := hA (fun e => by rw [e] at hlt; simp at hlt)
      have hc := hB i hlt
      go_wp2
      all_goals try (go_ret; exact ⟨.inl rfl, rfl⟩)
      go_roundw
      case rel => exact ⟨_, i + 1, rfl, by go_num, by omega, by omega, by omega, (show ∀ j, _ from fun j hj => by
        by_cases e : j = i
        · subst e; omega
        · exact HS.out j (by omega)), by simp⟩
      case measure => simp [intOf]; omega
    · obtain rfl : i = l.length := by omega
      clear hlt hi
      go_wp2
      all_goals try (go_ret; exact ⟨.inl rfl, rfl⟩)
      go_ret
      exact ⟨.inr ⟨rfl, H0.out, by omega, by omega, HS.out⟩, rfl⟩

set_option maxRecDepth 100000 in
set_option maxHeartbeats 4000000 in
theorem big_any (c : ByteArray) (v : Value) (l : List ByteArray) (ak : Option Addr) (nk ck : Nat) (N : Nat) (w : World) (hr : Rd N w v l) :
    Calls Try.prog 6 #[v, .string c, .slice ak nk ck, .slice none 0 0] w fun en w' => RetB en ∧ w = w' := by
  obtain ⟨a, cc, rfl, _, hA⟩ := hr.form
  clear hr
  by_cases g1 : (65536 : Int) < (l.length : Int)
  · go_enter Try.func6, Try.ntmps6
    go_wp2
    go_ret
    exact ⟨⟨_, rfl⟩, rfl⟩
  have d1 : decide ((65536 : Int) < (l.length : Int)) = false := by simp; omega
  by_cases g2 : (1048576 : Int) < (c.size : Int)
  · go_enter Try.func6, Try.ntmps6
    go_wp2
    go_ret
    exact ⟨⟨_, rfl⟩, rfl⟩
  have d2 : decide ((1048576 : Int) < (c.size : Int)) = false := by simp; omega
  by_cases g3 : (1048576 : Int) < (nk : Int)
  · go_enter Try.func6, Try.ntmps6
    go_wp2
    go_ret
    exact ⟨⟨_, rfl⟩, rfl⟩
  have d3 : decide ((1048576 : Int) < (nk : Int)) = false := by simp; omega
  go_enter Try.func6, Try.ntmps6
  go_wp2
  all_goals try (go_ret; exact ⟨⟨_, rfl⟩, rfl⟩)
  go_loopw [9, 10] (fun x y wr => ∃ (s : Int) (i : Nat), x = .int .i64 s ∧ y = .int .i64 i ∧ 0 ≤ s ∧ s ≤ 1048576 ∧ i ≤ l.length ∧ w = wr) (fun _ y _ => l.length - (intOf y).toNat)
  case atStart => exact ⟨_, 0, rfl, rfl, by omega, by omega, by omega, rfl⟩
  case round =>
    obtain ⟨s, i, rfl, rfl, hs0, hs1, hi, rfl⟩ := hrel
    by_cases hlt : i < l.length
    · obtain ⟨b, off, rfl, _, _, hB⟩ := hA (fun e => by rw [e] at hlt; simp at hlt)
      have hc := hB i hlt
      go_wp2
      all_goals try (go_ret; exact ⟨⟨_, rfl⟩, rfl⟩)
      go_roundw
      case rel => exact ⟨_, i + 1, rfl, by go_num, by omega, by omega, by omega, by simp⟩
      case measure => simp [intOf]; omega
    · obtain rfl : i = l.length := by omega
      clear hlt hi
      go_wp2
      go_ret
      exact ⟨⟨_, rfl⟩, rfl⟩

set_option maxRecDepth 100000 in
theorem clone_nil (w : World) : Calls Try.prog 7 #[.slice none 0 0] w fun e w' => e = .returned (.slice none 0 0) ∧ w' = w := by
  have hq := fun w => Lib.run_eql_slice_nil (P := Try.prog) w 22 9 none 0 0 0 0 Try.underlying22
  go_enter Try.func7, Try.ntmps7
  go_wp2
  go_ret
  exact ⟨rfl, rfl⟩
set_option maxRecDepth 100000 in
set_option maxHeartbeats 1000000 in
theorem clone_any (N : Nat) (v : Value) (l : List ByteArray) (w : World) (hr : Rd N w v l) (hlen : l.length ≤ 1048576) :
    Calls Try.prog 7 #[v] w fun e w' => ∃ v', e = .returned v' ∧ Rd w'.heap.size w' v' l ∧ Below w.heap.size w w' := by
  obtain ⟨ao, cap, rfl, h0, hA⟩ := hr.form
  clear hr
  have hq := fun w => Lib.run_eql_slice_nil (P := Try.prog) w 22 9 ao l.length cap 0 0 Try.underlying22
  cases ao with
  | none =>
    obtain ⟨rfl, rfl⟩ := h0 rfl
    refine (clone_nil w).mono ?_
    rintro e w' ⟨rfl, rfl⟩
    exact ⟨_, rfl, .inl ⟨rfl, none, 0, rfl, fun _ => rfl⟩, Below.refl _ _⟩
  | some ad =>
    obtain ⟨i0, hi, hz0, hz1, hz2⟩ := info_parts info9
    go_enter Try.func7, Try.ntmps7
    go_wp2_with (at_make; refine wpList_make_full w rfl _ _ 22 rfl w.heap.size 9 i0 (.string ByteArray.empty) 1 Try.underlying22 hi hz0 hz1 .i64 .i64 _ _ l.length rfl rfl rfl rfl (by rw [hz2]; omega) (by simp only [maxLen]; omega) (Nat.le_refl _) ?_; intro w1 ho1 hg1)
    have hcp := Cp.made l ho1
    have hb1 : Below w.heap.size w w1 := (Below.refl _ _).grown hg1 (Nat.le_refl _) (fun k hk => by cases hk)
    clear ho1 hg1 hi hz0 hz1 hz2 hq h0
    go_loopw [4] (fun x wr => ∃ k : Nat, k ≤ l.length ∧ x = .int .i64 k ∧ Cp wr w.heap.size l.length l k ∧ Below w.heap.size w wr) (fun x _ => l.length - (intOf x).toNat)
    case atStart => exact ⟨0, by omega, rfl, hcp, hb1⟩
    case round =>
      clear hcp hb1
      obtain ⟨k, hk, rfl, hcp, hb⟩ := hrel
      by_cases hlt : k < l.length
      · have hl : l ≠ [] := fun e => by subst e; simp at hlt
        obtain ⟨b, off, e, _, _, hA'⟩ := hA hl
        injection e with e
        subst e
        have hc := hA'.below hb (hA'.lt hl) k hlt
        obtain ⟨⟨x, hx⟩, _, hf⟩ := hcp k hlt
        go_wp2
        go_roundw
        case rel => exact ⟨k + 1, by omega, by go_num, hcp.set hlt rfl, hb.setCell (Nat.le_refl _) _⟩
        case measure => simp [intOf]; omega
      · obtain rfl : k = l.length := by omega
        go_wp2
        go_ret
        exact ⟨_, rfl, hcp.rd rfl, hb⟩


namespace By
theorem clone_nil (w : World) : Calls Try.prog 8 #[.slice none 0 0] w fun e w' => e = .returned (.slice none 0 0) ∧ w' = w := by
  have hq := fun w => Lib.run_eql_slice_nil (P := Try.prog) w 23 5 none 0 0 0 0 Try.underlying23
  go_enter Try.func8, Try.ntmps8
  go_wp2
  go_ret
  exact ⟨rfl, rfl⟩

set_option maxHeartbeats 1000000 in
/-- cloneBytes, not nil. -/
theorem clone_some (b off cap : Nat) (l : List UInt8) (w : World) (hA : At w b off l) (hlen : l.length ≤ 1048576) (ad : Addr) (had : l ≠ [] → ad = ⟨b, off, none⟩) :
    Calls Try.prog 8 #[.slice (some ad) l.length cap] w fun e w' => ∃ v', e = .returned v' ∧ Full w'.heap.size w' v' l ∧ Below w.heap.size w w' := by
  have hq := fun w => Lib.run_eql_slice_nil (P := Try.prog) w 23 5 (some ad) l.length cap 0 0 Try.underlying23
  obtain ⟨i0, hi, hz0, hz1, hz2⟩ := info_parts info5
  go_enter Try.func8, Try.ntmps8
  go_wp2_with (at_make; refine wpList_make_full w rfl _ _ 23 rfl w.heap.size 5 i0 (.int .u8 0) 1 Try.underlying23 hi hz0 hz1 .i64 .i64 _ _ l.length rfl rfl rfl rfl (by rw [hz2]; omega) (by simp only [maxLen]; omega) (Nat.le_refl _) ?_; intro w1 ho1 hg1)
  have hcp := Cp.made l ho1
  have hb1 : Below w.heap.size w w1 := (Below.refl _ _).grown hg1 (Nat.le_refl _) (fun k hk => by cases hk)
  clear ho1 hg1 hi hz0 hz1 hz2 hq
  go_loopw [4] (fun x wr => ∃ k : Nat, k ≤ l.length ∧ x = .int .i64 k ∧ Cp wr w.heap.size l.length l k ∧ Below w.heap.size w wr) (fun x _ => l.length - (intOf x).toNat)
  case atStart => exact ⟨0, by omega, rfl, hcp, hb1⟩
  case round =>
    clear hcp hb1
    obtain ⟨k, hk, rfl, hcp, hb⟩ := hrel
    by_cases hlt : k < l.length
    · have hl : l ≠ [] := fun e => by subst e; simp at hlt
      have had' := had hl
      subst had'
      have hc := hA.below hb (hA.lt hl) k hlt
      obtain ⟨⟨x, hx⟩, _, hf⟩ := hcp k hlt
      clear had
      go_wp2
      go_roundw
      case rel => exact ⟨k + 1, by omega, by go_num, hcp.set hlt rfl, hb.setCell (Nat.le_refl _) _⟩
      case measure => simp [intOf]; omega
    · obtain rfl : k = l.length := by omega
      go_wp2
      go_ret
      exact ⟨_, rfl, hcp.full rfl, hb⟩

/-- cloneBytes. -/
theorem clone_any (N : Nat) (v : Value) (l : List UInt8) (w : World) (hr : Rd N w v l) (hlen : l.length ≤ 1048576) :
    Calls Try.prog 8 #[v] w fun e w' => ∃ v', e = .returned v' ∧ Full w'.heap.size w' v' l ∧ Below w.heap.size w w' := by
  rcases hr with ⟨rfl, ao, cap, rfl, h0⟩ | ⟨hl, b, off, cap, rfl, hb, _, hA⟩
  · cases ao with
    | none =>
      obtain rfl := h0 rfl
      refine (clone_nil w).mono ?_
      rintro e w' ⟨rfl, rfl⟩
      exact ⟨_, rfl, ⟨.inl ⟨rfl, none, 0, rfl, fun _ => rfl⟩, none, rfl⟩, Below.refl _ _⟩
    | some ad => exact clone_some 0 0 cap [] w (fun j hj => by simp at hj) (by simp) ad (fun h => absurd rfl h)
  · exact clone_some b off cap l w hA hlen _ (fun _ => rfl)

end By
end Go.Proofs.Qxb6604794a
