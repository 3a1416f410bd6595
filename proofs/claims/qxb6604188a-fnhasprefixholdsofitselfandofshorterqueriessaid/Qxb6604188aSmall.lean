/-
  The walks of addB1, addListB1, cloneListB1, part.
-/
import Derived.Test.Qxb6604188aMem
namespace Go.Proofs.Qxb6604188a
open Go.RowKit

/-- Some int is returned. -/
def RetI (e : Ending) : Prop := ∃ r : Int, e = .returned (.int .i64 r)

set_option maxRecDepth 100000 in
set_option maxHeartbeats 1000000 in
theorem add_any (t n : Int) (w : World) : Calls Try.prog 6 #[.int .i64 t, .int .i64 n] w fun e w' => RetI e ∧ w = w' := by
  by_cases h1 : t < 0
  · go_enter Try.func6, Try.ntmps6
    go_wp2
    go_ret
    exact ⟨⟨_, rfl⟩, rfl⟩
  · have d1 : decide (t < 0) = false := by simp; omega
    by_cases h2 : 1048576 < t
    · go_enter Try.func6, Try.ntmps6
      go_wp2
      go_ret
      exact ⟨⟨_, rfl⟩, rfl⟩
    · have d2 : decide (1048576 < t) = false := by simp; omega
      by_cases h3 : n < 0
      · go_enter Try.func6, Try.ntmps6
        go_wp2
        go_ret
        exact ⟨⟨_, rfl⟩, rfl⟩
      · have d3 : decide (n < 0) = false := by simp; omega
        by_cases h4 : 1048576 < n
        · go_enter Try.func6, Try.ntmps6
          go_wp2
          go_ret
          exact ⟨⟨_, rfl⟩, rfl⟩
        · have d4 : decide (1048576 < n) = false := by simp; omega
          go_enter Try.func6, Try.ntmps6
          go_wp2
          go_ret
          exact ⟨⟨_, rfl⟩, rfl⟩

set_option maxRecDepth 100000 in
set_option maxHeartbeats 1000000 in
theorem addList_any (N : Nat) (t : Int) (v : Value) (l : List ByteArray) (w : World) (hr : Rd N w v l) : Calls Try.prog 7 #[.int .i64 t, v] w fun e w' => RetI e ∧ w = w' := by
  obtain ⟨ao, cap, rfl, h0, hA⟩ := hr.form
  clear hr
  by_cases h1 : 1048576 < l.length
  · have h2 : (1048576 : Int) < (l.length : Int) := by omega
    go_enter Try.func7, Try.ntmps7
    go_wp2
    go_ret
    exact ⟨⟨_, rfl⟩, rfl⟩
  · have h2 : ¬ (1048576 : Int) < (l.length : Int) := by omega
    go_enter Try.func7, Try.ntmps7
    go_wp2_with (go_at_call 6; refine (add_any _ _ _).mono ?_; rintro e w' ⟨⟨r0, rfl⟩, rfl⟩)
    go_loopw [0, 5] (fun x y wr => ∃ (r : Int) (k : Nat), x = .int .i64 r ∧ y = .int .i64 k ∧ k ≤ l.length ∧ w = wr) (fun _ y _ => l.length - (intOf y).toNat)
    case atStart => exact ⟨r0, 0, rfl, rfl, by omega, rfl⟩
    case round =>
      obtain ⟨r, k, rfl, rfl, hk, rfl⟩ := hrel
      by_cases hlt : k < l.length
      · obtain ⟨b, off, rfl, _, _, hA'⟩ := hA (fun e => by rw [e] at hlt; simp at hlt)
        have hc := hA' k hlt
        by_cases hr : 1048576 < r
        · go_wp2
          go_ret
          exact ⟨⟨_, rfl⟩, rfl⟩
        · go_wp2_with (go_at_call 6; refine (add_any _ _ _).mono ?_; rintro e w' ⟨⟨r1, rfl⟩, rfl⟩)
          go_roundw
          case rel => exact ⟨r1, k + 1, rfl, by go_num, by omega, by simp⟩
          case measure => simp [intOf]; omega
      · obtain rfl : k = l.length := by omega
        go_wp2
        go_ret
        exact ⟨⟨_, rfl⟩, rfl⟩

set_option maxRecDepth 100000 in
theorem clone_nil (w : World) : Calls Try.prog 8 #[.slice none 0 0] w fun e w' => e = .returned (.slice none 0 0) ∧ w' = w := by
  have hq := fun w => Lib.run_eql_slice_nil (P := Try.prog) w 22 9 none 0 0 0 0 Try.underlying22
  go_enter Try.func8, Try.ntmps8
  go_wp2
  go_ret
  exact ⟨rfl, rfl⟩
set_option maxRecDepth 100000 in
set_option maxHeartbeats 1000000 in
theorem clone_any (N : Nat) (v : Value) (l : List ByteArray) (w : World) (hr : Rd N w v l) (hlen : l.length ≤ 1048576) :
    Calls Try.prog 8 #[v] w fun e w' => ∃ v', e = .returned v' ∧ Rd w'.heap.size w' v' l ∧ Below w.heap.size w w' := by
  obtain ⟨ao, cap, rfl, h0, hA⟩ := hr.form
  clear hr
  have hq := fun w => Lib.run_eql_slice_nil (P := Try.prog) w 22 9 ao l.length cap 0 0 Try.underlying22
  cases ao with
  | none =>
    obtain ⟨rfl, rfl⟩ := h0 rfl
    refine (clone_nil w).mono ?_
    rintro e w' ⟨rfl, rfl⟩
    exact ⟨_, rfl, .inl ⟨rfl, none, 0, rfl, fun _ => rfl⟩, Below.refl _ _⟩
  | some ad =>
    obtain ⟨i0, hi, hz0, hz1, hz2⟩ := info_parts info9
    go_enter Try.func8, Try.ntmps8
    go_wp2_with (at_make; refine wpList_make_full w rfl _ _ 22 rfl w.heap.size 9 i0 (.string ByteArray.empty) 1 Try.underlying22 hi hz0 hz1 .i64 .i64 _ _ l.length rfl rfl rfl rfl (by rw [hz2]; omega) (by simp only [maxLen]; omega) (Nat.le_refl _) ?_; intro w1 ho1 hg1)
    have hcp := Cp.made l ho1
    have hb1 : Below w.heap.size w w1 := (Below.refl _ _).grown hg1 (Nat.le_refl _) (fun k hk => by cases hk)
    clear ho1 hg1 hi hz0 hz1 hz2 hq h0
    go_loopw [4] (fun x wr => ∃ k : Nat, k ≤ l.length ∧ x = .int .i64 k ∧ Cp wr w.heap.size l.length l k ∧ Below w.heap.size w wr) (fun x _ => l.length - (intOf x).toNat)
    case atStart => exact ⟨0, by omega, rfl, hcp, hb1⟩
    case round =>
      clear hcp hb1
      obtain ⟨k, hk, rfl, hcp, hb⟩ := hrel
      by_cases hlt : k < l.length
      · have hl : l ≠ [] := fun e => by subst e; simp at hlt
        obtain ⟨b, off, e, _, _, hA'⟩ := hA hl
        injection e with e
        subst e
        have hc := hA'.below hb (hA'.lt hl) k hlt
        obtain ⟨⟨x, hx⟩, _, hf⟩ := hcp k hlt
        go_wp2
        go_roundw
        case rel => exact ⟨k + 1, by omega, by go_num, hcp.set hlt rfl, hb.setCell (Nat.le_refl _) _⟩
        case measure => simp [intOf]; omega
      · obtain rfl : k = l.length := by omega
        go_wp2
        go_ret
        exact ⟨_, rfl, hcp.rd rfl, hb⟩

/-- The text of release number i, "0" past the end. -/
def part (l : List ByteArray) (i : Nat) : ByteArray := if i < l.length then st l i else ⟨#[48]⟩
set_option maxRecDepth 100000 in
set_option maxHeartbeats 1000000 in
theorem part_any (N : Nat) (v : Value) (l : List ByteArray) (i : Nat) (w : World) (hr : Rd N w v l) : Calls Try.prog 12 #[v, .int .i64 i] w fun e w' => e = .returned (.string (part l i)) ∧ w = w' := by
  obtain ⟨ao, cap, rfl, h0, hA⟩ := hr.form
  clear hr
  by_cases hlt : i < l.length
  · obtain ⟨b, off, rfl, _, _, hA'⟩ := hA (fun e => by rw [e] at hlt; simp at hlt)
    have hc := hA' i hlt
    rw [part, if_pos hlt]
    go_enter Try.func12, Try.ntmps12
    go_wp2
    go_ret
    exact ⟨rfl, rfl⟩
  · rw [part, if_neg hlt]
    go_enter Try.func12, Try.ntmps12
    go_wp2
    go_ret
    exact ⟨rfl, rfl⟩

end Go.Proofs.Qxb6604188a
