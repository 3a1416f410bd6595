/-
  The walks of the small functions.
-/
import Derived.Test.Qxb6604065aDoorMem
import Derived.Deep.QuietTactic
import Derived.BigQuiet
namespace Go.Proofs.Qxb6604065aDoor
open Go.RowKit

/-- A decimal digit. -/
def dgB (c : Int) : Bool := decide (48 ≤ c) && decide (c ≤ 57)
theorem dgB_iff (c : Int) : dgB c = true ↔ 48 ≤ c ∧ c ≤ 57 := by simp [dgB]
theorem dgB_no (c : Int) : dgB c = false ↔ ¬ (48 ≤ c ∧ c ≤ 57) := by
  rw [← dgB_iff]; cases dgB c <;> simp

set_option maxHeartbeats 400000 in
/-- isDigitCanonB1. -/
theorem isDigit_any (c : Int) (w : World) : Calls Tryd.prog 18 #[.int .u8 c] w fun e w' => e = .returned (.bool (dgB c)) ∧ w = w' := by
  by_cases h : 48 ≤ c
  · have e : dgB c = decide (c ≤ 57) := by simp [dgB, h]
    rw [e]
    go_enter Tryd.func18, Tryd.ntmps18
    go_wp2
    go_ret
    exact ⟨rfl, rfl⟩
  · have e : dgB c = false := by rw [dgB_no]; omega
    rw [e]
    have hd : decide (48 ≤ c) = false := by simpa using h
    go_enter Tryd.func18, Tryd.ntmps18
    go_wp2
    go_ret
    exact ⟨rfl, rfl⟩

/-- Digits, at least one, no zero at either end. -/
def Sh (l : List UInt8) : Prop := l ≠ [] ∧ (∀ j, j < l.length → dgB (bt l j) = true) ∧ bt l 0 ≠ 48 ∧ bt l (l.length - 1) ≠ 48

/-- What isShortest answers. -/
def RetSh (l : List UInt8) (e : Ending) : Prop := (Sh l ∧ e = .returned (.bool true)) ∨ (¬ Sh l ∧ e = .returned (.bool false))

set_option maxHeartbeats 1000000 in
/-- isShortestDigitsCanonB1. -/
theorem isShortest_any (N : Nat) (v : Value) (l : List UInt8) (w : World) (hr : Rd N w v l) (hlen : l.length ≤ 1048576) :
    Calls Tryd.prog 7 #[v] w fun e w' => RetSh l e ∧ w' = w := by
  rcases hr with ⟨rfl, ao, cap, rfl, _⟩ | ⟨hl, b, off, cap, rfl, _, _, hA⟩
  · go_enter Tryd.func7, Tryd.ntmps7
    go_wp2
    go_ret
    exact ⟨.inr ⟨by simp [Sh], rfl⟩, rfl⟩
  · have hpos : 0 < l.length := List.length_pos_iff.mpr hl
    have hp : ((l.length : Int) == 0) = false := by simp; omega
    go_enter Tryd.func7, Tryd.ntmps7
    go_wp2
    go_loop [3] (fun x => ∃ k : Nat, k ≤ l.length ∧ x = .int .i64 k ∧ Hid (∀ j, j < k → dgB (bt l j) = true)) (fun x => l.length - (intOf x).toNat)
    case atStart => exact ⟨0, by omega, rfl, fun j hj => by omega⟩
    case round =>
      obtain ⟨k, hk, rfl, hall⟩ := hrel
      by_cases hlt : k < l.length
      · have hc := hA k hlt
        cases hd : dgB (bt l k) with
        | true =>
          go_wp2_with (go_at_call 18; refine (isDigit_any _ _).mono ?_; rintro e w' ⟨rfl, rfl⟩)
          go_round
          case rel => exact ⟨k + 1, by omega, by go_num, fun j hj => by by_cases e : j = k; (· subst e; exact hd); exact hall.out j (by omega)⟩
          case measure => simp [intOf]; omega
        | false =>
          go_wp2_with (go_at_call 18; refine (isDigit_any _ _).mono ?_; rintro e w' ⟨rfl, rfl⟩)
          go_ret
          exact ⟨.inr ⟨fun q => absurd (q.2.1 k hlt) (by rw [hd]; decide), rfl⟩, rfl⟩
      · obtain rfl : k = l.length := by omega
        have c0 := hA 0 hpos
        have c1 := hA (l.length - 1) (by omega)
        rw [Nat.add_zero] at c0
        by_cases h0 : bt l 0 = 48
        · have h0' : (bt l 0 != 48) = false := by simp [h0]
          have H0 : Hid (bt l 0 = 48) := h0
          clear h0
          go_wp2
          go_ret
          exact ⟨.inr ⟨fun q => q.2.2.1 H0.out, rfl⟩, rfl⟩
        · have h0' : (bt l 0 != 48) = true := by simp [h0]
          by_cases h1 : bt l (l.length - 1) = 48
          · have h1' : (bt l (l.length - 1) != 48) = false := by simp [h1]
            have H1 : Hid (bt l (l.length - 1) = 48) := h1
            clear h1
            go_wp2
            go_ret
            exact ⟨.inr ⟨fun q => q.2.2.2 H1.out, rfl⟩, rfl⟩
          · have h1' : (bt l (l.length - 1) != 48) = true := by simp [h1]
            go_wp2
            go_ret
            exact ⟨.inl ⟨⟨hl, hall.out, h0, h1⟩, rfl⟩, rfl⟩

set_option maxHeartbeats 400000 in
/-- cloneBytesCanonB1, nil. -/
theorem clone_nil (w : World) : Calls Tryd.prog 8 #[.slice none 0 0] w fun e w' => e = .returned (.slice none 0 0) ∧ w' = w := by
  have hq := fun w => Lib.run_eql_slice_nil (P := Tryd.prog) w 22 5 none 0 0 0 0 Tryd.underlying22
  go_enter Tryd.func8, Tryd.ntmps8
  go_wp2
  go_ret
  exact ⟨rfl, rfl⟩

/-- A row of n cells that may be written, the first k of which hold l's first bytes. -/
def Cp (w : World) (g n : Nat) (l : List UInt8) (k : Nat) : Prop :=
  ∀ j, j < n → (∃ x, w.cell? ⟨g, j, none⟩ = some x) ∧ (j < k → w.cell? ⟨g, j, none⟩ = some (.int .u8 (bt l j))) ∧ w.frozen? ⟨g, j, none⟩ = false
theorem Cp.set {w : World} {g n k : Nat} {l : List UInt8} (h : Cp w g n l k) (hk : k < n) {x : Int} (hx : x = bt l k) : Cp (w.setCell ⟨g, k, none⟩ (.int .u8 x)) g n l (k + 1) := by
  subst hx
  intro j hj
  obtain ⟨⟨x, hx⟩, h2, h3⟩ := h j hj
  refine ⟨?_, fun hlt => ?_, by rw [World.frozen?_setCell]; exact h3⟩
  · by_cases e : j = k
    · subst e; exact ⟨_, World.cell?_setCell_same _ _ _ hx⟩
    · exact ⟨x, by rw [World.cell?_setCell_other _ _ _ _ (by intro q; injection q; omega)]; exact hx⟩
  · by_cases e : j = k
    · subst e; exact World.cell?_setCell_same _ _ _ hx
    · rw [World.cell?_setCell_other _ _ _ _ (by intro q; injection q; omega)]; exact h2 (by omega)
theorem Cp.made {w : World} {B g n : Nat} {xs : List Value} (l : List UInt8) (h : w.ownsRow B 5 1 (.slice (some ⟨g, 0, none⟩) n n) n xs) : Cp w g n l 0 := by
  intro j hj
  have h1 := h.cellAt j (by omega)
  have h2 : j < xs.length := by rw [h.1]; omega
  rw [List.getElem?_eq_getElem h2] at h1
  exact ⟨⟨_, h1⟩, fun q => by omega, h.frozenAt j⟩
theorem Cp.full {w : World} {g n : Nat} {l : List UInt8} (h : Cp w g n l n) (hn : n = l.length) : Full w.heap.size w (.slice (some ⟨g, 0, none⟩) n n) l := by
  subst hn
  have hA : At w g 0 l := fun j hj => by rw [Nat.zero_add]; exact (h j hj).2.1 hj
  refine ⟨?_, _, rfl⟩
  by_cases hl : l = []
  · subst hl; exact .inl ⟨rfl, _, 0, rfl, fun e => by cases e⟩
  · exact .inr ⟨hl, g, 0, _, rfl, hA.lt hl, Nat.le_refl _, hA⟩

set_option maxHeartbeats 1000000 in
/-- cloneBytesCanonB1, not nil. -/
theorem clone_some (b off cap : Nat) (l : List UInt8) (w : World) (hA : At w b off l) (hlen : l.length ≤ 1048576) (ad : Addr) (had : l ≠ [] → ad = ⟨b, off, none⟩) :
    Calls Tryd.prog 8 #[.slice (some ad) l.length cap] w fun e w' => ∃ v', e = .returned v' ∧ Full w'.heap.size w' v' l ∧ Below w.heap.size w w' := by
  have hq := fun w => Lib.run_eql_slice_nil (P := Tryd.prog) w 22 5 (some ad) l.length cap 0 0 Tryd.underlying22
  obtain ⟨i0, hi, hz0, hz1, hz2⟩ := info_parts info5
  go_enter Tryd.func8, Tryd.ntmps8
  go_wp2_with (at_make; refine wpList_make_full w rfl _ _ 22 rfl w.heap.size 5 i0 (.int .u8 0) 1 Tryd.underlying22 hi hz0 hz1 .i64 .i64 _ _ l.length rfl rfl rfl rfl (by rw [hz2]; omega) (by simp only [maxLen]; omega) (Nat.le_refl _) ?_; intro w1 ho1 hg1)
  have hcp := Cp.made l ho1
  have hb1 : Below w.heap.size w w1 := (Below.refl _ _).grown hg1 (Nat.le_refl _) (fun k hk => by cases hk)
  clear ho1 hg1 hi hz0 hz1 hz2 hq
  go_loopw [4] (fun x wr => ∃ k : Nat, k ≤ l.length ∧ x = .int .i64 k ∧ Cp wr w.heap.size l.length l k ∧ Below w.heap.size w wr) (fun x _ => l.length - (intOf x).toNat)
  case atStart => exact ⟨0, by omega, rfl, hcp, hb1⟩
  case round =>
    clear hcp hb1
    obtain ⟨k, hk, rfl, hcp, hb⟩ := hrel
    by_cases hlt : k < l.length
    · have hl : l ≠ [] := fun e => by subst e; simp at hlt
      have had' := had hl
      subst had'
      have hc := hA.below hb (hA.lt hl) k hlt
      obtain ⟨⟨x, hx⟩, _, hf⟩ := hcp k hlt
      clear had
      go_wp2
      go_roundw
      case rel => exact ⟨k + 1, by omega, by go_num, hcp.set hlt rfl, hb.setCell (Nat.le_refl _) _⟩
      case measure => simp [intOf]; omega
    · obtain rfl : k = l.length := by omega
      go_wp2
      go_ret
      exact ⟨_, rfl, hcp.full rfl, hb⟩

/-- cloneBytesCanonB1. -/
theorem clone_any (N : Nat) (v : Value) (l : List UInt8) (w : World) (hr : Rd N w v l) (hlen : l.length ≤ 1048576) :
    Calls Tryd.prog 8 #[v] w fun e w' => ∃ v', e = .returned v' ∧ Full w'.heap.size w' v' l ∧ Below w.heap.size w w' := by
  rcases hr with ⟨rfl, ao, cap, rfl, h0⟩ | ⟨hl, b, off, cap, rfl, hb, _, hA⟩
  · cases ao with
    | none =>
      obtain rfl := h0 rfl
      refine (clone_nil w).mono ?_
      rintro e w' ⟨rfl, rfl⟩
      exact ⟨_, rfl, ⟨.inl ⟨rfl, none, 0, rfl, fun _ => rfl⟩, none, rfl⟩, Below.refl _ _⟩
    | some ad => exact clone_some 0 0 cap [] w (fun j hj => by simp at hj) (by simp) ad (fun h => absurd rfl h)
  · exact clone_some b off cap l w hA hlen _ (fun _ => rfl)

set_option maxHeartbeats 1000000 in
/-- sameBytesCanonB1 at one and the same bytes. -/
theorem same_any (N M : Nat) (u v : Value) (l : List UInt8) (w : World) (hu : Rd N w u l) (hv : Rd M w v l) (hlen : l.length ≤ 1099511627776) :
    Calls Tryd.prog 11 #[u, v] w fun e w' => e = .returned (.bool true) ∧ ∃ n, w' = w.drewN n := by
  by_cases hl : l = []
  · subst hl
    rcases hu with ⟨_, ao, cap, rfl, _⟩ | ⟨h, _⟩
    · rcases hv with ⟨_, ao', cap', rfl, _⟩ | ⟨h, _⟩
      · go_enter Tryd.func11, Tryd.ntmps11
        go_wp2
        refine wp_loop_rounds 1 ?_
        rw [rounds_succ]
        go_wp2
        go_ret
        exact ⟨rfl, 0, rfl⟩
      · exact absurd rfl h
    · exact absurd rfl h
  · rcases hu with ⟨h, _⟩ | ⟨_, b, off, cap, rfl, _, _, hA⟩
    · exact absurd h hl
    · rcases hv with ⟨h, _⟩ | ⟨_, b', off', cap', rfl, _, _, hA'⟩
      · exact absurd h hl
      · go_enter Tryd.func11, Tryd.ntmps11
        go_wp2
        go_loopw [5] (fun x wr => ∃ k n : Nat, k ≤ l.length ∧ x = .int .i64 k ∧ wr = w.drewN n) (fun x _ => l.length - (intOf x).toNat)
        case atStart => exact ⟨0, 0, by omega, rfl, rfl⟩
        case round =>
          obtain ⟨k, n, hk, rfl, rfl⟩ := hrel
          by_cases hlt : k < l.length
          · have c0 := hA k hlt
            have c1 := hA' k hlt
            have i0 : (k : Int) < (l.length : Int) := by omega
            go_wp2
            go_quiet (fail)
            go_wp2
            go_roundw
            case rel => exact ⟨k + 1, n + nq, by omega, by go_num, by simp [World.drewN]⟩
            case measure => simp [intOf]; omega
          · go_wp2
            go_ret
            exact ⟨rfl, n, rfl⟩

set_option maxHeartbeats 1000000 in
/-- appendZeros. -/
theorem zeros_any (B : Nat) (v : Value) (l : List UInt8) (m : Nat) (w : World) (ho : Ow B w v l) (hB : B ≤ w.heap.size) (hlen : l.length + m ≤ 1099511627776) :
    Calls Tryd.prog 22 #[v, .int .i64 m] w fun e w' => ∃ v', e = .returned v' ∧ Ow B w' v' (l ++ List.replicate m 48) ∧ Below B w w' := by
  go_enter Tryd.func22, Tryd.ntmps22
  go_wp2
  go_loopw [0, 6] (fun x y wr => ∃ k : Nat, k ≤ m ∧ y = .int .i64 k ∧ Ow B wr x (l ++ List.replicate k 48) ∧ Below B w wr) (fun _ y _ => m - (intOf y).toNat)
  case atStart => exact ⟨0, by omega, rfl, by simpa using ho, Below.refl _ _⟩
  case round =>
    obtain ⟨k, hk, rfl, hx, hb⟩ := hrel
    have hBr : B ≤ wr.heap.size := Nat.le_trans hB hb.size
    by_cases hlt : k < m
    · go_wp2_with (at_builtin; refine wpList_app1 rfl _ _ rfl B _ _ rfl (.inl hx) hBr 48 48 rfl rfl (by simp; omega) ?_; intro v1 w1 o1 b1)
      go_roundw
      case rel => exact ⟨k + 1, by omega, by go_num, by rw [List.replicate_succ', ← List.append_assoc]; exact o1, hb.trans b1⟩
      case measure => simp [intOf]; omega
    · obtain rfl : k = m := by omega
      go_wp2
      go_ret
      exact ⟨_, rfl, hx, hb⟩

end Go.Proofs.Qxb6604065aDoor
