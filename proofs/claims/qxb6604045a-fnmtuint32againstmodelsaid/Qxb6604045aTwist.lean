/-
  The walks of twist and uint32.
-/
import Derived.Test.Qxb6604045aProg
import Derived.Test.Qxb6604045aMem
import Derived.WalkSpells
import Derived.WalkLawsBesides
import Derived.Deep.QuietTactic
import Derived.BigQuiet
namespace Go.Proofs.Qxb6604045a
open Go.RowKit
attribute [local go_sem] ui_and ui_or ui_xor ui_and_up ui_and_lo ui_and_1 ui_or_1 ui_xor_m ui_m_and ui_and_b ui_and_c ui_shr1 ui_shr5 ui_shr11 ui_shr18 ui_shr22 ui_shr30 ui_shl1 ui_shl7 ui_shl15 ui_zero

theorem rel_twist {wr : World} {b k : Nat} {s : Nat → BitVec 32} {nx : Int} (h : MT wr b (tw k s) nx) (hk : k < 624) (n : Nat) {v : Int}
    (hv : v = ui (tword (tw k s k) (tw k s ((k + 1) % 624)) (tw k s ((k + 397) % 624)))) : MT ((wr.drewN n).setCell ⟨b, k, none⟩ (.int .u32 v)) b (tw (k + 1) s) nx := by
  subst hv
  exact (h.drewN n).set k hk _
theorem tword_odd {a b c : BitVec 32} (h : (ui ((a &&& 2147483648#32 ||| b &&& 2147483647#32) &&& 1#32) != 0) = true) :
    ui (c ^^^ (a &&& 2147483648#32 ||| b &&& 2147483647#32) >>> 1 ^^^ 2567483615#32) = ui (tword a b c) := by
  unfold tword
  rw [bne, ui_zero] at h
  rw [if_neg (by simpa using h)]
theorem tword_even {a b c : BitVec 32} (h : (ui ((a &&& 2147483648#32 ||| b &&& 2147483647#32) &&& 1#32) != 0) = false) :
    ui (c ^^^ (a &&& 2147483648#32 ||| b &&& 2147483647#32) >>> 1) = ui (tword a b c) := by
  unfold tword
  rw [bne, ui_zero] at h
  rw [if_pos (by simpa using h)]

set_option maxRecDepth 100000 in
set_option maxHeartbeats 400000 in
theorem twist_any (b : Nat) (s : Nat → BitVec 32) (nx : Int) (w : World) (h : MT w b s nx) :
    Calls Try.prog 18 #[.pointer (some ⟨b, 0, none⟩)] w fun e w' => e = .returned (.tuple #[]) ∧ MT w' b (twist s) 0 ∧ Only b w w' := by
  go_enter Try.func18, Try.ntmps18
  go_wp2
  go_loopw [9] (fun i wr => ∃ k : Nat, k ≤ 624 ∧ i = .int .i64 k ∧ MT wr b (tw k s) nx ∧ Only b w wr) (fun i _ => 624 - (intOf i).toNat)
  case atStart => exact ⟨0, Nat.zero_le _, rfl, h, Only.refl _ _⟩
  case round =>
    obtain ⟨k, hk, rfl, hm, ho⟩ := hrel
    by_cases hlt : k < 624
    · have c0 := hm.1.cell hlt
      have f0 := hm.1.free hlt
      have c1 := hm.1.cell (j := (k + 1) % 624) (Nat.mod_lt _ (by omega))
      have c2 := hm.1.cell (j := (k + 397) % 624) (Nat.mod_lt _ (by omega))
      go_wp2
      go_quiet (fail)
      go_wp2
      all_goals
        go_roundw
        case rel => exact ⟨k + 1, by omega, by go_num, rel_twist hm hlt nq (by first | exact tword_odd ‹_› | exact tword_even ‹_›), (ho.drewN nq).setCell _ _⟩
        case measure => simp [intOf]; omega
    · have c3 := hm.2.1
      have f3 := hm.2.2
      obtain rfl : k = 624 := by omega
      go_wp2
      go_end0
      exact ⟨rfl, hm.setNext 0, ho.setCell _ _⟩

/-- uint32 where a word is left. -/
theorem uint32_lt (b : Nat) (s : Nat → BitVec 32) (nx : Nat) (hn : nx < 624) (w : World) (h : MT w b s nx) :
    Calls Try.prog 17 #[.pointer (some ⟨b, 0, none⟩)] w fun e w' => e = .returned (.int .u32 (ui (temper (s nx)))) ∧ MT w' b s (nx + 1) ∧ Only b w w' := by
  have c1 := h.1.cell hn
  have c2 := h.2.1
  have f2 := h.2.2
  go_enter Try.func17, Try.ntmps17
  go_wp2
  go_quiet (fail)
  go_wp2
  go_ret
  exact ⟨rfl, (h.drewN nq).setNext _, ((Only.refl b w).drewN nq).setCell _ _⟩

/-- uint32 where the words are spent. -/
theorem uint32_eq (b : Nat) (s : Nat → BitVec 32) (w : World) (h : MT w b s 624) :
    Calls Try.prog 17 #[.pointer (some ⟨b, 0, none⟩)] w fun e w' => e = .returned (.int .u32 (ui (temper (twist s 0)))) ∧ MT w' b (twist s) 1 ∧ Only b w w' := by
  have c2 := h.2.1
  go_enter Try.func17, Try.ntmps17
  go_wp2_with (go_at_call 18; refine (twist_any b s 624 w h).mono ?_; rintro e w' ⟨rfl, hm, ho⟩; have d1 := hm.1.cell (j := 0) (by omega); have d2 := hm.2.1; have d3 := hm.2.2)
  go_quiet (fail)
  go_wp2
  go_ret
  exact ⟨rfl, (hm.drewN nq).setNext _, (ho.drewN nq).setCell _ _⟩

end Go.Proofs.Qxb6604045a
