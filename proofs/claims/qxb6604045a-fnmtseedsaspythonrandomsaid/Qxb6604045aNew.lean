/-
  The walk of newMersenneTwister: what seeding lays.
-/
import Derived.Test.Qxb6604045aTwist
import Derived.Test.Qxb6604045aArr
import Derived.BigRegion
import Derived.RegionTactic
namespace Go.Proofs.Qxb6604045a
open Go.RowKit
attribute [local go_sem] ui_and ui_or ui_xor ui_and_up ui_and_lo ui_and_1 ui_or_1 ui_xor_m ui_m_and ui_and_b ui_and_c ui_shr1 ui_shr5 ui_shr11 ui_shr18 ui_shr22 ui_shr30 ui_shl1 ui_shl7 ui_shl15 ui_zero ui_add ui_addn ui_subn ui_mul_i ui_mul_a ui_mul_b

theorem idx_bd (i k : Nat) (h0 : 1 ≤ i) (h1 : i < 624) : 1 ≤ idx i k ∧ idx i k < 624 := by
  induction k with
  | zero => exact ⟨h0, h1⟩
  | succ k ih => rw [idx, wrapI]; split <;> omega
theorem idx_step {i0 i k : Nat} (h : i = idx i0 k) (hn : ¬ i + 1 = 624) : i + 1 = idx i0 (k + 1) := by rw [idx, ← h, wrapI, if_neg hn]
theorem idx_wrap {i0 k : Nat} (h : 623 = idx i0 k) : 1 = idx i0 (k + 1) := by rw [idx, ← h]; rfl
theorem idx_624 : ∀ k, k ≤ 622 → idx 1 k = k + 1
  | 0, _ => rfl
  | k + 1, h => by rw [idx, idx_624 k (by omega), wrapI, if_neg (by omega)]
theorem idx_two : idx 1 624 = 2 := by
  have h : idx 1 622 = 623 := idx_624 622 (by omega)
  rw [show (624 : Nat) = 622 + 1 + 1 from rfl, idx, idx, h]; rfl

theorem rel_ini {wr : World} {B k : Nat} (hm : MT wr B (ini k) 624) (hk : k < 623) {v : Int} (hv : v = ui (1812433253#32 * mixf (ini k k) + BitVec.ofNat 32 (k + 1))) :
    MT (wr.setCell ⟨B, k + 1, none⟩ (.int .u32 v)) B (ini (k + 1)) 624 := by
  subst hv
  exact hm.set (k + 1) (by omega) _
theorem ini_val (x : BitVec 32) (k : Nat) : (ui (1812433253#32 * (x ^^^ x >>> 30)) + ((k : Int) + 1)) % 4294967296 = ui (1812433253#32 * mixf x + BitVec.ofNat 32 (k + 1)) := by
  rw [show ((k : Int) + 1) = ((k + 1 : Nat) : Int) by omega, ui_addn]; rfl

section
variable {wr : World} {B k i : Nat} {s0 : Nat → BitVec 32} {seed : BitVec 32} {v : Int}
theorem rel_A (hm : MT wr B (sA seed s0 k) 624) (hi : i = idx 1 k) (hl : i < 624) (hn : ¬ i + 1 = 624) (hv : v = ui ((sA seed s0 k i ^^^ (mixf (sA seed s0 k (i - 1)) * 1664525#32)) + seed)) :
    MT (wr.setCell ⟨B, i, none⟩ (.int .u32 v)) B (sA seed s0 (k + 1)) 624 := by
  subst hv
  refine (hm.set i hl _).congr (fun j _ => ?_)
  rw [sA, ← hi, wrapS, if_neg hn]
theorem rel_A_wrap (hm : MT wr B (sA seed s0 k) 624) (hi : 623 = idx 1 k) (hv : v = ui ((sA seed s0 k 623 ^^^ (mixf (sA seed s0 k 622) * 1664525#32)) + seed)) :
    MT ((wr.setCell ⟨B, 623, none⟩ (.int .u32 v)).setCell ⟨B, 0, none⟩ (.int .u32 v)) B (sA seed s0 (k + 1)) 624 := by
  subst hv
  refine ((hm.set 623 (by omega) _).set 0 (by omega) _).congr (fun j _ => ?_)
  rw [sA, ← hi, wrapS, if_pos rfl, upd_same]
theorem rel_B (hm : MT wr B (sB s0 k) 624) (hi : i = idx 2 k) (hl : i < 624) (hn : ¬ i + 1 = 624) (hv : v = ui ((sB s0 k i ^^^ (mixf (sB s0 k (i - 1)) * 1566083941#32)) - BitVec.ofNat 32 i)) :
    MT (wr.setCell ⟨B, i, none⟩ (.int .u32 v)) B (sB s0 (k + 1)) 624 := by
  subst hv
  refine (hm.set i hl _).congr (fun j _ => ?_)
  rw [sB, ← hi, wrapS, if_neg hn]
theorem rel_B_wrap (hm : MT wr B (sB s0 k) 624) (hi : 623 = idx 2 k) (hv : v = ui ((sB s0 k 623 ^^^ (mixf (sB s0 k 622) * 1566083941#32)) - BitVec.ofNat 32 623)) :
    MT ((wr.setCell ⟨B, 623, none⟩ (.int .u32 v)).setCell ⟨B, 0, none⟩ (.int .u32 v)) B (sB s0 (k + 1)) 624 := by
  subst hv
  refine ((hm.set 623 (by omega) _).set 0 (by omega) _).congr (fun j _ => ?_)
  rw [sB, ← hi, wrapS, if_pos rfl, upd_same]
end

set_option maxRecDepth 100000 in
set_option maxHeartbeats 2000000 in
theorem new_any (seed : BitVec 32) (w : World) :
    Calls Try.prog 19 #[.int .u32 (ui seed)] w fun e w' => e = .returned (.pointer (some ⟨w.heap.size, 0, none⟩)) ∧ MT w' w.heap.size (seeded seed) 624 ∧ Below w.heap.size w w' ∧ w'.heap.size = w.heap.size + 1 := by
  go_enter Try.func19, Try.ntmps19
  go_wp2_with (first
    | (refine wpList_build_new rfl _ rfl rfl ?_)
    | (refine wpList_box_mt rfl 40 _ rfl (fun _ => 0#32) 624 rfl ?_; intro w1 m1 n1; have c1 := m1.1.cell (j := 0) (by omega); have f1 := m1.1.free (j := 0) (by omega)))
  go_loopw [5] (fun x wr => ∃ k : Nat, k ≤ 623 ∧ x = .int .i64 ((k : Int) + 1) ∧ MT wr w.heap.size (ini k) 624 ∧ Only w.heap.size w1 wr) (fun x _ => 624 - (intOf x).toNat)
  case atStart => exact ⟨0, by omega, rfl, m1.set 0 (by omega) 19650218#32, (Only.refl _ _).setCell _ _⟩
  case round =>
    obtain ⟨k, hk, rfl, hm, ho⟩ := hrel
    clear m1 c1 f1
    by_cases hlt : k < 623
    · have c0 := hm.1.cell (j := k) (by omega)
      have d0 := hm.1.cell (j := k + 1) (by omega)
      have f0 := hm.1.free (j := k + 1) (by omega)
      go_wp2
      go_region
      go_wp2
      go_roundw
      case rel => exact ⟨k + 1, by omega, by go_num, (rel_ini hm hlt (ini_val _ _)).drew, (ho.setCell _ _).drew⟩
      case measure => simp [intOf]; omega
    · obtain rfl : k = 623 := by omega
      go_wp2
      go_loopw [6, 41] (fun x y wr => ∃ k : Nat, k ≤ 624 ∧ x = .int .i64 (idx 1 k : Nat) ∧ y = .int .i64 k ∧ MT wr w.heap.size (sA seed (ini 623) k) 624 ∧ Only w.heap.size w1 wr) (fun _ y _ => 624 - (intOf y).toNat)
      case atStart => exact ⟨0, by omega, rfl, rfl, hm, ho⟩
      case round =>
        clear hm ho
        obtain ⟨k, hk, rfl, rfl, hm, ho⟩ := hrel
        by_cases hlt : k < 624
        · have hi := idx_bd 1 k (by omega) (by omega)
          obtain ⟨i, hiq⟩ : ∃ i, i = idx 1 k := ⟨_, rfl⟩
          have HI : Hid (i = idx 1 k) := hiq
          rw [← hiq] at hi ⊢
          clear hiq
          by_cases hn : i + 1 = 624
          · obtain rfl : i = 623 := by omega
            have c0 := hm.1.cell (j := 623) (by omega)
            have d0 := hm.1.cell (j := 622) (by omega)
            have e0 := hm.1.cell (j := 0) (by omega)
            have f0 := hm.1.free (j := 623) (by omega)
            have f1 := hm.1.free (j := 0) (by omega)
            clear hn hi
            go_wp2
            go_region
            go_wp2
            go_region
            go_wp2
            go_roundw
            case rel =>
              refine ⟨k + 1, by omega, by rw [← idx_wrap HI.out]; rfl, by go_num, ?_, ?_⟩
              · exact (rel_A_wrap hm HI.out rfl).drew.drew
              · exact ((ho.setCell _ _).setCell _ _).drew.drew
            case measure => simp [intOf]; omega
          · have c0 := hm.1.cell (j := i) (by omega)
            have d0 := hm.1.cell (j := i - 1) (by omega)
            have f0 := hm.1.free (j := i) (by omega)
            go_wp2
            go_region
            go_wp2
            go_roundw
            case rel =>
              refine ⟨k + 1, by omega, by rw [← idx_step HI.out hn]; go_num, by go_num, ?_, ?_⟩
              · exact (rel_A hm HI.out hi.2 hn rfl).drew
              · exact (ho.setCell _ _).drew
            case measure => simp [intOf]; omega
        · obtain rfl : k = 624 := by omega
          rw [idx_two]
          go_wp2
          go_loopw [6, 82] (fun x y wr => ∃ k : Nat, k ≤ 623 ∧ x = .int .i64 (idx 2 k : Nat) ∧ y = .int .i64 k ∧ MT wr w.heap.size (sB (sA seed (ini 623) 624) k) 624 ∧ Only w.heap.size w1 wr) (fun _ y _ => 623 - (intOf y).toNat)
          case atStart => exact ⟨0, by omega, rfl, rfl, hm, ho⟩
          case round =>
            clear hm ho
            obtain ⟨k, hk, rfl, rfl, hm, ho⟩ := hrel
            by_cases hlt : k < 623
            · have hi := idx_bd 2 k (by omega) (by omega)
              obtain ⟨i, hiq⟩ : ∃ i, i = idx 2 k := ⟨_, rfl⟩
              have HI : Hid (i = idx 2 k) := hiq
              rw [← hiq] at hi ⊢
              clear hiq
              by_cases hn : i + 1 = 624
              · obtain rfl : i = 623 := by omega
                have c0 := hm.1.cell (j := 623) (by omega)
                have d0 := hm.1.cell (j := 622) (by omega)
                have e0 := hm.1.cell (j := 0) (by omega)
                have f0 := hm.1.free (j := 623) (by omega)
                have f1 := hm.1.free (j := 0) (by omega)
                clear hn hi
                go_wp2
                go_region
                go_wp2
                go_region
                go_wp2
                go_roundw
                case rel =>
                  refine ⟨k + 1, by omega, by rw [← idx_wrap HI.out]; rfl, by go_num, ?_, ?_⟩
                  · exact (rel_B_wrap hm HI.out (by first | rfl | exact (ui_subn _ 623))).drew.drew
                  · exact ((ho.setCell _ _).setCell _ _).drew.drew
                case measure => simp [intOf]; omega
              · have c0 := hm.1.cell (j := i) (by omega)
                have d0 := hm.1.cell (j := i - 1) (by omega)
                have f0 := hm.1.free (j := i) (by omega)
                go_wp2
                go_region
                go_wp2
                go_roundw
                case rel =>
                  refine ⟨k + 1, by omega, by rw [← idx_step HI.out hn]; go_num, by go_num, ?_, ?_⟩
                  · exact (rel_B hm HI.out hi.2 hn (by first | rfl | exact (ui_subn _ i))).drew
                  · exact (ho.setCell _ _).drew
                case measure => simp [intOf]; omega
            · obtain rfl : k = 623 := by omega
              have e0 := hm.1.cell (j := 0) (by omega)
              have f1 := hm.1.free (j := 0) (by omega)
              go_wp2
              go_ret
              exact ⟨rfl, hm.set 0 (by omega) 2147483648#32, n1.below.trans ((ho.setCell _ _).below (Nat.le_refl _)), by rw [(ho.setCell _ _).size, n1.size]⟩

end Go.Proofs.Qxb6604045a
