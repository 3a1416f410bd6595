/-
  The walks of the flat twist, of the untempering, of next.
-/
import Derived.Test.Qxb6604045aUntwist
import Derived.Test.Qxb6604045aPlainModel
namespace Go.Proofs.Qxb6604045a
open Go.RowKit
attribute [local go_sem] ui_and ui_or ui_xor ui_and_up ui_and_lo ui_and_1 ui_or_1 ui_xor_m ui_m_and ui_and_b ui_and_c ui_shr1 ui_shr5 ui_shr11 ui_shr18 ui_shr22 ui_shr30 ui_shl1 ui_shl7 ui_shl15 ui_zero

theorem Row.copied {wr : World} {b n k : Nat} {f : Nat → BitVec 32} (h : Row wr b n (cpw f k)) (hk : k < n) {v : Int} (hv : v = ui (f k)) : Row (wr.setCell ⟨b, k, none⟩ (.int .u32 v)) b n (cpw f (k + 1)) := by
  subst hv
  exact (h.set k hk _).congr (fun j _ => cpw_step f k j)
theorem ui_neg (x : BitVec 32) : (-(ui x)) % (4294967296 : Int) = ui (0#32 - x) := by
  have := ui_neg1 x
  rwa [Int.zero_sub] at this
theorem mword_val (a b c : BitVec 32) : bits .xor .u32 (ui (c ^^^ (a &&& 2147483648#32 ||| b &&& 2147483647#32) >>> 1))
      (bits .and .u32 2567483615 (-ui ((a &&& 2147483648#32 ||| b &&& 2147483647#32) &&& 1#32) % 4294967296)) = ui (mword a b c) := by
  rw [ui_neg, ui_m_and, ui_xor]; rfl
theorem Row.modeled {wr : World} {b k : Nat} {s : Nat → BitVec 32} (h : Row wr b 1248 (md s k)) (hk : k < 624) {v : Int} (hv : v = ui (mword (md s k k) (md s k (k + 1)) (md s k (k + 397)))) :
    Row (wr.setCell ⟨b, k + 624, none⟩ (.int .u32 v)) b 1248 (md s (k + 1)) := by
  subst hv
  exact h.set (k + 624) (by omega) _

set_option maxRecDepth 100000 in
set_option maxHeartbeats 1000000 in
/-- zzti1TwistModel. -/
theorem model_any (s : Nat → BitVec 32) (w : World) :
    Calls Try.prog 12 #[.agg (words 624 s)] w fun e w' => e = .returned (.agg (words 624 (modeled s))) ∧ Below w.heap.size w w' := by
  go_enter Try.func12, Try.ntmps12
  go_wp2_with (first
    | (refine wpList_box_words rfl 23 _ rfl 624 s rfl ?_; intro w1 r1 n1)
    | (refine wpList_alloc_words rfl 42 rfl 1248 zero42 ?_; intro w3 r3 n3)
    | (refine wpList_alloc_words rfl 23 rfl 624 zero23 ?_; intro w2 r2 n2))
  have z1 : Hid (w1.heap.size = w.heap.size + 1) := n1.size
  have z2 : Hid (w2.heap.size = w1.heap.size + 1) := n2.size
  have b3 : Below w.heap.size w w3 := (n1.below.trans (n2.below.mono (by have := z1.out; omega))).trans (n3.below.mono (by have := z1.out; have := z2.out; omega))
  have q1 : Row w3 w.heap.size 624 s := (r1.ofBlock (n2.below.block _ (by have := z1.out; omega))).ofBlock (n3.below.block _ (by have := z1.out; have := z2.out; omega))
  have q2 : Row w3 w1.heap.size 624 (fun _ => 0#32) := r2.ofBlock (n3.below.block _ (by have := z1.out; have := z2.out; omega))
  have g1 : w2.heap.size ≠ w.heap.size := by have := z1.out; have := z2.out; omega
  have g2 : w2.heap.size ≠ w1.heap.size := by have := z2.out; omega
  have g3 : w.heap.size ≤ w2.heap.size := by have := z1.out; have := z2.out; omega
  have g4 : w.heap.size ≤ w1.heap.size := by have := z1.out; omega
  clear r1 r2 n1 n2 n3
  go_loopw [4] (fun x wr => ∃ k : Nat, k ≤ 624 ∧ x = .int .i64 k ∧ Row wr w.heap.size 624 s ∧ Row wr w1.heap.size 624 (fun _ => 0#32) ∧ Row wr w2.heap.size 1248 (cpw s k) ∧ Below w.heap.size w wr)
    (fun x _ => 624 - (intOf x).toNat)
  case atStart => exact ⟨0, by omega, rfl, q1, q2, r3.congr (fun j _ => (cpw_zero s j).symm), b3⟩
  case round =>
    obtain ⟨k, hk, rfl, hT, hR, hS, hb⟩ := hrel
    clear q1 q2 r3 b3
    by_cases hlt : k < 624
    · have cT := hT.cell hlt
      have cS := hS.cell (j := k) (by omega)
      have fS := hS.free (j := k) (by omega)
      go_wp2
      go_roundw
      case rel => exact ⟨k + 1, by omega, by go_num, hT.setO g1 _ _, hR.setO g2 _ _, hS.copied (by omega) rfl, hb.setCell g3 _⟩
      case measure => simp [intOf]; omega
    · obtain rfl : k = 624 := by omega
      go_wp2
      go_loopw [5] (fun x wr => ∃ k : Nat, k ≤ 624 ∧ x = .int .i64 k ∧ Row wr w1.heap.size 624 (fun _ => 0#32) ∧ Row wr w2.heap.size 1248 (md s k) ∧ Below w.heap.size w wr)
        (fun x _ => 624 - (intOf x).toNat)
      case atStart => exact ⟨0, by omega, rfl, hR, hS, hb⟩
      case round =>
        clear hT hR hS hb
        obtain ⟨k, hk, rfl, hR, hS, hb⟩ := hrel
        by_cases hlt : k < 624
        · have c0 := hS.cell (j := k) (by omega)
          have c1 := hS.cell (j := k + 1) (by omega)
          have c2 := hS.cell (j := k + 397) (by omega)
          have c3 := hS.cell (j := k + 624) (by omega)
          have f3 := hS.free (j := k + 624) (by omega)
          go_wp2
          go_quiet (fail)
          go_wp2
          go_roundw
          case rel => exact ⟨k + 1, by omega, by go_num, (hR.drewN nq).setO g2 _ _, (hS.drewN nq).modeled hlt (mword_val _ _ _), (below_drewN hb nq).setCell g3 _⟩
          case measure => simp [intOf]; omega
        · obtain rfl : k = 624 := by omega
          have hz : Hid (w2.heap.size < wr.heap.size) := hS.lt (by omega)
          go_wp2_with (refine wpList_alloc_words rfl 23 rfl 624 zero23 ?_; intro w5 r5 n5)
          have hR5 : Row w5 w1.heap.size 624 (fun _ => 0#32) := hR.ofBlock (n5.below.block _ (hR.lt (by omega)))
          have hS5 : Row w5 w2.heap.size 1248 (md s 624) := hS.ofBlock (n5.below.block _ (hS.lt (by omega)))
          have hb5 : Below w.heap.size w w5 := hb.trans (n5.below.mono (by have := hz.out; omega))
          have g5 : wr.heap.size ≠ w1.heap.size := Nat.ne_of_gt (hR.lt (by omega))
          have g6 : wr.heap.size ≠ w2.heap.size := Nat.ne_of_gt hz.out
          have g7 : w.heap.size ≤ wr.heap.size := by have := hz.out; omega
          clear hR hS hb n5 hz
          generalize hN3 : wr.heap.size = N3 at *
          clear hN3
          go_loopw [8] (fun x wr => ∃ k : Nat, k ≤ 624 ∧ x = .int .i64 k ∧ Row wr w1.heap.size 624 (fun _ => 0#32) ∧ Row wr w2.heap.size 1248 (md s 624) ∧ Row wr N3 624 (cpw (modeled s) k) ∧ Below w.heap.size w wr)
            (fun x _ => 624 - (intOf x).toNat)
          case atStart => exact ⟨0, by omega, rfl, hR5, hS5, r5.congr (fun j _ => (cpw_zero _ j).symm), hb5⟩
          case round =>
            clear hR5 hS5 hb5 r5
            obtain ⟨k, hk, rfl, hR, hS, hO, hb⟩ := hrel
            by_cases hlt : k < 624
            · have c0 := hS.cell (j := k + 624) (by omega)
              have c1 := hO.cell (j := k) (by omega)
              have f1 := hO.free (j := k) (by omega)
              go_wp2
              go_roundw
              case rel => exact ⟨k + 1, by omega, by go_num, hR.setO g5 _ _, hS.setO g6 _ _, hO.copied (by omega) rfl, hb.setCell g7 _⟩
              case measure => simp [intOf]; omega
            · obtain rfl : k = 624 := by omega
              have hO' : Row wr N3 624 (modeled s) := hO.congr (fun j hj => cpw_all _ hj)
              clear hO
              go_wp2_with (first
                | (refine wpList_load_words rfl 23 _ rfl N3 rfl 624 624 22 (modeled s) hO' (Nat.le_refl _) Try.underlying23 info23 ?_)
                | (refine wpList_store_words rfl 23 _ _ rfl w1.heap.size rfl 624 (modeled s) _ rfl hR info23 ?_; intro w8 r8 o8))
              exact bodyPost_ret (v := .agg (words 624 (modeled s))) (results_words Try.results12 _ _ w1.heap.size 624 624 22 (modeled s) rfl r8 (Nat.le_refl _) Try.underlying23 info23) rfl ⟨rfl, hb.trans (o8.below g4)⟩

set_option maxRecDepth 100000 in
set_option maxHeartbeats 400000 in
/-- zzti1Untemper. -/
theorem untemper_any (y : BitVec 32) (w : World) : Calls Try.prog 13 #[.int .u32 (ui y)] w fun e w' => e = .returned (.int .u32 (ui (untemper y))) ∧ w' = w := by
  go_enter Try.func13, Try.ntmps13
  go_wp2
  go_loop [3, 4] (fun t x => ∃ k : Nat, k ≤ 4 ∧ x = .int .i64 k ∧ t = .int .u32 (ui (untemper2 (untemper3 (untemper4 y)) k))) (fun _ x => 4 - (intOf x).toNat)
  case atStart => exact ⟨0, by omega, rfl, rfl⟩
  case round =>
    obtain ⟨k, hk, rfl, rfl⟩ := hrel
    by_cases hlt : k < 4
    · go_wp2
      go_round
      case rel => exact ⟨k + 1, by omega, by go_num, rfl⟩
      case measure => simp [intOf]; omega
    · obtain rfl : k = 4 := by omega
      go_wp2
      go_ret
      exact ⟨rfl, rfl⟩

set_option maxRecDepth 100000 in
set_option maxHeartbeats 400000 in
/-- ZZMTNext. -/
theorem znext_any (b : Nat) (s : Nat → BitVec 32) (nx : Int) (w : World) (h : MT w b s nx) :
    Calls Try.prog 11 #[.pointer (some ⟨b, 0, none⟩)] w fun e w' => e = .returned (.int .i64 nx) ∧ w' = w := by
  have c := h.2.1
  go_enter Try.func11, Try.ntmps11
  go_wp2
  go_ret
  exact ⟨rfl, rfl⟩

end Go.Proofs.Qxb6604045a
