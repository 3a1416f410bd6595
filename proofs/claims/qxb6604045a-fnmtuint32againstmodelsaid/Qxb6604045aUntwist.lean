/-
  The walks of the shims and of the untwist.
-/
import Derived.Test.Qxb6604045aTwist
import Derived.Test.Qxb6604045aArr
namespace Go.Proofs.Qxb6604045a
open Go.RowKit
attribute [local go_sem] ui_and ui_or ui_xor ui_and_up ui_and_lo ui_and_1 ui_or_1 ui_xor_m ui_m_and ui_and_b ui_and_c ui_shr1 ui_shr5 ui_shr11 ui_shr18 ui_shr22 ui_shr30 ui_shl1 ui_shl7 ui_shl15 ui_zero

set_option maxRecDepth 100000 in
set_option maxHeartbeats 400000 in
/-- ZZMakeMersenneTwister. -/
theorem make_any (s : Nat → BitVec 32) (nx : Int) (w : World) :
    Calls Try.prog 8 #[.agg (words 624 s), .int .i64 nx] w fun e w' => e = .returned (.pointer (some ⟨w.heap.size + 1, 0, none⟩)) ∧ MT w' (w.heap.size + 1) s nx ∧ Below w.heap.size w w' ∧ w'.heap.size = w.heap.size + 2 := by
  go_enter Try.func8, Try.ntmps8
  go_wp2_with (first
    | (refine wpList_box_words rfl 23 _ rfl 624 s rfl ?_; intro w1 r1 n1)
    | (refine wpList_load_words rfl 23 _ rfl w.heap.size rfl 624 624 22 s r1 (Nat.le_refl _) Try.underlying23 info23 ?_)
    | (refine wpList_build_mt rfl _ _ rfl s nx rfl rfl ?_)
    | (refine wpList_box_mt rfl 40 _ rfl s nx rfl ?_; intro w2 r2 n2))
  go_ret
  have hz := n1.size
  rw [hz] at r2
  exact ⟨by rw [hz]; rfl, r2, n1.below.trans (n2.below.mono (by omega)), by rw [n2.size, hz]⟩

set_option maxRecDepth 100000 in
set_option maxHeartbeats 400000 in
/-- ZZMTTwist. -/
theorem ztwist_any (b : Nat) (s : Nat → BitVec 32) (nx : Int) (w : World) (h : MT w b s nx) :
    Calls Try.prog 14 #[.pointer (some ⟨b, 0, none⟩)] w fun e w' => e = .returned (.tuple #[]) ∧ MT w' b (twist s) 0 ∧ Only b w w' := by
  go_enter Try.func14, Try.ntmps14
  go_wp2_with (go_at_call 18; refine (twist_any b s nx w h).mono ?_; rintro e w' ⟨rfl, hm, ho⟩)
  go_end0
  exact ⟨rfl, hm, ho⟩

set_option maxRecDepth 100000 in
set_option maxHeartbeats 400000 in
/-- ZZMTState. -/
theorem zstate_any (b : Nat) (s : Nat → BitVec 32) (nx : Int) (w : World) (h : MT w b s nx) :
    Calls Try.prog 10 #[.pointer (some ⟨b, 0, none⟩)] w fun e w' => e = .returned (.agg (words 624 s)) ∧ New w w' := by
  have hlt := h.lt
  go_enter Try.func10, Try.ntmps10
  go_wp2_with (first
    | (refine wpList_alloc_words rfl 23 rfl 624 zero23 ?_; intro w1 r1 n1; have m1 := h.ofBlock (n1.below.block b hlt))
    | (refine wpList_load_words rfl 23 _ rfl b rfl 624 624 22 s m1.1 (Nat.le_refl _) Try.underlying23 info23 ?_)
    | (refine wpList_store_words rfl 23 _ _ rfl w.heap.size rfl 624 s _ rfl r1 info23 ?_; intro w2 r2 o2))
  refine bodyPost_ret (v := .agg (words 624 s)) (results_words Try.results10 _ _ w.heap.size 624 624 22 s rfl r2 (Nat.le_refl _) Try.underlying23 info23) rfl ⟨rfl, ?_, ?_⟩
  · exact n1.below.trans (o2.below (Nat.le_refl _))
  · rw [o2.size, n1.size]

theorem uy_odd {v : BitVec 32} (h : (ui (v &&& 2147483648#32) != 0) = true) : uy v = ((v ^^^ 2567483615#32) <<< 1) ||| 1#32 := by
  unfold uy
  rw [bne, ui_zero] at h
  rw [if_neg (by simpa using h)]
theorem uy_even {v : BitVec 32} (h : (ui (v &&& 2147483648#32) != 0) = false) : uy v = v <<< 1 := by
  unfold uy
  rw [bne, ui_zero] at h
  rw [if_pos (by simpa using h)]
theorem umix_ge {t s : Nat → BitVec 32} {i : Nat} (h : 227 ≤ i) : umix t s i = t (i - 227) := if_pos h
theorem umix_lt {t s : Nat → BitVec 32} {i : Nat} (h : ¬ 227 ≤ i) : umix t s i = s (i + 397) := if_neg h
theorem rel_un {wr : World} {g k i : Nat} {t : Nat → BitVec 32} (hS : Row wr g 624 (un t k)) (hk : i + 1 + k = 624) (h1 : i + 1 < 624) {v1 v2 : Int}
    (e1 : v1 = ui ((un t k i &&& 2147483647#32) ||| (uy (t i ^^^ umix t (un t k) i) &&& 2147483648#32)))
    (e2 : v2 = ui ((un t k (i + 1) &&& 2147483648#32) ||| (uy (t i ^^^ umix t (un t k) i) &&& 2147483647#32))) :
    Row ((wr.setCell ⟨g, i, none⟩ (.int .u32 v1)).setCell ⟨g, i + 1, none⟩ (.int .u32 v2)) g 624 (un t (k + 1)) := by
  subst e1; subst e2
  refine ((hS.set i (by omega) _).set (i + 1) h1 _).congr (fun j _ => ?_)
  rw [un, show 623 - k = i by omega, ustep, if_pos h1, upd_other _ _ (show i + 1 ≠ i by omega)]
theorem rel_un_last {wr : World} {g k i : Nat} {t : Nat → BitVec 32} (hS : Row wr g 624 (un t k)) (hk : i + 1 + k = 624) (h1 : ¬ i + 1 < 624) {v1 : Int}
    (e1 : v1 = ui ((un t k i &&& 2147483647#32) ||| (uy (t i ^^^ umix t (un t k) i) &&& 2147483648#32))) :
    Row (wr.setCell ⟨g, i, none⟩ (.int .u32 v1)) g 624 (un t (k + 1)) := by
  subst e1
  refine (hS.set i (by omega) _).congr (fun j _ => ?_)
  rw [un, show 623 - k = i by omega, ustep, if_neg h1]

set_option maxRecDepth 100000 in
set_option maxHeartbeats 1000000 in
/-- zzti1Untwist. -/
theorem untwist_any (t : Nat → BitVec 32) (w : World) :
    Calls Try.prog 15 #[.agg (words 624 t)] w fun e w' => e = .returned (.agg (words 624 (untwist t))) ∧ Below w.heap.size w w' := by
  go_enter Try.func15, Try.ntmps15
  go_wp2_with (first
    | (refine wpList_box_words rfl 23 _ rfl 624 t rfl ?_; intro w1 r1 n1)
    | (have _ := r2; refine wpList_alloc_words rfl 23 rfl 624 zero23 ?_; intro w3 r3 n3)
    | (refine wpList_alloc_words rfl 23 rfl 624 zero23 ?_; intro w2 r2 n2))
  have z1 : Hid (w1.heap.size = w.heap.size + 1) := n1.size
  have z2 : Hid (w2.heap.size = w1.heap.size + 1) := n2.size
  have b3 : Below w.heap.size w w3 := (n1.below.trans (n2.below.mono (by have := z1.out; omega))).trans (n3.below.mono (by have := z1.out; have := z2.out; omega))
  have q1 : Row w3 w.heap.size 624 t := (r1.ofBlock (n2.below.block _ (by have := z1.out; omega))).ofBlock (n3.below.block _ (by have := z1.out; have := z2.out; omega))
  have q2 : Row w3 w1.heap.size 624 (fun _ => 0#32) := r2.ofBlock (n3.below.block _ (by have := z1.out; have := z2.out; omega))
  clear r1 r2 n1 n2 n3
  go_loopw [4] (fun x wr => ∃ m k : Nat, m + k = 624 ∧ x = .int .i64 ((m : Int) - 1) ∧ Row wr w.heap.size 624 t ∧ Row wr w1.heap.size 624 (fun _ => 0#32) ∧ Row wr w2.heap.size 624 (un t k) ∧ Below w.heap.size w wr)
    (fun x _ => (intOf x + 1).toNat)
  case atStart => exact ⟨624, 0, rfl, rfl, q1, q2, r3, b3⟩
  case round =>
    obtain ⟨m, k, hmk, rfl, hT, hR, hS, hb⟩ := hrel
    clear q1 q2 r3 b3
    have g1 : w2.heap.size ≠ w.heap.size := by have := z1.out; have := z2.out; omega
    have g2 : w2.heap.size ≠ w1.heap.size := by have := z2.out; omega
    have g3 : w.heap.size ≤ w2.heap.size := by have := z1.out; have := z2.out; omega
    have g4 : w.heap.size ≤ w1.heap.size := by have := z1.out; omega
    have HK : Hid (m + k = 624) := hmk
    clear hmk
    cases m with
    | zero =>
      obtain rfl : k = 624 := by have := HK.out; omega
      clear HK
      go_wp2_with (first
        | (refine wpList_load_words rfl 23 _ rfl w2.heap.size rfl 624 624 22 (un t 624) hS (Nat.le_refl _) Try.underlying23 info23 ?_)
        | (refine wpList_store_words rfl 23 _ _ rfl w1.heap.size rfl 624 (un t 624) _ rfl hR info23 ?_; intro w5 r5 o5))
      exact bodyPost_ret (v := .agg (words 624 (untwist t))) (results_words Try.results15 _ _ w1.heap.size 624 624 22 (untwist t) rfl r5 (Nat.le_refl _) Try.underlying23 info23) rfl ⟨rfl, hb.trans (o5.below g4)⟩
    | succ i =>
      have hi : i < 624 := by have := HK.out; omega
      rw [show (((i + 1 : Nat) : Int) - 1) = (i : Int) by omega]
      have cT := hT.cell hi
      have cS := hS.cell hi
      have fS := hS.free hi
      by_cases h1 : i + 1 < 624
      · have cS1 := hS.cell h1
        have fS1 := hS.free h1
        by_cases h2 : 227 ≤ i
        · have cM := hT.cell (j := i - 227) (by omega)
          go_wp2
          all_goals
            go_roundw
            case rel => exact ⟨i, k + 1, by have := HK.out; omega, by go_num, (hT.setO g1 _ _).setO g1 _ _, (hR.setO g2 _ _).setO g2 _ _, rel_un hS HK.out h1 (by first | rw [umix_ge h2, uy_odd ‹_›] | rw [umix_ge h2, uy_even ‹_›]) (by first | rw [umix_ge h2, uy_odd ‹_›] | rw [umix_ge h2, uy_even ‹_›]), (hb.setCell g3 _).setCell g3 _⟩
            case measure => simp [intOf]
        · have cM := hS.cell (j := i + 397) (by omega)
          go_wp2
          all_goals
            go_roundw
            case rel => exact ⟨i, k + 1, by have := HK.out; omega, by go_num, (hT.setO g1 _ _).setO g1 _ _, (hR.setO g2 _ _).setO g2 _ _, rel_un hS HK.out h1 (by first | rw [umix_lt h2, uy_odd ‹_›] | rw [umix_lt h2, uy_even ‹_›]) (by first | rw [umix_lt h2, uy_odd ‹_›] | rw [umix_lt h2, uy_even ‹_›]), (hb.setCell g3 _).setCell g3 _⟩
            case measure => simp [intOf]
      · have cM := hT.cell (j := i - 227) (by omega)
        go_wp2
        all_goals
          go_roundw
          case rel => exact ⟨i, k + 1, by have := HK.out; omega, by go_num, hT.setO g1 _ _, hR.setO g2 _ _, rel_un_last hS HK.out h1 (by first | rw [umix_ge (by omega), uy_odd ‹_›] | rw [umix_ge (by omega), uy_even ‹_›]), hb.setCell g3 _⟩
          case measure => simp [intOf]

end Go.Proofs.Qxb6604045a
