/-
  The walks of hasPrefix and its shim.
-/
import Derived.Test.Qxb6604188aSmall
import Derived.Laws.Rows
namespace Go.Proofs.Qxb6604188a
open Go.RowKit

theorem toList_inj {a b : ByteArray} (h : a.toList = b.toList) : a = b := by
  rw [ByteArray.toList_eq, ByteArray.toList_eq] at h
  exact WideShapes.bytes_inj h
theorem toList_ne {a b : ByteArray} (h : ¬ a = b) : (a.toList == b.toList) = false := beq_eq_false_iff_ne.mpr fun e => h (toList_inj e)
/-- A version, as a value. -/
def ver (x : ByteArray) (e : ByteArray) (r : Value) (k : Int) (p : ByteArray) (hp : Bool) (q : ByteArray) (hd : Bool) (d : ByteArray) (l : Value) : Value :=
  .agg #[.string x, .string e, r, .int .i64 k, .string p, .bool hp, .string q, .bool hd, .string d, l]
/-- The answer of hasPrefix. -/
def Hp (ve : ByteArray) (vr : List ByteArray) (e : ByteArray) (r : List ByteArray) : Prop := ve = e ∧ ∀ i, i < r.length → part vr i = st r i
/-- What is returned. -/
def RetH (ve : ByteArray) (vr : List ByteArray) (e : ByteArray) (r : List ByteArray) (en : Ending) : Prop := (Hp ve vr e r ∧ en = .returned (.bool true)) ∨ (¬ Hp ve vr e r ∧ en = .returned (.bool false))

set_option maxRecDepth 100000 in
set_option maxHeartbeats 1000000 in
theorem prefix_any (x ve : ByteArray) (vR : Value) (k : Int) (p : ByteArray) (hp : Bool) (q : ByteArray) (hd : Bool) (d : ByteArray) (vL : Value) (e : ByteArray) (v : Value) (vr r : List ByteArray) (w : World) (hR : Rd w.heap.size w vR vr) (hr : Rd w.heap.size w v r) (hlen : r.length ≤ 1048576) :
    Calls Try.prog 11 #[ver x ve vR k p hp q hd d vL, .string e, v] w fun en w' => RetH ve vr e r en ∧ Below w.heap.size w w' := by
  obtain ⟨ao, cap, rfl, h0, hA⟩ := hr.form
  obtain ⟨aR, cR, rfl, _, _⟩ := hR.form
  by_cases he : ve = e
  · subst he
    unfold ver
    go_enter Try.func11, Try.ntmps11
    go_wp2
    have hb := (Below.refl w.heap.size w).alloc (Nat.le_refl _) (.cells #[.string x, .string ve, .slice aR vr.length cR, .int .i64 k, .string p, .bool hp, .string q, .bool hd, .string d, vL] 29)
    have hR' := hR.below hb
    go_loopw [15] (fun x wr => ∃ i : Nat, x = .int .i64 i ∧ i ≤ r.length ∧ Hid (∀ j, j < i → part vr j = st r j) ∧ _ = wr) (fun x _ => r.length - (intOf x).toNat)
    case atStart => exact ⟨0, rfl, by omega, (by show ∀ _, _; intro j hj; omega), rfl⟩
    case round =>
      obtain ⟨i, rfl, hi, hpre, rfl⟩ := hrel
      by_cases hlt : i < r.length
      · obtain ⟨b, off, rfl, hbl, _, hA'⟩ := hA (fun e => by rw [e] at hlt; simp at hlt)
        have hc := (hA'.below hb hbl) i hlt
        by_cases hq : part vr i = st r i
        · have HQ : Hid (∀ j, j < i + 1 → part vr j = st r j) := by
            show ∀ _, _
            intro j hj
            by_cases e : j = i
            · rw [e]; exact hq
            · exact hpre.out j (by omega)
          go_wp2_with (go_at_call 12; refine (part_any _ _ vr i _ hR').mono ?_; rintro e w' ⟨rfl, rfl⟩; rw [hq])
          go_roundw
          case rel => exact ⟨i + 1, by go_num, by omega, HQ, by simp⟩
          case measure => simp [intOf]; omega
        · have hqb := toList_ne hq
          go_wp2_with (go_at_call 12; refine (part_any _ _ vr i _ hR').mono ?_; rintro e w' ⟨rfl, rfl⟩)
          go_ret
          exact ⟨.inr ⟨fun h => hq (h.2 i hlt), rfl⟩, hb⟩
      · obtain rfl : i = r.length := by omega
        go_wp2
        go_ret
        exact ⟨.inl ⟨⟨rfl, hpre.out⟩, rfl⟩, hb⟩
  · have hb := toList_ne he
    unfold ver
    go_enter Try.func11, Try.ntmps11
    go_wp2
    go_ret
    exact ⟨.inr ⟨fun h => he h.1, rfl⟩, (Below.refl _ _).alloc (Nat.le_refl _) _⟩

set_option maxRecDepth 100000 in
set_option maxHeartbeats 1000000 in
theorem zprefix_any (x ve : ByteArray) (vR : Value) (k : Int) (p : ByteArray) (hp : Bool) (q : ByteArray) (hd : Bool) (d : ByteArray) (vL : Value) (e : ByteArray) (v : Value) (vr r : List ByteArray) (w : World) (hR : Rd w.heap.size w vR vr) (hr : Rd w.heap.size w v r) (hlen : r.length ≤ 1048576) (hL : ∃ ao n c, vL = .slice ao n c) :
    Calls Try.prog 10 #[ver x ve vR k p hp q hd d vL, .string e, v] w fun en w' => RetH ve vr e r en ∧ Below w.heap.size w w' := by
  obtain ⟨aR, cR, rfl, _, _⟩ := hR.form
  obtain ⟨aL, nL, cL, rfl⟩ := hL
  have hb := (Below.refl w.heap.size w).alloc (Nat.le_refl _) (.cells #[.string x, .string ve, .slice aR vr.length cR, .int .i64 k, .string p, .bool hp, .string q, .bool hd, .string d, .slice aL nL cL] 29)
  have hs := hb.size
  have hR' := (hR.below hb).mono hs
  have hr' := (hr.below hb).mono hs
  unfold ver
  go_enter Try.func10, Try.ntmps10
  go_wp2_with (go_at_call 11; refine (prefix_any x ve _ k p hp q hd d (.slice aL nL cL) e v vr r _ hR' hr' hlen).mono ?_; rintro en w' ⟨h1, h2⟩; rcases h1 with ⟨h1, rfl⟩ | ⟨h1, rfl⟩)
  all_goals go_ret
  · exact ⟨.inl ⟨h1, rfl⟩, hb.trans (h2.mono hs)⟩
  · exact ⟨.inr ⟨h1, rfl⟩, hb.trans (h2.mono hs)⟩

set_option maxRecDepth 100000 in
set_option maxHeartbeats 1000000 in
theorem make_any (x ve : ByteArray) (aR : Option Addr) (nR cR : Nat) (k : Int) (p : ByteArray) (hp : Bool) (q : ByteArray) (hd : Bool) (d : ByteArray) (aL : Option Addr) (nL cL : Nat) (w : World) :
    Calls Try.prog 9 #[.string x, .string ve, .slice aR nR cR, .int .i64 k, .string p, .bool hp, .string q, .bool hd, .string d, .slice aL nL cL] w fun en w' => en = .returned (ver x ve (.slice aR nR cR) k p hp q hd d (.slice aL nL cL)) ∧ Below w.heap.size w w' := by
  go_enter Try.func9, Try.ntmps9
  go_wp2
  exact bodyPost_ret (results_cell_row (p := 20) (ty := 29) rfl _ _ w.heap.size 29 _ (0, 0) _ rfl (heap_alloc_new w _) Try.underlying29 rfl (by kernel_rfl)) rfl ⟨rfl, (Below.refl _ _).alloc (Nat.le_refl _) _⟩

set_option maxRecDepth 100000 in
set_option maxHeartbeats 1000000 in
theorem vbytes_any (x e p q d : ByteArray) (v v' : Value) (l l' : List ByteArray) (N N' : Nat) (w : World) (hr : Rd N w v l) (hr' : Rd N' w v' l') :
    Calls Try.prog 5 #[.string x, .string e, v, .string p, .string q, .string d, v'] w fun en w' => RetI en ∧ w = w' := by
  go_enter Try.func5, Try.ntmps5
  go_wp2_with (first
    | (go_at_call 6; refine (add_any _ _ _).mono ?_; rintro e w' ⟨⟨r0, rfl⟩, rfl⟩)
    | (go_at_call 7; have _ := f1; refine (addList_any N' _ v' l' _ hr').mono ?_; rintro e w' ⟨⟨r0, rfl⟩, rfl⟩)
    | (go_at_call 7; refine (addList_any N _ v l _ hr).mono ?_; rintro e w' ⟨⟨r0, rfl⟩, rfl⟩; have f1 : True := trivial))
  go_ret
  exact ⟨⟨_, rfl⟩, rfl⟩

end Go.Proofs.Qxb6604188a
