/-
  The guards at the laws' heads, and the copy of the digits.
-/
import Derived.Test.Qxb6604065aDoorDigits
namespace Go.Proofs.Qxb6604065aDoor
open Go.RowKit

set_option maxHeartbeats 400000 in
theorem bytes6_yes (a a' : Option Addr) (n c n' c' : Nat) (p : Int) (w : World) (h : n + n' ≤ 1048576) :
    Calls Tryd.prog 6 #[.slice a n c, .slice a' n' c', .int .i64 p] w fun e w' => e = .returned (.bool true) ∧ w = w' := by
  go_enter Tryd.func6, Tryd.ntmps6
  go_wp2
  go_ret
  exact ⟨rfl, rfl⟩
set_option maxHeartbeats 400000 in
theorem bytes6_no (a a' : Option Addr) (n c n' c' : Nat) (p : Int) (w : World) (h : ¬ n + n' ≤ 1048576) (h0 : n ≤ 9223372036854775807) (h1 : n' ≤ 9223372036854775807) :
    Calls Tryd.prog 6 #[.slice a n c, .slice a' n' c', .int .i64 p] w fun e w' => e = .returned (.bool false) ∧ w = w' := by
  by_cases q : n ≤ 1048576
  · by_cases q' : n' ≤ 1048576
    · go_enter Tryd.func6, Tryd.ntmps6
      go_wp2
      go_ret
      exact ⟨rfl, rfl⟩
    · go_enter Tryd.func6, Tryd.ntmps6
      go_wp2
      go_ret
      exact ⟨rfl, rfl⟩
  · go_enter Tryd.func6, Tryd.ntmps6
    go_wp2
    go_ret
    exact ⟨rfl, rfl⟩
set_option maxHeartbeats 400000 in
theorem bytes12_yes (a a' : Option Addr) (n c n' c' : Nat) (p : Int) (w : World) (h : n + n' ≤ 1048576) :
    Calls Tryd.prog 12 #[.slice a n c, .slice a' n' c', .int .i64 p] w fun e w' => e = .returned (.bool true) ∧ w = w' := by
  go_enter Tryd.func12, Tryd.ntmps12
  go_wp2
  go_ret
  exact ⟨rfl, rfl⟩
set_option maxHeartbeats 400000 in
theorem bytes12_no (a a' : Option Addr) (n c n' c' : Nat) (p : Int) (w : World) (h : ¬ n + n' ≤ 1048576) (h0 : n ≤ 9223372036854775807) (h1 : n' ≤ 9223372036854775807) :
    Calls Tryd.prog 12 #[.slice a n c, .slice a' n' c', .int .i64 p] w fun e w' => e = .returned (.bool false) ∧ w = w' := by
  by_cases q : n ≤ 1048576
  · by_cases q' : n' ≤ 1048576
    · go_enter Tryd.func12, Tryd.ntmps12
      go_wp2
      go_ret
      exact ⟨rfl, rfl⟩
    · go_enter Tryd.func12, Tryd.ntmps12
      go_wp2
      go_ret
      exact ⟨rfl, rfl⟩
  · go_enter Tryd.func12, Tryd.ntmps12
    go_wp2
    go_ret
    exact ⟨rfl, rfl⟩

/-! ### 'copy(zzc, digits)' into the row that has just been made -/
section
variable {ops : Array Oper} {rest : List Oper} {o : Oper} {a : Act} {w : World} {Q : Exit → Act → World → Prop}
theorem size5 : (Tryd.prog.info? 5).map (·.size) = some 1 := by kernel_rfl
theorem wpList_copyb (hgd : o.guard = none) (d s : Operand) (ho : o.op = .call { callee := .builtin .copy, args := #[d, s], argTypes := #[22, 22] })
    (B g n : Nat) (xs : List Value) (hown : w.ownsRow B 5 1 (.slice (some ⟨g, 0, none⟩) n n) n xs) (b off cap : Nat) (ds : List UInt8) (hn : n = ds.length)
    (hd : a.eval d = .slice (some ⟨g, 0, none⟩) n n) (hs : a.eval s = .slice (some ⟨b, off, none⟩) n cap) (hA : At w b off ds)
    (h : ∀ w', At w' g 0 ds → Below B w w' → g < w'.heap.size → wpList Tryd.prog ops Q rest (a.put o.dst (goInt n)) w') : wpList Tryd.prog ops Q (o :: rest) a w := by
  subst hn
  rcases hown.2 with ⟨h', _⟩ | ⟨g', cap', cur, h', hB, hg, _, _, hcs, _⟩
  · cases h'
  · injection h' with e1 e2 e3
    injection e1 with e1
    injection e1 with e1
    subst e1
    subst e3
    rw [Nat.mul_one] at hcs
    refine wpList_copy_own hgd d s 22 22 ho 5 Tryd.underlying22 size5 g 0 ds.length ds.length ⟨b, off, none⟩ ds.length cap hd hs cur 5 hg (Lib.byteCells ds) (by rw [bc_len]; simp) ?_ (by rw [bc_len]; omega) (bc_one ds) ?_
    · intro j u hj
      have hlt : j < ds.length := by rw [← bc_len]; exact (List.getElem?_eq_some_iff.1 hj).1
      rw [bc_get hlt] at hj
      rw [add_lit, ← hj]
      exact hA j hlt
    · rw [bc_len]
      refine h _ ?_ (below_setRow (Below.refl B w) hB _) ?_
      · intro j hj
        rw [show (0 : Nat) + j = j from Nat.zero_add j]
        rw [cell_setRow_same w g j cur _ 5 (0, 0) hg]
        have hjl : j < (Lib.byteCells ds).length := by rw [bc_len]; exact hj
        rw [← bc_get hj]
        simp [List.getElem?_append, hjl]
      · rw [setRow_size]; exact (Array.getElem?_eq_some_iff.1 hg).1
end

end Go.Proofs.Qxb6604065aDoor
