/-
  What the two laws' rows share: slices of bytes that came in; the listed tables; the witness.
-/
import Derived.Test.Qxb6604065aDoorRows
import Derived.Test.Qxb6604065aDoorGuards
import Derived.ProofKit
import Derived.LaidMore
import Derived.OpenShut
import Derived.ShutString
import Derived.ChangeOld
import Derived.Stop.Joined
import Derived.Lib.LaidTab
namespace Go.Proofs.Qxb6604065aDoor
open Go.ChangeShapes Go.WideShapes Go.ChangeAt Go.RowKit

theorem own : ownKnob Tryd.prog.godebug = none := by kernel_rfl
theorem laidOut : laidOutB Tryd.prog = true := by kernel_rfl

/-- A slice of integers that came in. -/
def IsRow (k : IntKind) (w : World) (a : Option Addr) (len cap : Nat) (zs : List Int) : Prop :=
  (a = none ∧ len = 0 ∧ cap = 0 ∧ zs = []) ∨
  ∃ x, a = some x ∧ len ≤ cap ∧ cap ≤ maxLen ∧ zs.length = cap ∧ (∀ i, i < zs.length → w.cell? (x.add i) = some (.int k (zs.getD i 0))) ∧ ∀ n ∈ zs, (Lit.int k n).wf = true

theorem rd_of_row {w : World} {a : Option Addr} {len cap : Nat} {zs : List Int} (h : IsRow .u8 w a len cap zs) :
    ∃ l : List UInt8, l.length = len ∧ len ≤ maxLen ∧ Rd w.heap.size w (.slice a len cap) l := by
  rcases h with ⟨rfl, rfl, rfl, rfl⟩ | ⟨x, rfl, hl, hm, hz, hc, hw⟩
  · exact ⟨[], rfl, Nat.zero_le _, .inl ⟨rfl, none, 0, rfl, fun _ => rfl⟩⟩
  · refine ⟨(zs.take len).map fun z => UInt8.ofNat z.toNat, by simp; omega, by omega, ?_⟩
    by_cases h0 : len = 0
    · subst h0
      exact .inl ⟨by simp, _, cap, rfl, fun e => by cases e⟩
    · obtain ⟨b, off, spot⟩ := x
      have hs : spot = none := by simpa [Addr.add] using World.cell?_spot (hc 0 (by omega))
      subst hs
      have hlen : ((zs.take len).map fun z => UInt8.ofNat z.toNat).length = len := by simp; omega
      have hne : ((zs.take len).map fun z => UInt8.ofNat z.toNat) ≠ [] := by
        intro e
        rw [e] at hlen
        simp at hlen
        omega
      refine .inr ⟨hne, b, off, cap, by rw [hlen], ?_, by rw [hlen]; exact hl, ?_⟩
      · have := hc 0 (by omega)
        exact block_lt_of_cell this
      · intro j hj
        rw [hlen] at hj
        have hq := hc j (by omega)
        rw [add_lit] at hq
        rw [hq]
        have hjz : j < zs.length := by omega
        have hwf := hw zs[j] (List.getElem_mem hjz)
        have hb := bounds_u8 hwf
        have e : bt ((zs.take len).map fun z => UInt8.ofNat z.toNat) j = zs.getD j 0 := by
          unfold bt
          have hjt : j < (zs.take len).length := by simp; omega
          simp only [List.getD_eq_getElem?_getD, List.getElem?_map, List.getElem?_eq_getElem hjt, Option.map_some, Option.getD_some, List.getElem_take, List.getElem?_eq_getElem hjz]
          rw [UInt8.toNat_ofNat']
          omega
        rw [e]

/-! ### The listed tables -/
def laid3 : List (String × DataW Unit) := [("math/bits.deBruijn32tab", Rows.laid_math_bits_deBruijn32tab), ("math/bits.deBruijn64tab", Rows.laid_math_bits_deBruijn64tab), ("internal/strconv.uint64pow10", Rows.laid_internal_strconv_uint64pow10)]
theorem gPow : Tryd.prog.globalNamed "internal/strconv.uint64pow10" = some 0 := by kernel_rfl
theorem tPow : (Tryd.prog.globals[0]?).map (·.type) = some 57 := by kernel_rfl

theorem pow_data : (Rows.laid_internal_strconv_uint64pow10 : DataW Unit) = Lib.tabData .u64 Lib.pow10Tab := by kernel_rfl

/-- What the row's condition says of strconv's table. -/
theorem tab_of_laid {W : World} (h : laidMetH Tryd.prog laid3 W) : Lib.TabIs Tryd.prog W "internal/strconv.uint64pow10" .u64 Lib.pow10Tab := by
  rw [MakeChecks.laidMetH_plain _ _ _ (by kernel_rfl)] at h
  obtain ⟨ps, ⟨g0, t0, cs0, f0, p0, q0, hg0, ht0, hv0, hd0, ⟨g1, t1, cs1, f1, p1, q1, hg1, ht1, hv1, hd1, ⟨g2, t2, cs2, f2, p2, q2, hg2, ht2, hv2, hd2, _, _⟩, _⟩, _⟩, _, _⟩ := h
  obtain rfl := Option.some.inj (gPow.symm.trans hg2)
  obtain rfl := Option.some.inj (tPow.symm.trans ht2)
  unfold Lib.TabIs
  rw [pow_data] at hd2
  rw [hv2, ← Lib.cells_of_tab Tryd.underlying57 Tryd.underlying45 (by kernel_rfl) (by kernel_rfl) hd2]

/-- The door's own heap meets the condition. -/
theorem door_met (os : Os) (args : Array Value) : laidMetH Tryd.prog laid3 ((World.doorLaid Tryd.prog 2000 os).forCall (fun _ _ => 0) ⟨#[], args, []⟩).memory := by
  rw [MakeChecks.laidMetH_plain _ _ _ (by kernel_rfl)]
  exact laidMet_of_run' 8 (by kernel_rfl) (by kernel_rfl)

end Go.Proofs.Qxb6604065aDoor
