/-
  A slice of strings among a law's arguments, opened.
-/
import Derived.Test.Qxb6604188aRows
import Derived.Test.Qxb6604188aMem
import Derived.ProofKit
import Derived.OpenShut
import Derived.ShutString
import Derived.ChangeOld
import Derived.Below
import Derived.SliceStrings
import Derived.ChangeMaps5
namespace Go.Proofs.Qxb6604188a
open Go.ChangeShapes Go.WideShapes Go.ChangeAt Go.RowKit

theorem own : ownKnob Try.prog.godebug = none := by kernel_rfl
theorem laidOut : laidOutB Try.prog = true := by kernel_rfl

/-- A slice of strings that came in. -/
theorem rd_of {H : Type} {enc : TypeId × Value → H} {w : World} {base : Nat} {held : Bool} {r : Reach} {b0 : Nat} {v : Value} {d : DataW H} {p : List MemPlace}
    (hv : Value.okWide Try.prog w r b0 22 v) (h : DataW.Trod enc Try.prog w base (fun _ => true) held 22 v d p) : ∃ l : List ByteArray, Rd w.heap.size w v l := by
  obtain ⟨a, len, cap, rfl⟩ := okWide_slice Try.underlying22 hv
  obtain ⟨fuel, hf⟩ := h
  rcases open_strings Try.underlying22 Try.underlying9 (by kernel_rfl) hf with ⟨hcs, _⟩ | ⟨x, l, c, ss, hcs, _, hl, hm, hz, _, hcell, _⟩
  · simp [Value.cells] at hcs
    obtain ⟨rfl, rfl, rfl⟩ := hcs
    exact ⟨[], .inl ⟨rfl, none, 0, rfl, fun _ => rfl⟩⟩
  · simp [Value.cells] at hcs
    obtain ⟨rfl, rfl, rfl⟩ := hcs
    have hz' : ss.length = cap := by simpa using hz
    refine ⟨ss.take len, ?_⟩
    have hlen : (ss.take len).length = len := by rw [List.length_take]; omega
    by_cases h0 : ss.take len = []
    · rw [h0] at hlen
      exact .inl ⟨h0, _, cap, by rw [← hlen]; rfl, fun e => by cases e⟩
    · have hp := List.length_pos_iff.mpr h0
      obtain ⟨b, off, spot⟩ := x
      have hs : spot = none := by simpa [Addr.add] using World.cell?_spot (hcell 0 (by omega))
      subst hs
      refine .inr ⟨h0, b, off, cap, by rw [hlen], block_lt_of_cell (hcell 0 (by omega)), by omega, ?_⟩
      intro j hj
      have hq := hcell j (by omega)
      rw [add_lit] at hq
      rw [hq, st_take _ _ _ (by omega)]
      rfl

end Go.Proofs.Qxb6604188a
