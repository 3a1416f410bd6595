/-
  The law's arguments, opened: a slice of strings, a slice of bytes.
-/
import Derived.Test.Qxb6604794aRows
import Derived.Test.Qxb6604794aMem
import Derived.ProofKit
import Derived.OpenShut
import Derived.ShutString
import Derived.ChangeOld
import Derived.Below
import Derived.SliceStrings
import Derived.ChangeMaps5
namespace Go.Proofs.Qxb6604794a
open Go.ChangeShapes Go.WideShapes Go.ChangeAt Go.RowKit

theorem own : ownKnob Try.prog.godebug = none := by kernel_rfl
theorem laidOut : laidOutB Try.prog = true := by kernel_rfl

/-- A slice of strings that came in. -/
theorem rd_of {H : Type} {enc : TypeId × Value → H} {w : World} {base : Nat} {held : Bool} {r : Reach} {b0 : Nat} {v : Value} {d : DataW H} {p : List MemPlace}
    (hv : Value.okWide Try.prog w r b0 22 v) (h : DataW.Trod enc Try.prog w base (fun _ => true) held 22 v d p) : ∃ l : List ByteArray, Rd w.heap.size w v l := by
  obtain ⟨a, len, cap, rfl⟩ := okWide_slice Try.underlying22 hv
  obtain ⟨fuel, hf⟩ := h
  rcases open_strings Try.underlying22 Try.underlying9 (by kernel_rfl) hf with ⟨hcs, _⟩ | ⟨x, l, c, ss, hcs, _, hl, hm, hz, _, hcell, _⟩
  · simp [Value.cells] at hcs
    obtain ⟨rfl, rfl, rfl⟩ := hcs
    exact ⟨[], .inl ⟨rfl, none, 0, rfl, fun _ => rfl⟩⟩
  · simp [Value.cells] at hcs
    obtain ⟨rfl, rfl, rfl⟩ := hcs
    have hz' : ss.length = cap := by simpa using hz
    refine ⟨ss.take len, ?_⟩
    have hlen : (ss.take len).length = len := by rw [List.length_take]; omega
    by_cases h0 : ss.take len = []
    · rw [h0] at hlen
      exact .inl ⟨h0, _, cap, by rw [← hlen]; rfl, fun e => by cases e⟩
    · have hp := List.length_pos_iff.mpr h0
      obtain ⟨b, off, spot⟩ := x
      have hs : spot = none := by simpa [Addr.add] using World.cell?_spot (hcell 0 (by omega))
      subst hs
      refine .inr ⟨h0, b, off, cap, by rw [hlen], block_lt_of_cell (hcell 0 (by omega)), by omega, ?_⟩
      intro j hj
      have hq := hcell j (by omega)
      rw [add_lit] at hq
      rw [hq, st_take _ _ _ (by omega)]
      rfl

namespace By
/-- A slice of bytes that came in. -/
theorem rd_of {H : Type} {enc : TypeId × Value → H} {w : World} {base : Nat} {held : Bool} {r : Reach} {b0 : Nat} {v : Value} {d : DataW H} {p : List MemPlace}
    (hv : Value.okWide Try.prog w r b0 23 v) (h : DataW.Trod enc Try.prog w base (fun _ => true) held 23 v d p) : ∃ l : List UInt8, Rd w.heap.size w v l := by
  obtain ⟨a, len, cap, rfl⟩ := okWide_slice Try.underlying23 hv
  obtain ⟨fuel, hf⟩ := h
  rcases open_ints Try.underlying23 Try.underlying5 (by kernel_rfl) hf with ⟨hcs, _⟩ | ⟨x, l, c, zs, hcs, _, hl, hm, hz, _, hc, hw⟩
  · simp [Value.cells] at hcs
    obtain ⟨rfl, rfl, rfl⟩ := hcs
    exact ⟨[], .inl ⟨rfl, none, 0, rfl, fun _ => rfl⟩⟩
  · simp [Value.cells] at hcs
    obtain ⟨rfl, rfl, rfl⟩ := hcs
    have hz' : zs.length = cap := by simpa using hz
    refine ⟨(zs.take len).map fun z => UInt8.ofNat z.toNat, ?_⟩
    by_cases h0 : len = 0
    · subst h0
      exact .inl ⟨by simp, _, cap, rfl, fun e => by cases e⟩
    · obtain ⟨b, off, spot⟩ := x
      have hs : spot = none := by simpa [Addr.add] using World.cell?_spot (hc 0 (by omega))
      subst hs
      have hlen : ((zs.take len).map fun z => UInt8.ofNat z.toNat).length = len := by simp; omega
      have hne : ((zs.take len).map fun z => UInt8.ofNat z.toNat) ≠ [] := by
        intro e
        rw [e] at hlen
        simp at hlen
        omega
      refine .inr ⟨hne, b, off, cap, by rw [hlen], block_lt_of_cell (hc 0 (by omega)), by rw [hlen]; exact hl, ?_⟩
      intro j hj
      rw [hlen] at hj
      have hq := hc j (by omega)
      rw [add_lit] at hq
      rw [hq]
      have hjz : j < zs.length := by omega
      have hwf := hw zs[j] (List.getElem_mem hjz)
      have hb := bounds_u8 hwf
      have e : bt ((zs.take len).map fun z => UInt8.ofNat z.toNat) j = zs.getD j 0 := by
        unfold bt
        have hjt : j < (zs.take len).length := by simp; omega
        simp only [List.getD_eq_getElem?_getD, List.getElem?_map, List.getElem?_eq_getElem hjt, Option.map_some, Option.getD_some, List.getElem_take, List.getElem?_eq_getElem hjz]
        rw [UInt8.toNat_ofNat']
        omega
      rw [e]
end By

end Go.Proofs.Qxb6604794a
