/-
  An array of words among a law's arguments: opened; and as a witness.
-/
import Derived.Test.Qxb6604045aRows
import Derived.Test.Qxb6604045aArr
import Derived.ProofKit
import Derived.OpenShut
import Derived.ShutString
import Derived.ChangeOld
import Derived.Below
namespace Go.Proofs.Qxb6604045a
open Go.ChangeShapes Go.WideShapes Go.ChangeAt Go.RowKit

theorem own : ownKnob Try.prog.godebug = none := by kernel_rfl
theorem laidOut : laidOutB Try.prog = true := by kernel_rfl

/-- An array of words that came in by value. -/
theorem open_words {H : Type} {enc : TypeId × Value → H} {P : Program} {w : World} {base : Nat} {spare : Nat → Bool} {held : Bool} {r : Reach} {b0 : Nat} {t e : TypeId} {n : Nat} {v : Value} {d : DataW H} {p : List MemPlace}
    (hu : P.underlying t = some (.array n e)) (he : P.underlying e = some (.int .u32)) (hce : P.cellsOf e = 1) (hct : P.cellsOf t = n)
    (hv : Value.okWide P w r b0 t v) (h : DataW.Trod enc P w base spare held t v d p) : ∃ s, v = .agg (words n s) := by
  unfold Value.okWide at hv
  rw [hu] at hv
  obtain ⟨cs, rfl, hsz, _⟩ := hv
  rw [hct] at hsz
  obtain ⟨fuel, hf⟩ := h
  obtain ⟨xs, m, _, _, _, hxl, hxs⟩ := DataW.trod_array hu hf
  have key : ∀ i, i < n → ∃ x : BitVec 32, cs[i]? = some (.int .u32 (ui x)) := by
    intro i hi
    have h1 := hxs i hi
    rw [hce, Nat.mul_one, List.getElem?_eq_getElem (by omega)] at h1
    obtain ⟨k, hk, _, hwf⟩ := DataW.trod_int he h1
    have hb := bounds_u32 hwf
    obtain ⟨x, rfl⟩ := ui_of hb.1 (by omega)
    refine ⟨x, ?_⟩
    have h2 := congrArg (fun l => l[0]?) hk
    simpa [Value.cells, List.getElem?_take, List.getElem?_drop] using h2
  refine ⟨fun i => if h : i < n then (key i h).choose else 0#32, ?_⟩
  congr 1
  apply Array.ext_getElem?
  intro i
  by_cases hi : i < n
  · rw [words_get _ hi, dif_pos hi]
    exact (key i hi).choose_spec
  · rw [Array.getElem?_eq_none (by omega), Array.getElem?_eq_none (by rw [words_size]; omega)]

theorem cells23 : Try.prog.cellsOf 23 = 624 := by kernel_rfl
theorem types23 : Try.prog.cellTypes Try.prog.depth 23 = some (List.replicate 624 22) := by kernel_rfl
theorem okWord (w : World) (x : BitVec 32) : Cell.okWideB Try.prog w 22 (.int .u32 (ui x)) = true := by
  have h0 := ui_nonneg x
  have h1 := ui_lt x
  unfold Cell.okWideB Cell.okRefB
  rw [Try.underlying22]
  simp [Cell.okB, Try.underlying22, IntKind.min, IntKind.max, IntKind.signed, IntKind.bits]
  omega
theorem okAgg (w : World) (s : Nat → BitVec 32) : Value.okWideB Try.prog w 23 (.agg (words 624 s)) = true := by
  unfold Value.okWideB
  rw [Try.underlying23]
  simp only [words_size, cells23, beq_self_eq_true, Bool.true_and]
  unfold Cell.okWideRowB
  rw [types23]
  simp only [words_size, List.length_replicate, Nat.mod_self, beq_self_eq_true, Bool.true_and, List.all_eq_true, List.mem_range]
  intro i hi
  rw [words_get s hi, List.getElem?_replicate, if_pos (Nat.mod_lt _ (by omega))]
  exact okWord w (s i)
end Go.Proofs.Qxb6604045a
