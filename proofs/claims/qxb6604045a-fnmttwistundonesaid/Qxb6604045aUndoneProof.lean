/-
  'Rows.FnMTTwistUndoneSaid', PROVED.
-/
import Derived.Test.Qxb6604045aOpen
import Derived.Test.Qxb6604045aUndone
import Derived.Test.Qxb6604045aPlainUn
namespace Go.Proofs.Qxb6604045a.undone
open Go.ChangeShapes Go.WideShapes Go.ChangeAt Go.RowKit
set_option linter.unusedVariables false

/-! ### The witness's closed facts -/
theorem w3 (os : Os) : Input.okWideB Try.checked.prog (World.plainHolding Try.checked.prog os ⟨#[], #[.agg (words 624 fun _ => 0#32)], []⟩) 5 ⟨#[], (⟨#[], #[.agg (words 624 fun _ => 0#32)], []⟩ : Input).args, []⟩ = true := by
  generalize World.plainHolding Try.checked.prog os ⟨#[], #[.agg (words 624 fun _ => 0#32)], []⟩ = w
  have h5 : Try.checked.prog.funcs[5]? = some Try.f5 := Try.func5
  have hin : (Try.checked.prog.inits.idxOf? 5).isNone = true := by kernel_rfl
  have hp := Try.params5
  have ha : Value.okWideB Try.checked.prog w 23 (.agg (words 624 fun _ => 0#32)) = true := okAgg w _
  unfold Input.okWideB
  rw [h5]
  simp only [hin, hp]
  simp [ha]
  exact ⟨by kernel_rfl, by kernel_rfl⟩
theorem w4 (os : Os) (H : Type) (enc : TypeId × Value → H) : Rows.fnMTTwistUndoneSpec.preB enc Try.checked.prog Try.f5 Rows.fnMTTwistUndoneRow.domain false (World.plainHolding Try.checked.prog os ⟨#[], #[.agg (words 624 fun _ => 0#32)], []⟩).memory (⟨#[], #[.agg (words 624 fun _ => 0#32)], []⟩ : Input).args 8 = true := by kernel_rfl
theorem w5 (os : Os) (H : Type) (enc : TypeId × Value → H) : Rows.fnMTTwistUndoneSpec.sizedB enc Try.checked.prog Try.f5 false (World.plainHolding Try.checked.prog os ⟨#[], #[.agg (words 624 fun _ => 0#32)], []⟩).memory (⟨#[], #[.agg (words 624 fun _ => 0#32)], []⟩ : Input).args 8 = true := by kernel_rfl

theorem walk (s : Nat → BitVec 32) (w : World) : Calls Try.prog 5 #[.agg (words 624 s)] w fun e w' => e = .returned (.bool true) ∧ Below w.heap.size w w' :=
  undone_walk s (words_congr fun j hj => untwist_twist s j hj) w

set_option maxRecDepth 100000 in
theorem lifted (os : Os) (started : os.Started) (H : Type) (enc : TypeId × Value → H) :
    ReturnsInHanded {} Try.checked os 5 .any (Rows.fnMTTwistUndoneSpec.pre6 enc Try.prog Try.f5 Rows.fnMTTwistUndoneRow.domain false) (Rows.fnMTTwistUndoneSpec.post enc Try.prog Try.f5 false true false false) := by
  refine returnsInHanded_of_change (C := Try.checked) own started (by kernel_rfl) Try.func5
    (ChangeSpec.witness6 (enc := enc) (C := Try.checked) false ⟨#[], #[.agg (words 624 fun _ => 0#32)], []⟩ 8 (by kernel_rfl) (by kernel_rfl) (w3 os) (w4 os H enc) (w5 os H enc)) ?_
  intro W base args ds gs before hval0 hW hcnd _
  have hval : ∀ (j : Nat) t v, Try.f5.params[j]? = some t → args[j]? = some v → Value.okWide Try.prog W .any base t v := hval0
  have hW' := hW
  obtain ⟨p, q, hA0, hV, rfl, hfz, hnd⟩ := hW
  have hA : DataW.TrodAll enc Try.prog W 0 (fun _ => true) true Try.f5.params.toList args.toList ds p := hA0
  rw [Try.params5] at hA hval
  obtain ⟨v0, vs0, d0, ds0, p0, q0, hargs, rfl, rfl, h0, r0⟩ := trodAll_cons hA
  obtain ⟨rfl, rfl, rfl⟩ := trodAll_nil r0
  obtain rfl : args = #[v0] := by cases args; simp_all
  obtain ⟨rfl, rfl⟩ := trodVars_none hV
  have k0 := h0
  have lt0 : ∀ x ∈ p0, x.block < W.heap.size := by obtain ⟨m, hm⟩ := k0; exact DataW.trod_lt m _ _ _ hm
  obtain ⟨s, rfl⟩ := open_words Try.underlying23 Try.underlying22 (by kernel_rfl) (by kernel_rfl) (hval 0 23 v0 rfl rfl) h0
  clear hA0 hval0
  refine (walk s W).mono fun e W' ⟨he, bel⟩ => ?_
  subst he
  exact ⟨_, rfl, _, _, _, [], _, [], hW', trodAll_mk1 (shut_bool Try.underlying4 _), (trodAll_cons_mk (Below.trod laidOut (by kernel_rfl) (of_decide_eq_true (by kernel_rfl)) k0 bel lt0) trodAll_mk0), rfl, bel.frame _, fun h => by cases h⟩

theorem over : Rows.fnMTTwistUndoneRow.holds Try.pinned (OpenSpec.ofChange Rows.fnMTTwistUndoneSpec) :=
  OpenClaim.holds_of_wide 5 Try.f5 rfl rfl rfl rfl rfl rfl rfl ⟨rfl, rfl, rfl, rfl, rfl⟩ rfl rfl rfl rfl rfl (by kernel_rfl) Try.func5 (by kernel_rfl)
    (of_decide_eq_true (by kernel_rfl)) (by unfold Func.isWrapper; first | (rw [if_pos (by decide +kernel)]; kernel_rfl) | (rw [if_neg (by decide +kernel)]; exact ⟨rfl, rfl⟩))
    (fun os started H enc _ => lifted os started H enc)

/-- THE STATEMENT. -/
theorem proved : Rows.FnMTTwistUndoneSaid := over
#print axioms proved
end Go.Proofs.Qxb6604045a.undone
