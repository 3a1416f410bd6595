/-
  'Rows.FnMTUint32AgainstModelSaid', PROVED.
-/
import Derived.Test.Qxb6604045aOpen
import Derived.Test.Qxb6604045aAgainst
import Derived.Test.Qxb6604045aPlainTemper
namespace Go.Proofs.Qxb6604045a.against
open Go.ChangeShapes Go.WideShapes Go.ChangeAt Go.RowKit
set_option linter.unusedVariables false

/-! ### The witness's closed facts -/
theorem ok3 (w : World) : Value.okWideB Try.checked.prog w 3 (.int .i64 0) = true := by kernel_rfl
theorem w3 (os : Os) : Input.okWideB Try.checked.prog (World.plainHolding Try.checked.prog os ⟨#[], #[.agg (words 624 fun _ => 0#32), .int .i64 0], []⟩) 3 ⟨#[], (⟨#[], #[.agg (words 624 fun _ => 0#32), .int .i64 0], []⟩ : Input).args, []⟩ = true := by
  generalize World.plainHolding Try.checked.prog os ⟨#[], #[.agg (words 624 fun _ => 0#32), .int .i64 0], []⟩ = w
  have h5 : Try.checked.prog.funcs[3]? = some Try.f3 := Try.func3
  have hin : (Try.checked.prog.inits.idxOf? 3).isNone = true := by kernel_rfl
  have hp := Try.params3
  have ha : Value.okWideB Try.checked.prog w 23 (.agg (words 624 fun _ => 0#32)) = true := okAgg w _
  have hb := ok3 w
  unfold Input.okWideB
  rw [h5]
  simp only [hin, hp]
  simp [ha, hb, List.range_succ]
  exact ⟨by kernel_rfl, by kernel_rfl⟩
theorem w4 (os : Os) (H : Type) (enc : TypeId × Value → H) : Rows.fnMTUint32AgainstModelSpec.preB enc Try.checked.prog Try.f3 Rows.fnMTUint32AgainstModelRow.domain false (World.plainHolding Try.checked.prog os ⟨#[], #[.agg (words 624 fun _ => 0#32), .int .i64 0], []⟩).memory (⟨#[], #[.agg (words 624 fun _ => 0#32), .int .i64 0], []⟩ : Input).args 8 = true := by kernel_rfl
theorem w5 (os : Os) (H : Type) (enc : TypeId × Value → H) : Rows.fnMTUint32AgainstModelSpec.sizedB enc Try.checked.prog Try.f3 false (World.plainHolding Try.checked.prog os ⟨#[], #[.agg (words 624 fun _ => 0#32), .int .i64 0], []⟩).memory (⟨#[], #[.agg (words 624 fun _ => 0#32), .int .i64 0], []⟩ : Input).args 8 = true := by kernel_rfl

theorem walk (s : Nat → BitVec 32) (n : Int) (w : World) : Calls Try.prog 3 #[.agg (words 624 s), .int .i64 n] w fun e w' => e = .returned (.bool true) ∧ Below w.heap.size w w' := by
  by_cases h : n < 0 ∨ 624 < n
  · exact against_out s n h w
  · by_cases e : n = 624
    · subst e
      refine against_eq s ?_ ?_ w
      · show untemper (temper (twist s 0)) = modeled s 0
        rw [untemper_temper, modeled_twist s 0 (by omega)]
      · exact words_congr fun j hj => (modeled_twist s j hj).symm
    · obtain ⟨k, rfl⟩ : ∃ k : Nat, n = k := ⟨n.toNat, by omega⟩
      exact against_lt s k (by omega) (untemper_temper _) w

set_option maxRecDepth 100000 in
theorem lifted (os : Os) (started : os.Started) (H : Type) (enc : TypeId × Value → H) :
    ReturnsInHanded {} Try.checked os 3 .any (Rows.fnMTUint32AgainstModelSpec.pre6 enc Try.prog Try.f3 Rows.fnMTUint32AgainstModelRow.domain false) (Rows.fnMTUint32AgainstModelSpec.post enc Try.prog Try.f3 false true false false) := by
  refine returnsInHanded_of_change (C := Try.checked) own started (by kernel_rfl) Try.func3
    (ChangeSpec.witness6 (enc := enc) (C := Try.checked) false ⟨#[], #[.agg (words 624 fun _ => 0#32), .int .i64 0], []⟩ 8 (by kernel_rfl) (by kernel_rfl) (w3 os) (w4 os H enc) (w5 os H enc)) ?_
  intro W base args ds gs before hval0 hW hcnd _
  have hval : ∀ (j : Nat) t v, Try.f3.params[j]? = some t → args[j]? = some v → Value.okWide Try.prog W .any base t v := hval0
  have hW' := hW
  obtain ⟨p, q, hA0, hV, rfl, hfz, hnd⟩ := hW
  have hA : DataW.TrodAll enc Try.prog W 0 (fun _ => true) true Try.f3.params.toList args.toList ds p := hA0
  rw [Try.params3] at hA hval
  obtain ⟨v0, vs0, d0, ds0, p0, q0, hargs, rfl, rfl, h0, r0⟩ := trodAll_cons hA
  obtain ⟨v1, vs1, d1, ds1, p1, q1, rfl, rfl, rfl, h1, r1⟩ := trodAll_cons r0
  obtain ⟨rfl, rfl, rfl⟩ := trodAll_nil r1
  obtain rfl : args = #[v0, v1] := by cases args; simp_all
  obtain ⟨rfl, rfl⟩ := trodVars_none hV
  have k0 := h0
  have lt0 : ∀ x ∈ p0, x.block < W.heap.size := by obtain ⟨m, hm⟩ := k0; exact DataW.trod_lt m _ _ _ hm
  obtain ⟨s, rfl⟩ := open_words Try.underlying23 Try.underlying22 (by kernel_rfl) (by kernel_rfl) (hval 0 23 v0 rfl rfl) h0
  obtain ⟨a1, rfl, rfl, rfl, w1⟩ := open_int Try.underlying3 (hval 1 3 v1 rfl rfl) h1
  clear hA0 hval0
  refine (walk s a1 W).mono fun e W' ⟨he, bel⟩ => ?_
  subst he
  exact ⟨_, rfl, _, _, _, [], _, [], hW', trodAll_mk1 (shut_bool Try.underlying4 _), (trodAll_cons_mk (Below.trod laidOut (by kernel_rfl) (of_decide_eq_true (by kernel_rfl)) k0 bel lt0) (trodAll_cons_mk (shut_int Try.underlying3 w1) trodAll_mk0)), rfl, bel.frame _, fun h => by cases h⟩

theorem over : Rows.fnMTUint32AgainstModelRow.holds Try.pinned (OpenSpec.ofChange Rows.fnMTUint32AgainstModelSpec) :=
  OpenClaim.holds_of_wide 3 Try.f3 rfl rfl rfl rfl rfl rfl rfl ⟨rfl, rfl, rfl, rfl, rfl⟩ rfl rfl rfl rfl rfl (by kernel_rfl) Try.func3 (by kernel_rfl)
    (of_decide_eq_true (by kernel_rfl)) (by unfold Func.isWrapper; first | (rw [if_pos (by decide +kernel)]; kernel_rfl) | (rw [if_neg (by decide +kernel)]; exact ⟨rfl, rfl⟩))
    (fun os started H enc _ => lifted os started H enc)

/-- THE STATEMENT. -/
theorem proved : Rows.FnMTUint32AgainstModelSaid := over
#print axioms proved
end Go.Proofs.Qxb6604045a.against
