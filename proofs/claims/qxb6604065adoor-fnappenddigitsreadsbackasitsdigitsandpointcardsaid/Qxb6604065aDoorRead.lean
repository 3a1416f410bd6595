/-
  The walk of readBack, at a text that has the grammar's form.
-/
import Derived.Test.Qxb6604065aDoorForm
import Derived.Deep.DeepCutAuto
namespace Go.Proofs.Qxb6604065aDoor
open Go.RowKit

set_option maxRecDepth 100000 in
set_option maxHeartbeats 2000000 in
theorem read_walk (tl A F E : List UInt8) (sg : Int) (b off cap : Nat) (w : World) (hf : Form tl A F E sg) (hA : At w b off tl) (_hcap : tl.length ≤ cap) (hlen : tl.length ≤ 4194304) (hE1 : nval E ≤ 9223372036854775808) (hE2 : sg = 43 → nval E ≤ 9223372036854775807)
    (ds : List UInt8) (f r : Nat) (hal : A ++ F = List.replicate f 48 ++ ds ++ List.replicate r 48) (hds : ds ≠ [] ∧ bt ds 0 ≠ 48 ∧ bt ds (ds.length - 1) ≠ 48) (p : Int) (hp : p = (A.length : Int) - f + expv E sg) (hp0 : -9223372036854775808 < p) (hp1 : p ≤ 9223372036854775807) :
    Calls Tryd.prog 13 #[.slice (some ⟨b, off, none⟩) tl.length cap] w fun e w' => ∃ sv, e = .returned (.tuple #[sv, .int .i64 p, .bool true]) ∧ Rd w'.heap.size w' sv ds ∧ Below w.heap.size w w' := by
  obtain ⟨i0, hi, hz0, hz1, hz2⟩ := info_parts info5
  have hpA : 0 < A.length := List.length_pos_iff.mpr hf.pos
  have hle := hf.le
  have hbl : b < w.heap.size := hA.lt (fun e => by rw [e, List.length_nil] at hle; omega)
  have c0 := hA 0 (by omega)
  rw [Nat.add_zero] at c0
  have d0 := hf.a_dig 0 hpA
  have n0 : ((tl.length : Int) == 0) = false := beq_eq_false_iff_ne.mpr (by omega)
  go_enter Tryd.func13, Tryd.ntmps13
  go_upto_if 35 with (first
    | (go_at_call 18; refine (isDigit_any _ _).mono ?_; rintro e w' ⟨rfl, rfl⟩)
    | (at_make; refine wpList_make_own w rfl _ _ 22 rfl w.heap.size 5 i0 (.int .u8 0) 1 Tryd.underlying22 hi hz0 hz1 .i64 .i64 _ tl.length rfl rfl rfl (by rw [hz2]; omega) (by simp only [maxLen]; omega) (Nat.le_refl _) ?_; intro w1 ho1 hg1; have q1 := hA.mono (hg1.block b hbl (by simp)) 0 (by omega); rw [Nat.add_zero] at q1))
  have o1 : Ow w.heap.size w1 (.slice (some ⟨w.heap.size, 0, none⟩) 0 tl.length) [] := ho1
  have b1 : Below w.heap.size w w1 := (Below.refl _ _).grown hg1 (Nat.le_refl _) (fun k hk => by cases hk)
  clear ho1 hg1 hi hz0 hz1 hz2 q1 c0 d0 n0
  go_cut [6, 7, 8] (fun x y z wr => Ow w.heap.size wr x A ∧ y = .int .i64 A.length ∧ z = .int .i64 A.length ∧ Below w.heap.size w wr)
  case first => as_aux_lemma =>
    by_cases hz : bt tl 0 = 48
    · have h1 := hf.a_zero hz
      have eA : A = [48] := by
        match A, h1 with
        | [c], _ =>
          have := bt_eq ((hf.a_get 0 (by simp)).symm.trans (hz.trans (show (48 : Int) = bt [48] 0 from rfl)))
          simp at this
          rw [this]
      have hzb : (bt tl 0 == 48) = true := by simp [hz]
      have EA : Hid (A = [48]) := eA
      have H1 : Hid (A.length = 1) := h1
      have he := hf.a_end
      rw [h1] at he
      clear hz eA h1
      by_cases hn : 1 < tl.length
      · have dn := he hn
        clear he
        go_wp2_with (first
          | (at_builtin; refine wpList_app1 rfl _ _ rfl w.heap.size _ [] rfl (.inl o1) b1.size 48 48 rfl rfl (by simp) ?_; intro v2 w2 o2 b2; have q2 := hA.below (b1.trans b2) hbl 1 hn)
          | (go_at_call 18; refine (isDigit_any _ _).mono ?_; rintro e w' ⟨rfl, rfl⟩))
        go_meet
        case rel => exact ⟨o2.cast EA.out.symm, by rw [H1.out]; rfl, by rw [H1.out]; rfl, b1.trans b2⟩
      · clear he
        go_wp2_with (at_builtin; refine wpList_app1 rfl _ _ rfl w.heap.size _ [] rfl (.inl o1) b1.size 48 48 rfl rfl (by simp) ?_; intro v2 w2 o2 b2)
        go_meet
        case rel => exact ⟨o2.cast EA.out.symm, by rw [H1.out]; rfl, by rw [H1.out]; rfl, b1.trans b2⟩
    · have hzb : (bt tl 0 == 48) = false := by simp [hz]
      clear hz
      go_wp2
      clear hzb
      rename_i hx
      clear hx
      go_loopw [6, 7, 8] (fun x y z wr => ∃ k : Nat, k ≤ A.length ∧ y = .int .i64 k ∧ z = .int .i64 k ∧ Ow w.heap.size wr x (A.take k) ∧ Below w.heap.size w wr) (fun _ _ z _ => A.length - (intOf z).toNat)
      case atStart => exact ⟨0, by omega, rfl, rfl, by simpa using o1, b1⟩
      case round =>
        clear o1 b1
        obtain ⟨k, hk, rfl, rfl, o1, b1⟩ := hrel
        by_cases hlt : k < A.length
        · have hkn : (k : Int) < (tl.length : Int) := by omega
          have q1 := hA.below b1 hbl k (by omega)
          have d1 := hf.a_dig k hlt
          have g1 : bt tl k = ((A.getD k 0).toNat : Int) := hf.a_get k hlt
          have G1 : Hid (bt tl k = ((A.getD k 0).toNat : Int)) := g1
          clear g1
          go_wp2_with (first
            | (go_at_call 18; refine (isDigit_any _ _).mono ?_; rintro e w' ⟨rfl, rfl⟩)
            | (at_builtin; refine wpList_app1 rfl _ _ rfl w.heap.size _ (A.take k) rfl (.inl o1) b1.size (bt tl k) (A.getD k 0) G1.out rfl (by simp; omega) ?_; intro v2 w2 o2 b2))
          go_roundw
          case rel => exact ⟨k + 1, by omega, by go_num, by go_num, by rw [take_snoc A k hlt]; exact o2, b1.trans b2⟩
          case measure => simp [intOf]; omega
        · obtain rfl : k = A.length := by omega
          rw [List.take_length] at o1
          by_cases hn : A.length < tl.length
          · have q1 := hA.below b1 hbl A.length hn
            have d1 := hf.a_end hn
            have hkn : (A.length : Int) < (tl.length : Int) := by omega
            go_wp2_with (go_at_call 18; refine (isDigit_any _ _).mono ?_; rintro e w' ⟨rfl, rfl⟩)
            go_meet
            case rel => exact ⟨o1, rfl, rfl, b1⟩
          · have hkn : ¬ (A.length : Int) < (tl.length : Int) := by omega
            go_wp2
            go_meet
            case rel => exact ⟨o1, rfl, rfl, b1⟩
  case rest =>
  obtain ⟨o2, rfl, rfl, b2⟩ := hcut
  clear o1 b1
  go_upto_region 17 with fail
  go_cut [79] (fun x wr => x = .bool (ne F) ∧ wr = wc)
  case first => as_aux_lemma =>
    by_cases hn : A.length < tl.length
    · have q2 := hA.below b2 hbl A.length hn
      have hkn : (A.length : Int) < (tl.length : Int) := by omega
      by_cases hF : F = []
      · have e := hf.f_none hF hn
        have e' : (bt tl A.length == 46) = false := beq_eq_false_iff_ne.mpr e
        have eF : Hid (ne F = false) := ne_nil hF
        clear e hF
        go_wp2
        go_meet
        case rel => exact ⟨by rw [eF.out], rfl⟩
      · have e := (hf.f_some hF).2
        have e' : (bt tl A.length == 46) = true := beq_iff_eq.mpr e
        have eF : Hid (ne F = true) := ne_cons hF
        clear e hF
        go_wp2
        go_meet
        case rel => exact ⟨by rw [eF.out], rfl⟩
    · have hkn : ¬ (A.length : Int) < (tl.length : Int) := by omega
      have hF : F = [] := by
        cases F with
        | nil => rfl
        | cons c r => have := (hf.f_some (by simp)).1; omega
      have eF : Hid (ne F = false) := ne_nil hF
      clear hF
      go_wp2
      go_meet
      case rel => exact ⟨by rw [eF.out], rfl⟩
  case rest =>
  obtain ⟨rfl, rfl⟩ := hcut
  go_upto_if 79 with fail
  go_cut [6, 8, 9] (fun x z y wr => Ow w.heap.size wr x (A ++ F) ∧ z = .int .i64 (fpos A F : Nat) ∧ Below w.heap.size w wr)
  case first => as_aux_lemma =>
    by_cases hF : F = []
    · have eF : ne F = false := ne_nil hF
      have HF : Hid (F = []) := hF
      clear hF
      rw [eF]
      clear eF
      go_wp2
      go_meet
      case rel => exact ⟨o2.cast (by rw [HF.out, List.append_nil]), by rw [fpos, if_pos HF.out], b2⟩
    · have eF : ne F = true := ne_cons hF
      have hfs := (hf.f_some hF).1
      have hpF : 0 < F.length := List.length_pos_iff.mpr hF
      have HF : Hid (¬ F = []) := hF
      clear hF
      rw [eF]
      clear eF
      go_wp2
      go_loopw [6, 8] (fun x z wr => ∃ k : Nat, k ≤ F.length ∧ z = .int .i64 (A.length + 1 + k : Nat) ∧ Ow w.heap.size wr x (A ++ F.take k) ∧ Below w.heap.size w wr) (fun _ z _ => A.length + 1 + F.length - (intOf z).toNat)
      case atStart => exact ⟨0, by omega, by go_num, by simpa using o2, b2⟩
      case round =>
        clear o2 b2
        obtain ⟨k, hk, rfl, o2, b2⟩ := hrel
        by_cases hlt : k < F.length
        · have hkn : ((A.length + 1 + k : Nat) : Int) < (tl.length : Int) := by omega
          have q1 := hA.below b2 hbl (A.length + 1 + k) (by omega)
          have d1 := (hf.f_dig HF.out k hlt).1
          have G1 : Hid (bt tl (A.length + 1 + k) = ((F.getD k 0).toNat : Int)) := (hf.f_dig HF.out k hlt).2
          go_wp2_with (first
            | (go_at_call 18; refine (isDigit_any _ _).mono ?_; rintro e w' ⟨rfl, rfl⟩)
            | (at_builtin; refine wpList_app1 rfl _ _ rfl w.heap.size _ (A ++ F.take k) rfl (.inl o2) b2.size (bt tl (A.length + 1 + k)) (F.getD k 0) G1.out rfl (by simp; omega) ?_; intro v3 w3 o3 b3))
          go_roundw
          case rel => exact ⟨k + 1, by omega, by go_num, o3.cast (by rw [take_snoc F k hlt, List.append_assoc]), b2.trans b3⟩
          case measure => simp [intOf]; omega
        · obtain rfl : k = F.length := by omega
          rw [List.take_length] at o2
          have he : Hid (fpos A F = A.length + 1 + F.length) := if_neg HF.out
          by_cases hn : A.length + 1 + F.length < tl.length
          · have q1 := hA.below b2 hbl (A.length + 1 + F.length) hn
            have d1 := hf.f_end HF.out hn
            have hkn : ((A.length + 1 + F.length : Nat) : Int) < (tl.length : Int) := by omega
            go_wp2_with (go_at_call 18; refine (isDigit_any _ _).mono ?_; rintro e w' ⟨rfl, rfl⟩)
            go_meet
            case rel => exact ⟨o2, by rw [he.out]; go_num, b2⟩
          · have hkn : ¬ ((A.length + 1 + F.length : Nat) : Int) < (tl.length : Int) := by omega
            go_wp2
            go_meet
            case rel => exact ⟨o2, by rw [he.out]; go_num, b2⟩
  case rest =>
  obtain ⟨o3, rfl, b3⟩ := hcut
  clear o2 b2
  go_upto_region 26 with fail
  go_cut [121] (fun x wr => x = .bool (ne E) ∧ wr = wc)
  case first => as_aux_lemma =>
    by_cases hE : E = []
    · have eE : Hid (ne E = false) := ne_nil hE
      have hn := hf.e_none hE
      have hkn : ¬ ((fpos A F : Nat) : Int) < (tl.length : Int) := by omega
      clear hE hn
      go_wp2
      go_meet
      case rel => exact ⟨by rw [eE.out], rfl⟩
    · have eE : Hid (ne E = true) := ne_cons hE
      obtain ⟨hn, h1, h2, h3⟩ := hf.e_some hE
      have hkn : ((fpos A F : Nat) : Int) < (tl.length : Int) := by omega
      have q1 := hA.below b3 hbl (fpos A F) (by omega)
      have d1 : (bt tl (fpos A F) == 101) = true := beq_iff_eq.mpr h1
      clear hE hn h1 h2 h3
      go_wp2
      go_meet
      case rel => exact ⟨by rw [eE.out], rfl⟩
  case rest =>
  obtain ⟨rfl, rfl⟩ := hcut
  go_upto_if 121 with fail
  go_cut [8, 10] (fun z y wr => z = .int .i64 tl.length ∧ y = .int .i64 (expv E sg) ∧ wr = wc)
  case first => as_aux_lemma =>
    by_cases hE : E = []
    · have eE := ne_nil hE
      have EN : Hid (tl.length = fpos A F) := hf.e_none hE
      have EX : Hid (expv E sg = 0) := if_pos hE
      clear hE
      rw [eE]
      clear eE
      go_wp2
      go_meet
      case rel => exact ⟨by rw [EN.out], by rw [EX.out], rfl⟩
    · have eE := ne_cons hE
      obtain ⟨hn, h1, h2, h3⟩ := hf.e_some hE
      have hpE : 0 < E.length := List.length_pos_iff.mpr hE
      have q1 := hA.below b3 hbl (fpos A F + 1) (by omega)
      have hkn : ((fpos A F : Nat) : Int) + 1 < (tl.length : Int) := by omega
      have HN : Hid (tl.length = fpos A F + 2 + E.length) := hn
      have hn1 : fpos A F + 2 + E.length ≤ tl.length := by omega
      have hn2 : tl.length ≤ fpos A F + 2 + E.length := by omega
      have HE : Hid (¬ E = []) := hE
      have hx0 : Hid (nval E ≤ 9223372036854775808) := hE1
      clear hE hn h1 hE1
      rw [eE]
      clear eE
      rcases h3 with h3 | h3
      · have d1 : (bt tl (fpos A F + 1) == 43) = true := by rw [h2, h3]; rfl
        have d2 : (bt tl (fpos A F + 1) == 45) = false := by rw [h2, h3]; rfl
        have hx : Hid (nval E ≤ 9223372036854775807) := hE2 h3
        have EX : Hid (expv E sg = nval E) := by show _ = _; rw [expv, if_neg HE.out, if_neg (by omega)]
        clear h2 h3 hE2
        go_wp2
        go_loopw [8, 13] (fun z y wr => ∃ k : Nat, k ≤ E.length ∧ z = .int .i64 (fpos A F + 2 + k : Nat) ∧ y = .int .i64 (-(nval (E.take k))) ∧ wr = wc) (fun z _ _ => fpos A F + 2 + E.length - (intOf z).toNat)
        case atStart => exact ⟨0, by omega, by go_num, rfl, rfl⟩
        case round =>
          obtain ⟨k, hk, rfl, rfl, hwr⟩ := hrel
          rw [hwr]
          clear hwr
          by_cases hlt : k < E.length
          · have hkn2 : ((fpos A F + 2 + k : Nat) : Int) < (tl.length : Int) := by omega
            have q2 := hA.below b3 hbl (fpos A F + 2 + k) (by omega)
            obtain ⟨dg, de⟩ := hf.e_dig HE.out k hlt
            obtain ⟨t1, t2⟩ := (dgB_iff _).1 dg
            have st := exp_step E (fun j hj => exp_lo hf HE.out j hj) hx0 k hlt
            rw [← de] at st
            have ST : Hid (nval (E.take (k + 1)) = nval (E.take k) * 10 + (bt tl (fpos A F + 2 + k) - 48)) := st.1
            obtain ⟨-, s1, s2⟩ := st
            clear de hx0
            have s3 := no_over s2 t1 t2
            go_wp2_with (go_at_call 18; refine (isDigit_any _ _).mono ?_; rintro e w' ⟨rfl, rfl⟩)
            go_roundw
            case rel => exact ⟨k + 1, by omega, by go_num, congrArg (Value.int .i64) (by rw [ST.out]; omega), trivial⟩
            case measure => simp [intOf]; omega
          · obtain rfl : k = E.length := by omega
            rw [List.take_length]
            have hxx := hx.out
            have hkn3 : ¬ ((fpos A F + 2 + E.length : Nat) : Int) < (tl.length : Int) := by omega
            have HV : 0 ≤ nval E := nval_pos hf HE.out
            go_wp2
            go_meet
            case rel => exact ⟨by rw [HN.out]; go_num, congrArg (Value.int .i64) (by rw [EX.out]), rfl⟩
      · have d1 : (bt tl (fpos A F + 1) == 43) = false := by rw [h2, h3]; rfl
        have d2 : (bt tl (fpos A F + 1) == 45) = true := by rw [h2, h3]; rfl
        have hx : Hid (nval E ≤ 9223372036854775808) := hx0
        have EX : Hid (expv E sg = -(nval E)) := by show _ = _; rw [expv, if_neg HE.out, if_pos h3]
        clear h2 h3 hE2
        go_wp2
        go_loopw [8, 13] (fun z y wr => ∃ k : Nat, k ≤ E.length ∧ z = .int .i64 (fpos A F + 2 + k : Nat) ∧ y = .int .i64 (-(nval (E.take k))) ∧ wr = wc) (fun z _ _ => fpos A F + 2 + E.length - (intOf z).toNat)
        case atStart => exact ⟨0, by omega, by go_num, rfl, rfl⟩
        case round =>
          obtain ⟨k, hk, rfl, rfl, hwr⟩ := hrel
          rw [hwr]
          clear hwr
          by_cases hlt : k < E.length
          · have hkn2 : ((fpos A F + 2 + k : Nat) : Int) < (tl.length : Int) := by omega
            have q2 := hA.below b3 hbl (fpos A F + 2 + k) (by omega)
            obtain ⟨dg, de⟩ := hf.e_dig HE.out k hlt
            obtain ⟨t1, t2⟩ := (dgB_iff _).1 dg
            have st := exp_step E (fun j hj => exp_lo hf HE.out j hj) hx0 k hlt
            rw [← de] at st
            have ST : Hid (nval (E.take (k + 1)) = nval (E.take k) * 10 + (bt tl (fpos A F + 2 + k) - 48)) := st.1
            obtain ⟨-, s1, s2⟩ := st
            clear de hx0
            have s3 := no_over s2 t1 t2
            go_wp2_with (go_at_call 18; refine (isDigit_any _ _).mono ?_; rintro e w' ⟨rfl, rfl⟩)
            go_roundw
            case rel => exact ⟨k + 1, by omega, by go_num, congrArg (Value.int .i64) (by rw [ST.out]; omega), trivial⟩
            case measure => simp [intOf]; omega
          · obtain rfl : k = E.length := by omega
            rw [List.take_length]
            have hxx := hx.out
            have hkn3 : ¬ ((fpos A F + 2 + E.length : Nat) : Int) < (tl.length : Int) := by omega
            have HV : 0 ≤ nval E := nval_pos hf HE.out
            go_wp2
            go_meet
            case rel => exact ⟨by rw [HN.out]; go_num, congrArg (Value.int .i64) (by rw [EX.out]), rfl⟩
  case rest =>
  obtain ⟨rfl, rfl, rfl⟩ := hcut
  have hrd := o3.rd
  rcases hrd with ⟨hnil, _⟩ | ⟨_, g, go, gc, hv, hgl, hgc, hG⟩
  · exact absurd hnil (by rw [hal]; simp [hds.1])
  rw [hv]
  clear o3 hv
  have hlen2 : (A ++ F).length = f + ds.length + r := by rw [hal]; simp; omega
  have hpd : 0 < ds.length := List.length_pos_iff.mpr hds.1
  have hAF : f + ds.length + r ≤ tl.length := by rw [← hlen2]; exact al_le hf
  have z0 : ∀ j, j < f → bt (A ++ F) j = 48 := fun j hj => by rw [hal]; exact al_lo _ _ _ hj
  have z1 : bt (A ++ F) f = bt ds 0 := by rw [hal]; exact al_mid _ _ _ 0 hpd
  have z2 : bt (A ++ F) (f + (ds.length - 1)) = bt ds (ds.length - 1) := by rw [hal]; exact al_mid _ _ _ _ (by omega)
  have z3 : ∀ j, j < r → bt (A ++ F) (f + ds.length + j) = 48 := fun j hj => by rw [hal]; exact al_hi _ _ _ hj
  have Z1 : Hid (bt (A ++ F) f ≠ 48) := by show _ ≠ _; rw [z1]; exact hds.2.1
  have Z2 : Hid (bt (A ++ F) (f + (ds.length - 1)) ≠ 48) := by show _ ≠ _; rw [z2]; exact hds.2.2
  have Z0 : Hid (∀ j, j < f → bt (A ++ F) j = 48) := z0
  have Z3 : Hid (∀ j, j < r → bt (A ++ F) (f + ds.length + j) = 48) := z3
  have HAL : Hid (A ++ F = List.replicate f 48 ++ ds ++ List.replicate r 48) := hal
  have HP : Hid (p = (A.length : Int) - f + expv E sg) := hp
  have G : Hid (At wc g go (A ++ F)) := hG
  rw [hlen2] at hgc ⊢
  clear z0 z1 z2 z3 hal hp hds hlen2 hG hE1 hE2
  generalize expv E sg = ex at HP ⊢
  go_wp2
  go_loopw [15, 16] (fun x y wr => ∃ k : Nat, k ≤ f ∧ x = .int .i64 (-1) ∧ y = .int .i64 k ∧ wr = wc) (fun _ y _ => f + 1 - (intOf y).toNat)
  case atStart => exact ⟨0, by omega, rfl, rfl, rfl⟩
  case round =>
    obtain ⟨k, hk, rfl, rfl, hwr⟩ := hrel
    rw [hwr]
    clear hwr
    have hkn : (k : Int) < ((f + ds.length + r : Nat) : Int) := by omega
    have hq : ∀ j, j < f + ds.length + r → wc.cell? ⟨g, go + j, none⟩ = some (.int .u8 (bt (A ++ F) j)) := fun j hj => G.out j (by rw [HAL.out]; simp; omega)
    have HQ : Hid (∀ j, j < f + ds.length + r → wc.cell? ⟨g, go + j, none⟩ = some (.int .u8 (bt (A ++ F) j))) := hq
    have q1 := hq k (by omega)
    clear hq
    by_cases hlt : k < f
    · have e1 : (bt (A ++ F) k != 48) = false := by rw [Z0.out k hlt]; rfl
      go_wp2
      go_roundw
      case rel => exact ⟨k + 1, by omega, rfl, by go_num, trivial⟩
      case measure => simp [intOf]; omega
    · as_aux_lemma =>
      obtain rfl : k = f := by omega
      have e1 : (bt (A ++ F) k != 48) = true := bne_iff_ne.mpr Z1.out
      go_wp2
      clear e1 q1
      go_loopw [17] (fun x wr => ∃ j : Nat, j ≤ r ∧ x = .int .i64 ((k + ds.length + r : Nat) - 1 - (j : Int)) ∧ wr = wc) (fun x _ => (intOf x + 1).toNat)
      case atStart => exact ⟨0, by omega, by go_num, rfl⟩
      case round =>
        obtain ⟨j, hj, rfl, hwr⟩ := hrel
        rw [hwr]
        clear hwr
        have ej : ((k + ds.length + r : Nat) : Int) - 1 - (j : Int) = ((k + ds.length - 1 + (r - j) : Nat) : Int) := by omega
        rw [ej]
        have EJ : Hid (((k + ds.length + r : Nat) : Int) - 1 - (j : Int) = ((k + ds.length - 1 + (r - j) : Nat) : Int)) := ej
        clear ej
        have hin : ((k + ds.length - 1 + (r - j) : Nat) : Int) < ((k + ds.length + r : Nat) : Int) := by omega
        have q2 := HQ.out (k + ds.length - 1 + (r - j)) (by omega)
        by_cases hjr : j < r
        · have e2 : (bt (A ++ F) (k + ds.length - 1 + (r - j)) == 48) = true := by
            have := Z3.out (r - j - 1) (by omega)
            rw [show k + ds.length + (r - j - 1) = k + ds.length - 1 + (r - j) by omega] at this
            rw [this]; rfl
          go_wp2
          go_roundw
          case rel => exact ⟨j + 1, by omega, congrArg (Value.int .i64) (by omega), trivial⟩
          case measure => simp [intOf]; omega
        · obtain rfl : j = r := by omega
          have e2 : (bt (A ++ F) (k + ds.length - 1 + (j - j)) == 48) = false := by
            have := Z2.out
            rw [show k + (ds.length - 1) = k + ds.length - 1 + (j - j) by omega] at this
            exact beq_eq_false_iff_ne.mpr this
          rw [Nat.sub_self, Nat.add_zero] at q2 e2 hin ⊢
          have hp1' : (A.length : Int) - k + ex ≤ 9223372036854775807 := by rw [← HP.out]; exact hp1
          have hp0' : -9223372036854775808 < (A.length : Int) - k + ex := by rw [← HP.out]; exact hp0
          have ngc : ¬ gc = k := by omega
          have hsv : Hid (Rd wc.heap.size wc (.slice (some ⟨g, go + k, none⟩) ds.length (gc - k)) ds) := by
            refine .inr ⟨List.length_pos_iff.mp hpd, g, go + k, gc - k, rfl, hgl, by omega, fun i hi => ?_⟩
            rw [Nat.add_assoc, HQ.out (k + i) (by omega), HAL.out, al_mid k j ds i hi]
          clear hp0 hp1 HQ
          rcases Int.lt_trichotomy (A.length : Int) (k : Int) with hs | hs | hs
          · as_aux_lemma =>
            go_wp2
            go_ret3
            refine ⟨.slice (some ⟨g, go + k, none⟩) ds.length (gc - k), ?_, hsv.out, b3⟩
            exact ret_read (by omega) HP.out.symm
          · as_aux_lemma =>
            have hs1 : ¬ (A.length : Int) < (k : Int) := by omega
            have hs2 : ¬ (k : Int) < (A.length : Int) := by omega
            clear hs
            go_wp2
            go_ret3
            refine ⟨.slice (some ⟨g, go + k, none⟩) ds.length (gc - k), ?_, hsv.out, b3⟩
            exact ret_read (by omega) HP.out.symm
          · as_aux_lemma =>
            go_wp2
            go_ret3
            refine ⟨.slice (some ⟨g, go + k, none⟩) ds.length (gc - k), ?_, hsv.out, b3⟩
            exact ret_read (by omega) HP.out.symm

end Go.Proofs.Qxb6604065aDoor
