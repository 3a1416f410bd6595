/-
  The walk of layoutModel, and that it lays the same text as appendDigits.
-/
import Derived.Test.Qxb6604065aDoorSexp
namespace Go.Proofs.Qxb6604065aDoor
open Go.RowKit

/-- The character of the position j. -/
def chr (ds : List UInt8) (p j : Int) : UInt8 := if 0 ≤ p - 1 - j ∧ p - 1 - j < (ds.length : Int) then ds.getD (p - 1 - j).toNat 0 else 48
/-- What one round lays. -/
def pc (ds : List UInt8) (p lo j : Int) : List UInt8 := chr ds p j :: (if j = 0 ∧ lo < 0 then [46] else [])
/-- What the last m rounds lay. -/
def run (ds : List UInt8) (p lo : Int) : Nat → List UInt8
  | 0 => []
  | m + 1 => pc ds p lo (lo + m) ++ run ds p lo m

theorem chr_in {ds : List UInt8} {p j : Int} {i : Nat} (h : p - 1 - j = (i : Int)) (hi : i < ds.length) : chr ds p j = ds.getD i 0 := by
  rw [chr, if_pos (by omega), h]; rfl
theorem chr_out {ds : List UInt8} {p j : Int} (h : p - 1 - j < 0 ∨ (ds.length : Int) ≤ p - 1 - j) : chr ds p j = 48 := by
  rw [chr, if_neg (by omega)]
theorem pc_plain {ds : List UInt8} {p lo j : Int} (h : ¬ (j = 0 ∧ lo < 0)) : pc ds p lo j = [chr ds p j] := by rw [pc, if_neg h]
theorem pc_dot {ds : List UInt8} {p lo j : Int} (h : j = 0 ∧ lo < 0) : pc ds p lo j = [chr ds p j, 46] := by rw [pc, if_pos h]
theorem drop_step (ds : List UInt8) (i : Nat) (h : i < ds.length) : ds.getD i 0 :: ds.drop (i + 1) = ds.drop i := by
  rw [List.drop_eq_getElem_cons h]
  simp [h]

theorem run1 (ds : List UInt8) (p : Int) (h1 : (ds.length : Int) ≤ p) : run ds p 0 p.toNat = ds ++ List.replicate (p.toNat - ds.length) 48 := by
  have a1 : ∀ m : Nat, (m : Int) ≤ p - ds.length → run ds p 0 m = List.replicate m 48 := by
    intro m
    induction m with
    | zero => intro _; rfl
    | succ m ih =>
      intro h
      rw [run, ih (by omega), pc_plain (by omega), chr_out (by omega)]; rfl
  have a2 : ∀ k : Nat, k ≤ ds.length → run ds p 0 (p.toNat - ds.length + k) = ds.drop (ds.length - k) ++ List.replicate (p.toNat - ds.length) 48 := by
    intro k
    induction k with
    | zero => intro _; rw [Nat.add_zero, a1 _ (by omega)]; simp
    | succ k ih =>
      intro h
      rw [← Nat.add_assoc, run, ih (by omega), pc_plain (by omega), chr_in (i := ds.length - (k + 1)) (by omega) (by omega), List.singleton_append, ← List.cons_append]
      congr 1
      rw [← drop_step ds (ds.length - (k + 1)) (by omega)]
      congr 2
      omega
  have := a2 ds.length (Nat.le_refl _)
  rw [Nat.sub_self, List.drop_zero, show p.toNat - ds.length + ds.length = p.toNat by omega] at this
  exact this

/-- The digits behind the point. -/
theorem run_tail (ds : List UInt8) (p : Int) (m : Nat) (h1 : m ≤ ds.length) (h2 : (m : Int) ≤ ds.length - p) : run ds p (p - ds.length) m = ds.drop (ds.length - m) := by
  induction m with
  | zero => simp [run]
  | succ m ih =>
    rw [run, ih (by omega) (by omega), pc_plain (by omega), chr_in (i := ds.length - (m + 1)) (by omega) (by omega), List.singleton_append, ← drop_step ds (ds.length - (m + 1)) (by omega)]
    congr 2
    omega
theorem run2 (ds : List UInt8) (p : Int) (h1 : ¬ (ds.length : Int) ≤ p) (h0 : 0 < p) : run ds p (p - ds.length) ds.length = ds.take p.toNat ++ [46] ++ ds.drop p.toNat := by
  obtain ⟨n, rfl⟩ : ∃ n : Nat, p = n := ⟨p.toNat, by omega⟩
  have a2 : ∀ k : Nat, k + 1 ≤ n → run ds n (n - ds.length) (ds.length - n + (k + 1)) = (ds.take n).drop (n - (k + 1)) ++ [46] ++ ds.drop n := by
    intro k
    induction k with
    | zero =>
      intro _
      rw [Nat.zero_add, run, run_tail ds n (ds.length - n) (by omega) (by omega), pc_dot (by omega), chr_in (i := n - 1) (by omega) (by omega)]
      have : (ds.take n).drop (n - 1) = [ds.getD (n - 1) 0] := by
        have e := drop_step (ds.take n) (n - 1) (by rw [List.length_take]; omega)
        rw [← e]
        have : List.drop (n - 1 + 1) (List.take n ds) = [] := by apply List.drop_eq_nil_of_le; rw [List.length_take]; omega
        rw [this]
        simp [show n - 1 < n by omega]
      rw [this]
      simp [show ds.length - (ds.length - n) = n by omega]
    | succ k ih =>
      intro h
      rw [← Nat.add_assoc, run, ih (by omega), pc_plain (by omega), chr_in (i := n - (k + 1 + 1)) (by omega) (by omega), List.singleton_append, ← List.cons_append, ← List.cons_append]
      congr 2
      have e := drop_step (ds.take n) (n - (k + 1 + 1)) (by rw [List.length_take]; omega)
      rw [← e, show n - (k + 1 + 1) + 1 = n - (k + 1) by omega]
      congr 1
      simp [show n - (k + 1 + 1) < n by omega]
  have := a2 (n - 1) (by omega)
  rw [show n - 1 + 1 = n by omega, Nat.sub_self, List.drop_zero, show ds.length - n + n = ds.length by omega] at this
  exact this
theorem run3 (ds : List UInt8) (p : Int) (hd : ds ≠ []) (h0 : p ≤ 0) : run ds p (p - ds.length) (ds.length + (-p).toNat + 1) = [48, 46] ++ List.replicate (-p).toNat 48 ++ ds := by
  have hp := List.length_pos_iff.mpr hd
  have a2 : ∀ k : Nat, k ≤ (-p).toNat → run ds p (p - ds.length) (ds.length + k) = List.replicate k 48 ++ ds := by
    intro k
    induction k with
    | zero => intro _; rw [Nat.add_zero, run_tail ds p _ (Nat.le_refl _) (by omega)]; simp
    | succ k ih =>
      intro h
      rw [← Nat.add_assoc, run, ih (by omega), pc_plain (by omega), chr_out (by omega)]; rfl
  rw [run, a2 _ (Nat.le_refl _), pc_dot (by omega), chr_out (by omega)]; rfl

/-- The model's text is the layout. -/
theorem run_layout (ds : List UInt8) (p hi lo : Int) (hd : ds ≠ []) (h0 : -6 < p) (h1 : p ≤ 21) (hhi : hi = max (p - 1) 0) (hlo : lo = min (p - ds.length) 0) : run ds p lo (hi - lo + 1).toNat = layout ds p := by
  have hp := List.length_pos_iff.mpr hd
  unfold layout
  by_cases c1 : (ds.length : Int) ≤ p
  · rw [if_pos ⟨c1, h1⟩, ← run1 ds p c1]
    obtain rfl : lo = 0 := by omega
    congr 1
    omega
  · rw [if_neg (by omega)]
    obtain rfl : lo = p - ds.length := by omega
    by_cases c2 : 0 < p
    · rw [if_pos ⟨c2, h1⟩, ← run2 ds p c1 c2]
      congr 1
      omega
    · rw [if_neg (by omega), if_pos (by omega), ← run3 ds p hd (by omega)]
      congr 1
      omega
/-- The signed exponent is the layout's. -/
theorem sgn_itoa (e : Int) : sgn e ++ Lib.decDigits e.natAbs = (if 0 ≤ e then [43] else []) ++ Lib.itoa e := by
  by_cases h : 0 ≤ e
  · obtain ⟨n, rfl⟩ : ∃ n : Nat, e = n := ⟨e.toNat, by omega⟩
    rw [sgn, if_pos h, if_pos h]
    congr 1
  · obtain ⟨n, rfl⟩ : ∃ n : Nat, e = -(n : Int) := ⟨e.natAbs, by omega⟩
    rw [sgn, if_neg h, if_neg h, Lib.itoa_neg n (by omega)]
    simp

theorem Dst.rd {B : Nat} {w : World} {v : Value} {l : List UInt8} (h : Dst B w v l) (hB : B ≤ w.heap.size) : Rd w.heap.size w v l := by
  rcases h with h | h
  · exact h.rd
  · exact h.1.mono hB
theorem Rd.cast {N : Nat} {w : World} {v : Value} {l m : List UInt8} (h : Rd N w v l) (e : l = m) : Rd N w v m := e ▸ h

set_option maxRecDepth 100000 in
set_option maxHeartbeats 4000000 in
theorem model_pos (vb : Value) (lb ds : List UInt8) (b off cap : Nat) (p : Int) (w : World) (hb : Full w.heap.size w vb lb) (hd : ds ≠ []) (hA : At w b off ds) (hl1 : lb.length ≤ 1048576) (hl2 : ds.length ≤ 1048576) (h0 : -6 < p) (h1 : p ≤ 21) :
    Calls Tryd.prog 9 #[vb, .slice (some ⟨b, off, none⟩) ds.length cap, .int .i64 p] w fun e w' => ∃ v', e = .returned v' ∧ Rd w'.heap.size w' v' (lb ++ layout ds p) ∧ Below w.heap.size w w' := by
  have hlt := hA.lt hd
  obtain ⟨hi, hhi⟩ : ∃ hi : Int, hi = max (p - 1) 0 := ⟨_, rfl⟩
  obtain ⟨lo, hlo⟩ : ∃ lo : Int, lo = min (p - ds.length) 0 := ⟨_, rfl⟩
  have RL : Hid (run ds p lo (hi - lo + 1).toNat = layout ds p) := run_layout ds p hi lo hd h0 h1 hhi hlo
  have hh : 0 ≤ hi ∧ hi ≤ 20 := by omega
  have hl : -1048590 ≤ lo ∧ lo ≤ 0 := by omega
  have HHI : Hid (hi = max (p - 1) 0) := hhi
  have HLO : Hid (lo = min (p - ds.length) 0) := hlo
  clear hhi hlo
  go_enter Tryd.func9, Tryd.ntmps9
  go_upto_if 22 with fail
  go_cut [8] (fun x wr => x = .int .i64 hi ∧ w = wr)
  case first =>
    have e := HHI.out
    by_cases c : 0 < p - 1
    · obtain rfl : hi = p - 1 := by omega
      clear e
      go_wp2
      go_meet
      case rel => exact ⟨rfl, rfl⟩
    · obtain rfl : hi = 0 := by omega
      clear e
      go_wp2
      go_meet
      case rel => exact ⟨rfl, rfl⟩
  case rest =>
  obtain ⟨rfl, rfl⟩ := hcut
  go_upto_if 28 with fail
  go_cut [9] (fun x wr => x = .int .i64 lo ∧ w = wr)
  case first =>
    have e := HLO.out
    by_cases c : p - ds.length < 0
    · obtain rfl : lo = p - ds.length := by omega
      clear e
      go_wp2
      go_meet
      case rel => exact ⟨rfl, rfl⟩
    · obtain rfl : lo = 0 := by omega
      clear e
      go_wp2
      go_meet
      case rel => exact ⟨rfl, rfl⟩
  case rest =>
  obtain ⟨rfl, rfl⟩ := hcut
  go_wp2
  go_loopw [0, 10] (fun x y wr => ∃ (m : Nat) (J : Int) (t : List UInt8), y = .int .i64 J ∧ J = lo + m - 1 ∧ J ≤ hi ∧ Dst w.heap.size wr x (lb ++ t) ∧ Hid (t ++ run ds p lo m = run ds p lo (hi - lo + 1).toNat) ∧ t.length ≤ 2 * (hi - J).toNat ∧ Below w.heap.size w wr) (fun _ y _ => (intOf y - lo + 1).toNat)
  case atStart => exact ⟨(hi - lo + 1).toNat, hi, [], rfl, by omega, by omega, .inr (by simpa using hb), by show _ = _; simp, by simp, Below.refl _ _⟩
  case round =>
    obtain ⟨m, J, t, rfl, hJ, hJh, o1, tx, tl, b1⟩ := hrel
    have hB1 := b1.size
    cases m with
    | zero =>
      have eb : decide (lo ≤ J) = false := by simp; omega
      have TX : Hid (t = layout ds p) := by show _ = _; rw [← RL.out, ← tx.out]; simp [run]
      go_wp2
      go_ret
      exact ⟨_, rfl, (o1.rd hB1).cast (by rw [TX.out]), b1⟩
    | succ m =>
      have EJ : Hid (lo + (m : Int) = J) := by show _ = _; omega
      have ST : Hid ((t ++ pc ds p lo J) ++ run ds p lo m = run ds p lo (hi - lo + 1).toNat) := by
        show _ = _
        rw [← tx.out, run, EJ.out, List.append_assoc]
      have hge : lo ≤ J := by omega
      have hJn : J - 1 = lo + (m : Int) - 1 := by omega
      have tl2 : t.length ≤ 2097300 := by omega
      have tl3 : t.length + 2 ≤ 2 * (hi - (J - 1)).toNat := by omega
      clear tx hJ
      by_cases ca : 0 ≤ p - 1 - J
      · by_cases cb : p - 1 - J < (ds.length : Int)
        · obtain ⟨i, ei⟩ : ∃ i : Nat, p - 1 - J = i := ⟨(p - 1 - J).toNat, by omega⟩
          have hil : i < ds.length := by omega
          have CH : Hid (chr ds p J = ds.getD i 0) := chr_in ei hil
          have cI := (hA.below b1 hlt) i hil
          by_cases dt : J = 0 ∧ lo < 0
          · have PC : Hid (pc ds p lo J = [ds.getD i 0, 46]) := by show _ = _; rw [pc_dot dt, CH.out]
            have dt1 := dt.1
            have dt2 := dt.2
            have dd1 : (J == 0) = true := beq_iff_eq.mpr dt1
            clear dt dt1
            go_wp2_with (first
              | (at_builtin; have _ := o2; refine wpList_app1 rfl _ _ rfl w.heap.size v2 _ rfl (.inl o2) b2.size 46 46 rfl rfl (by simp; omega) ?_; intro v3 w3 o3 b3; replace b3 := b2.trans b3)
              | (at_builtin; refine wpList_app1 rfl _ _ rfl w.heap.size _ _ rfl o1 hB1 (bt ds i) (ds.getD i 0) rfl rfl (by simp; omega) ?_; intro v2 w2 o2 b2; replace b2 := b1.trans b2))
            go_roundw
            case rel => exact ⟨m, J - 1, t ++ pc ds p lo J, by go_num, hJn, by omega, .inl (o3.cast (by rw [PC.out]; simp)), ST, by rw [PC.out]; simp; omega, b3⟩
            case measure => simp [intOf]; omega
          · have PC : Hid (pc ds p lo J = [ds.getD i 0]) := by show _ = _; rw [pc_plain dt, CH.out]
            by_cases dj : J = 0
            · have dd1 : (J == 0) = true := beq_iff_eq.mpr dj
              have dd2 : decide (lo < 0) = false := by simp; omega
              clear dt dj
              go_wp2_with (at_builtin; refine wpList_app1 rfl _ _ rfl w.heap.size _ _ rfl o1 hB1 (bt ds i) (ds.getD i 0) rfl rfl (by simp; omega) ?_; intro v2 w2 o2 b2; replace b2 := b1.trans b2)
              go_roundw
              case rel => exact ⟨m, J - 1, t ++ pc ds p lo J, by go_num, hJn, by omega, .inl (o2.cast (by rw [PC.out]; simp)), ST, by rw [PC.out]; simp; omega, b2⟩
              case measure => simp [intOf]; omega
            · have dd1 : (J == 0) = false := beq_eq_false_iff_ne.mpr dj
              clear dt dj
              go_wp2_with (at_builtin; refine wpList_app1 rfl _ _ rfl w.heap.size _ _ rfl o1 hB1 (bt ds i) (ds.getD i 0) rfl rfl (by simp; omega) ?_; intro v2 w2 o2 b2; replace b2 := b1.trans b2)
              go_roundw
              case rel => exact ⟨m, J - 1, t ++ pc ds p lo J, by go_num, hJn, by omega, .inl (o2.cast (by rw [PC.out]; simp)), ST, by rw [PC.out]; simp; omega, b2⟩
              case measure => simp [intOf]; omega
        · have CH : Hid (chr ds p J = 48) := chr_out (by omega)
          have db : decide (p - 1 - J < (ds.length : Int)) = false := by simp; omega
          by_cases dt : J = 0 ∧ lo < 0
          · have PC : Hid (pc ds p lo J = [48, 46]) := by show _ = _; rw [pc_dot dt, CH.out]
            have dt1 := dt.1
            have dt2 := dt.2
            have dd1 : (J == 0) = true := beq_iff_eq.mpr dt1
            clear dt dt1
            go_wp2_with (first
              | (at_builtin; have _ := o2; refine wpList_app1 rfl _ _ rfl w.heap.size v2 _ rfl (.inl o2) b2.size 46 46 rfl rfl (by simp; omega) ?_; intro v3 w3 o3 b3; replace b3 := b2.trans b3)
              | (at_builtin; refine wpList_app1 rfl _ _ rfl w.heap.size _ _ rfl o1 hB1 48 48 rfl rfl (by simp; omega) ?_; intro v2 w2 o2 b2; replace b2 := b1.trans b2))
            go_roundw
            case rel => exact ⟨m, J - 1, t ++ pc ds p lo J, by go_num, hJn, by omega, .inl (o3.cast (by rw [PC.out]; simp)), ST, by rw [PC.out]; simp; omega, b3⟩
            case measure => simp [intOf]; omega
          · have PC : Hid (pc ds p lo J = [48]) := by show _ = _; rw [pc_plain dt, CH.out]
            by_cases dj : J = 0
            · have dd1 : (J == 0) = true := beq_iff_eq.mpr dj
              have dd2 : decide (lo < 0) = false := by simp; omega
              clear dt dj
              go_wp2_with (at_builtin; refine wpList_app1 rfl _ _ rfl w.heap.size _ _ rfl o1 hB1 48 48 rfl rfl (by simp; omega) ?_; intro v2 w2 o2 b2; replace b2 := b1.trans b2)
              go_roundw
              case rel => exact ⟨m, J - 1, t ++ pc ds p lo J, by go_num, hJn, by omega, .inl (o2.cast (by rw [PC.out]; simp)), ST, by rw [PC.out]; simp; omega, b2⟩
              case measure => simp [intOf]; omega
            · have dd1 : (J == 0) = false := beq_eq_false_iff_ne.mpr dj
              clear dt dj
              go_wp2_with (at_builtin; refine wpList_app1 rfl _ _ rfl w.heap.size _ _ rfl o1 hB1 48 48 rfl rfl (by simp; omega) ?_; intro v2 w2 o2 b2; replace b2 := b1.trans b2)
              go_roundw
              case rel => exact ⟨m, J - 1, t ++ pc ds p lo J, by go_num, hJn, by omega, .inl (o2.cast (by rw [PC.out]; simp)), ST, by rw [PC.out]; simp; omega, b2⟩
              case measure => simp [intOf]; omega
      · have CH : Hid (chr ds p J = 48) := chr_out (by omega)
        have da : decide (0 ≤ p - 1 - J) = false := by simp; omega
        by_cases dt : J = 0 ∧ lo < 0
        · have PC : Hid (pc ds p lo J = [48, 46]) := by show _ = _; rw [pc_dot dt, CH.out]
          have dt1 := dt.1
          have dt2 := dt.2
          have dd1 : (J == 0) = true := beq_iff_eq.mpr dt1
          clear dt dt1
          go_wp2_with (first
            | (at_builtin; have _ := o2; refine wpList_app1 rfl _ _ rfl w.heap.size v2 _ rfl (.inl o2) b2.size 46 46 rfl rfl (by simp; omega) ?_; intro v3 w3 o3 b3; replace b3 := b2.trans b3)
            | (at_builtin; refine wpList_app1 rfl _ _ rfl w.heap.size _ _ rfl o1 hB1 48 48 rfl rfl (by simp; omega) ?_; intro v2 w2 o2 b2; replace b2 := b1.trans b2))
          go_roundw
          case rel => exact ⟨m, J - 1, t ++ pc ds p lo J, by go_num, hJn, by omega, .inl (o3.cast (by rw [PC.out]; simp)), ST, by rw [PC.out]; simp; omega, b3⟩
          case measure => simp [intOf]; omega
        · have PC : Hid (pc ds p lo J = [48]) := by show _ = _; rw [pc_plain dt, CH.out]
          by_cases dj : J = 0
          · have dd1 : (J == 0) = true := beq_iff_eq.mpr dj
            have dd2 : decide (lo < 0) = false := by simp; omega
            clear dt dj
            go_wp2_with (at_builtin; refine wpList_app1 rfl _ _ rfl w.heap.size _ _ rfl o1 hB1 48 48 rfl rfl (by simp; omega) ?_; intro v2 w2 o2 b2; replace b2 := b1.trans b2)
            go_roundw
            case rel => exact ⟨m, J - 1, t ++ pc ds p lo J, by go_num, hJn, by omega, .inl (o2.cast (by rw [PC.out]; simp)), ST, by rw [PC.out]; simp; omega, b2⟩
            case measure => simp [intOf]; omega
          · have dd1 : (J == 0) = false := beq_eq_false_iff_ne.mpr dj
            clear dt dj
            go_wp2_with (at_builtin; refine wpList_app1 rfl _ _ rfl w.heap.size _ _ rfl o1 hB1 48 48 rfl rfl (by simp; omega) ?_; intro v2 w2 o2 b2; replace b2 := b1.trans b2)
            go_roundw
            case rel => exact ⟨m, J - 1, t ++ pc ds p lo J, by go_num, hJn, by omega, .inl (o2.cast (by rw [PC.out]; simp)), ST, by rw [PC.out]; simp; omega, b2⟩
            case measure => simp [intOf]; omega

end Go.Proofs.Qxb6604065aDoor
