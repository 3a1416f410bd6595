/-
  The walk of appendDigits.
-/
import Derived.Test.Qxb6604065aDoorForm
import Derived.Test.Qxb6604065aDoorShelf
namespace Go.Proofs.Qxb6604065aDoor
open Go.RowKit

/-- What is known of the table that strconv reads. -/
def Tab (B : Nat) (w : World) : Prop := Lib.TabBelow Tryd.prog B w "internal/strconv.uint64pow10" .u64 Lib.pow10Tab
theorem Tab.on {B : Nat} {w w' : World} (h : Tab B w) (k : Below B w w') : Tab B w' := Lib.TabBelow.on h k

/-- Scientific form. -/
def sci (ds : List UInt8) (e : Int) : List UInt8 :=
  ds.take 1 ++ (if ds.length ≤ 1 then [] else [46] ++ ds.drop 1) ++ [101] ++ (if 0 ≤ e then [43] else []) ++ Lib.itoa e
/-- What appendDigits appends. -/
def layout (ds : List UInt8) (p : Int) : List UInt8 :=
  if (ds.length : Int) ≤ p ∧ p ≤ 21 then ds ++ List.replicate (p.toNat - ds.length) 48
  else if 0 < p ∧ p ≤ 21 then ds.take p.toNat ++ [46] ++ ds.drop p.toNat
  else if -6 < p ∧ p ≤ 0 then [48, 46] ++ List.replicate (-p).toNat 48 ++ ds
  else sci ds (p - 1)


/-- strconv.AppendInt at base 10, by the shelf's contract. -/
theorem appInt_any (B : Nat) (v : Value) (l : List UInt8) (i : Int) (w : World) (h0 : -9223372036854775808 ≤ i) (h1 : i ≤ 9223372036854775807) (ho : Ow B w v l) (hB : B ≤ w.heap.size) (hlim : l.length ≤ 1099511627776) (ht : Tab B w) :
    Calls Tryd.prog 23 #[v, .int .i64 i, .int .i64 10] w fun e w' => ∃ v', e = .returned v' ∧ Ow B w' v' (l ++ Lib.itoa i) ∧ Below B w w' := by
  refine (Tryd.strconv_AppendInt_10 B l.length i h0 h1 v (Lib.byteCells l) w ho hB (by omega) ht).mono ?_
  rintro e w' ⟨v', rfl, o, b, _⟩
  refine ⟨v', rfl, ?_, b⟩
  unfold Ow
  rw [List.length_append, bc_app]
  exact o

theorem take_ne {ds : List UInt8} (hd : ds ≠ []) {n : Nat} (hn : 0 < n) : ds.take n ≠ [] := by
  intro e
  have h1 := congrArg List.length e
  have h2 := List.length_pos_iff.mpr hd
  rw [List.length_take, List.length_nil] at h1
  omega
theorem drop_ne {ds : List UInt8} {n : Nat} (hn : n < ds.length) : ds.drop n ≠ [] := by
  intro e
  have h1 := congrArg List.length e
  simp at h1
  omega

set_option maxHeartbeats 1000000 in
theorem digits_1 (vb : Value) (lb ds : List UInt8) (b off cap : Nat) (p : Int) (w : World) (hb : Full w.heap.size w vb lb) (hd : ds ≠ []) (hA : At w b off ds) (hl1 : lb.length ≤ 1048576) (hl2 : ds.length ≤ 1048576) (h1 : (ds.length : Int) ≤ p) (h2 : p ≤ 21) :
    Calls Tryd.prog 20 #[vb, .slice (some ⟨b, off, none⟩) ds.length cap, .int .i64 p] w fun e w' => ∃ v', e = .returned v' ∧ Ow w.heap.size w' v' (lb ++ (ds ++ List.replicate (p.toNat - ds.length) 48)) ∧ Below w.heap.size w w' := by
  have E1 : Hid (p - (ds.length : Int) = ((p.toNat - ds.length : Nat) : Int)) := by show _ = _; omega
  go_enter Tryd.func20, Tryd.ntmps20
  go_wp2_with (first
    | (at_builtin; refine wpList_app rfl _ _ rfl w.heap.size vb lb rfl (.inr hb) (Nat.le_refl _) b off cap ds ds.length rfl rfl hd hA (by omega) ?_; intro v1 w1 o1 b1)
    | (go_at_call 22; rw [E1.out]; refine (zeros_any w.heap.size v1 (lb ++ ds) (p.toNat - ds.length) w1 o1 b1.size (by simp; omega)).mono ?_; rintro e w2 ⟨v2, rfl, o2, b2⟩))
  go_ret
  exact ⟨_, rfl, o2.cast (by simp), b1.trans b2⟩

set_option maxHeartbeats 1000000 in
theorem digits_2 (vb : Value) (lb ds : List UInt8) (b off cap : Nat) (p : Int) (w : World) (hb : Full w.heap.size w vb lb) (hd : ds ≠ []) (hA : At w b off ds) (hcap : ds.length ≤ cap) (hl1 : lb.length ≤ 1048576) (hl2 : ds.length ≤ 1048576) (h1 : ¬ (ds.length : Int) ≤ p) (h0 : 0 < p) (h2 : p ≤ 21) :
    Calls Tryd.prog 20 #[vb, .slice (some ⟨b, off, none⟩) ds.length cap, .int .i64 p] w fun e w' => ∃ v', e = .returned v' ∧ Ow w.heap.size w' v' (lb ++ (ds.take p.toNat ++ [46] ++ ds.drop p.toNat)) ∧ Below w.heap.size w w' := by
  obtain ⟨n, rfl⟩ : ∃ n : Nat, p = n := ⟨p.toNat, by omega⟩
  go_enter Tryd.func20, Tryd.ntmps20
  go_wp2_with (first
    | (at_builtin; have _ := o2; refine wpList_app rfl _ _ rfl w.heap.size v2 _ rfl (.inl o2) (b1.trans b2).size b (off + n) _ (ds.drop n) (ds.length - n) (by rw [List.length_drop]) rfl (drop_ne (by omega)) ((hA.drop n).below (b1.trans b2) (hA.lt hd)) (by simp; omega) ?_; intro v3 w3 o3 b3)
    | (at_builtin; have _ := o1; refine wpList_app1 rfl _ _ rfl w.heap.size v1 _ rfl (.inl o1) b1.size 46 46 rfl rfl (by simp; omega) ?_; intro v2 w2 o2 b2)
    | (at_builtin; go_loud (refine wpList_app rfl _ _ rfl w.heap.size vb lb rfl (.inr hb) (Nat.le_refl _) b off _ (ds.take n) n (by rw [List.length_take]; omega) rfl (take_ne hd (by omega)) (hA.take n) (by simp; omega) ?_); intro v1 w1 o1 b1))
  go_ret
  refine ⟨_, rfl, ?_, (b1.trans b2).trans b3⟩
  exact o3.cast (by simp)

set_option maxHeartbeats 1000000 in
theorem digits_3 (vb : Value) (lb ds : List UInt8) (b off cap : Nat) (p : Int) (w : World) (hb : Full w.heap.size w vb lb) (hd : ds ≠ []) (hA : At w b off ds) (hl1 : lb.length ≤ 1048576) (hl2 : ds.length ≤ 1048576) (h0 : ¬ 0 < p) (h2 : -6 < p) :
    Calls Tryd.prog 20 #[vb, .slice (some ⟨b, off, none⟩) ds.length cap, .int .i64 p] w fun e w' => ∃ v', e = .returned v' ∧ Ow w.heap.size w' v' (lb ++ ([48, 46] ++ List.replicate (-p).toNat 48 ++ ds)) ∧ Below w.heap.size w w' := by
  have hp := List.length_pos_iff.mpr hd
  have E1 : Hid (-p = (((-p).toNat : Nat) : Int)) := by show _ = _; omega
  have hq : (-p).toNat ≤ 6 := by omega
  go_enter Tryd.func20, Tryd.ntmps20
  go_wp2_with (first
    | (at_builtin; have _ := o2; refine wpList_app rfl _ _ rfl w.heap.size v2 _ rfl (.inl o2) (b1.trans b2).size b off cap ds ds.length rfl rfl hd (hA.below (b1.trans b2) (hA.lt hd)) (by simp; omega) ?_; intro v3 w3 o3 b3)
    | (at_builtin; go_loud (refine wpList_app_str rfl _ _ rfl w.heap.size vb lb rfl hb (Nat.le_refl _) ⟨#[48, 46]⟩ [48, 46] rfl rfl (by simp) (by simp; omega) ?_); intro v1 w1 o1 b1)
    | (go_at_call 22; rw [E1.out]; refine (zeros_any w.heap.size v1 (lb ++ [48, 46]) ((-p).toNat) w1 o1 b1.size (by simp; omega)).mono ?_; rintro e w2 ⟨v2, rfl, o2, b2⟩))
  go_ret
  refine ⟨_, rfl, ?_, (b1.trans b2).trans b3⟩
  exact o3.cast (by simp)

theorem head_cell (ds : List UInt8) (hd : ds ≠ []) : [ds.getD 0 0] = ds.take 1 := by
  cases ds with
  | nil => exact absurd rfl hd
  | cons x r => rfl
set_option maxHeartbeats 2000000 in
theorem digits_4 (vb : Value) (lb ds : List UInt8) (b off cap : Nat) (p : Int) (w : World) (hb : Full w.heap.size w vb lb) (hd : ds ≠ []) (hA : At w b off ds) (hcap : ds.length ≤ cap) (hl1 : lb.length ≤ 1048576) (hl2 : ds.length ≤ 1048576) (ht : Tab w.heap.size w) (hr0 : -9223372036854775808 < p) (hr1 : p ≤ 9223372036854775807) (h1 : p ≤ -6 ∨ 21 < p) :
    Calls Tryd.prog 20 #[vb, .slice (some ⟨b, off, none⟩) ds.length cap, .int .i64 p] w fun e w' => ∃ v', e = .returned v' ∧ Ow w.heap.size w' v' (lb ++ (sci ds (p - 1))) ∧ Below w.heap.size w w' := by
  have hp := List.length_pos_iff.mpr hd
  have c0 := hA 0 hp
  rw [Nat.add_zero] at c0
  have hlt := hA.lt hd
  have hh := head_cell ds hd
  have HH : Hid ([ds.getD 0 0] = ds.take 1) := hh
  clear hh
  by_cases hk : 1 < ds.length
  · have eS : sci ds (p - 1) = ds.take 1 ++ ([46] ++ ds.drop 1) ++ [101] ++ (if 0 ≤ p - 1 then [43] else []) ++ Lib.itoa (p - 1) := by rw [sci, if_neg (show ¬ ds.length ≤ 1 by omega)]
    rw [eS]
    clear eS
    have hk1 : (1 : Int) < (ds.length : Int) := by omega
    rcases h1 with h1 | h1
    · rw [if_neg (by omega)]
      go_enter Tryd.func20, Tryd.ntmps20
      go_wp2_with (first
        | (at_builtin; have _ := o3; refine wpList_app1 rfl _ _ rfl w.heap.size v3 _ rfl (.inl o3) b3.size 101 101 rfl rfl (by simp; omega) ?_; intro v4 w4 o4 b4; replace b4 := b3.trans b4)
        | (at_builtin; have _ := o2; refine wpList_app rfl _ _ rfl w.heap.size v2 _ rfl (.inl o2) b2.size b (off + 1) _ (ds.drop 1) (ds.length - 1) (by rw [List.length_drop]) rfl (drop_ne hk) ((hA.drop 1).below b2 hlt) (by simp; omega) ?_; intro v3 w3 o3 b3; replace b3 := b2.trans b3)
        | (at_builtin; have _ := o1; refine wpList_app1 rfl _ _ rfl w.heap.size v1 _ rfl (.inl o1) b1.size 46 46 rfl rfl (by simp; omega) ?_; intro v2 w2 o2 b2; replace b2 := b1.trans b2)
        | (at_builtin; refine wpList_app1 rfl _ _ rfl w.heap.size vb lb rfl (.inr hb) (Nat.le_refl _) (bt ds 0) (ds.getD 0 0) rfl rfl (by omega) ?_; intro v1 w1 o1 b1)
        | (go_at_call 23; refine (appInt_any w.heap.size v4 _ (p - 1) w4 (by omega) (by omega) o4 b4.size (by simp; omega) (ht.on b4)).mono ?_; rintro e w6 ⟨v6, rfl, o6, b6⟩))
      all_goals (go_ret; exact ⟨_, rfl, o6.cast (by rw [HH.out]; simp), b4.trans b6⟩)
    · rw [if_pos (by omega)]
      go_enter Tryd.func20, Tryd.ntmps20
      go_wp2_with (first
        | (at_builtin; have _ := o4; refine wpList_app1 rfl _ _ rfl w.heap.size v4 _ rfl (.inl o4) b4.size 43 43 rfl rfl (by simp; omega) ?_; intro v5 w5 o5 b5; replace b5 := b4.trans b5)
        | (at_builtin; have _ := o3; refine wpList_app1 rfl _ _ rfl w.heap.size v3 _ rfl (.inl o3) b3.size 101 101 rfl rfl (by simp; omega) ?_; intro v4 w4 o4 b4; replace b4 := b3.trans b4)
        | (at_builtin; have _ := o2; refine wpList_app rfl _ _ rfl w.heap.size v2 _ rfl (.inl o2) b2.size b (off + 1) _ (ds.drop 1) (ds.length - 1) (by rw [List.length_drop]) rfl (drop_ne hk) ((hA.drop 1).below b2 hlt) (by simp; omega) ?_; intro v3 w3 o3 b3; replace b3 := b2.trans b3)
        | (at_builtin; have _ := o1; refine wpList_app1 rfl _ _ rfl w.heap.size v1 _ rfl (.inl o1) b1.size 46 46 rfl rfl (by simp; omega) ?_; intro v2 w2 o2 b2; replace b2 := b1.trans b2)
        | (at_builtin; refine wpList_app1 rfl _ _ rfl w.heap.size vb lb rfl (.inr hb) (Nat.le_refl _) (bt ds 0) (ds.getD 0 0) rfl rfl (by omega) ?_; intro v1 w1 o1 b1)
        | (go_at_call 23; refine (appInt_any w.heap.size v5 _ (p - 1) w5 (by omega) (by omega) o5 b5.size (by simp; omega) (ht.on b5)).mono ?_; rintro e w6 ⟨v6, rfl, o6, b6⟩))
      all_goals (go_ret; exact ⟨_, rfl, o6.cast (by rw [HH.out]; simp), b5.trans b6⟩)
  · have eS : sci ds (p - 1) = ds.take 1 ++ [] ++ [101] ++ (if 0 ≤ p - 1 then [43] else []) ++ Lib.itoa (p - 1) := by rw [sci, if_pos (show ds.length ≤ 1 by omega)]
    rw [eS]
    clear eS
    have hk1 : ¬ (1 : Int) < (ds.length : Int) := by omega
    rcases h1 with h1 | h1
    · rw [if_neg (by omega)]
      go_enter Tryd.func20, Tryd.ntmps20
      go_wp2_with (first
        | (at_builtin; have _ := o1; refine wpList_app1 rfl _ _ rfl w.heap.size v1 _ rfl (.inl o1) b1.size 101 101 rfl rfl (by simp; omega) ?_; intro v4 w4 o4 b4; replace b4 := b1.trans b4)
        | (at_builtin; refine wpList_app1 rfl _ _ rfl w.heap.size vb lb rfl (.inr hb) (Nat.le_refl _) (bt ds 0) (ds.getD 0 0) rfl rfl (by omega) ?_; intro v1 w1 o1 b1)
        | (go_at_call 23; refine (appInt_any w.heap.size v4 _ (p - 1) w4 (by omega) (by omega) o4 b4.size (by simp; omega) (ht.on b4)).mono ?_; rintro e w6 ⟨v6, rfl, o6, b6⟩))
      all_goals (go_ret; exact ⟨_, rfl, o6.cast (by rw [HH.out]; simp), b4.trans b6⟩)
    · rw [if_pos (by omega)]
      go_enter Tryd.func20, Tryd.ntmps20
      go_wp2_with (first
        | (at_builtin; have _ := o4; refine wpList_app1 rfl _ _ rfl w.heap.size v4 _ rfl (.inl o4) b4.size 43 43 rfl rfl (by simp; omega) ?_; intro v5 w5 o5 b5; replace b5 := b4.trans b5)
        | (at_builtin; have _ := o1; refine wpList_app1 rfl _ _ rfl w.heap.size v1 _ rfl (.inl o1) b1.size 101 101 rfl rfl (by simp; omega) ?_; intro v4 w4 o4 b4; replace b4 := b1.trans b4)
        | (at_builtin; refine wpList_app1 rfl _ _ rfl w.heap.size vb lb rfl (.inr hb) (Nat.le_refl _) (bt ds 0) (ds.getD 0 0) rfl rfl (by omega) ?_; intro v1 w1 o1 b1)
        | (go_at_call 23; refine (appInt_any w.heap.size v5 _ (p - 1) w5 (by omega) (by omega) o5 b5.size (by simp; omega) (ht.on b5)).mono ?_; rintro e w6 ⟨v6, rfl, o6, b6⟩))
      all_goals (go_ret; exact ⟨_, rfl, o6.cast (by rw [HH.out]; simp), b5.trans b6⟩)

/-- appendDigits. -/
theorem digits_any (vb : Value) (lb ds : List UInt8) (b off cap : Nat) (p : Int) (w : World) (hb : Full w.heap.size w vb lb) (hd : ds ≠ []) (hA : At w b off ds) (hcap : ds.length ≤ cap) (hl1 : lb.length ≤ 1048576) (hl2 : ds.length ≤ 1048576)
    (ht : Tab w.heap.size w) (hr0 : -9223372036854775808 < p) (hr1 : p ≤ 9223372036854775807) :
    Calls Tryd.prog 20 #[vb, .slice (some ⟨b, off, none⟩) ds.length cap, .int .i64 p] w fun e w' => ∃ v', e = .returned v' ∧ Ow w.heap.size w' v' (lb ++ layout ds p) ∧ Below w.heap.size w w' := by
  have hp := List.length_pos_iff.mpr hd
  unfold layout
  by_cases c1 : (ds.length : Int) ≤ p ∧ p ≤ 21
  · rw [if_pos c1]; exact digits_1 vb lb ds b off cap p w hb hd hA hl1 hl2 c1.1 c1.2
  · rw [if_neg c1]
    by_cases c2 : 0 < p ∧ p ≤ 21
    · rw [if_pos c2]; exact digits_2 vb lb ds b off cap p w hb hd hA hcap hl1 hl2 (by omega) c2.1 c2.2
    · rw [if_neg c2]
      by_cases c3 : -6 < p ∧ p ≤ 0
      · rw [if_pos c3]; exact digits_3 vb lb ds b off cap p w hb hd hA hl1 hl2 (by omega) c3.1
      · rw [if_neg c3]; exact digits_4 vb lb ds b off cap p w hb hd hA hcap hl1 hl2 ht hr0 hr1 (by omega)

set_option maxHeartbeats 400000 in
/-- ZZappendDigits. -/
theorem zdigits_any (vb : Value) (lb ds : List UInt8) (b off cap : Nat) (p : Int) (w : World) (hb : Full w.heap.size w vb lb) (hd : ds ≠ []) (hA : At w b off ds) (hcap : ds.length ≤ cap) (hl1 : lb.length ≤ 1048576) (hl2 : ds.length ≤ 1048576)
    (ht : Tab w.heap.size w) (hr0 : -9223372036854775808 < p) (hr1 : p ≤ 9223372036854775807) :
    Calls Tryd.prog 10 #[vb, .slice (some ⟨b, off, none⟩) ds.length cap, .int .i64 p] w fun e w' => ∃ v', e = .returned v' ∧ Ow w.heap.size w' v' (lb ++ layout ds p) ∧ Below w.heap.size w w' := by
  go_enter Tryd.func10, Tryd.ntmps10
  go_wp2_with (go_at_call 20; refine (digits_any vb lb ds b off cap p w hb hd hA hcap hl1 hl2 ht hr0 hr1).mono ?_; rintro e w1 ⟨v1, rfl, o1, b1⟩)
  go_ret
  exact ⟨_, rfl, o1, b1⟩

end Go.Proofs.Qxb6604065aDoor
