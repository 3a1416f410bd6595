/-
  The walk of the bound on the total length.
-/
import Derived.Test.Qxb6604188aSmall
namespace Go.Proofs.Qxb6604188a
open Go.RowKit

/-- What the bound returns. -/
def RetZ (l l' l'' : List ByteArray) (en : Ending) : Prop := en = .returned (.bool false) ∨ (en = .returned (.bool true) ∧ l.length ≤ 1048576 ∧ l'.length ≤ 1048576 ∧ l''.length ≤ 1048576)

set_option maxRecDepth 100000 in
set_option maxHeartbeats 4000000 in
theorem zz_any (s0 s1 s4 s6 s8 s10 : ByteArray) (k : Int) (p q : Bool) (v v' v'' : Value) (l l' l'' : List ByteArray) (N : Nat) (w : World) (hr : Rd N w v l) (hr' : Rd N w v' l') (hr'' : Rd N w v'' l'') :
    Calls Try.prog 4 #[.string s0, .string s1, v, .int .i64 k, .string s4, .bool p, .string s6, .bool q, .string s8, v', .string s10, v''] w fun en w' => RetZ l l' l'' en ∧ w = w' := by
  obtain ⟨a, c, rfl, _, hA⟩ := hr.form
  obtain ⟨a', c', rfl, _, hA'⟩ := hr'.form
  obtain ⟨a'', c'', rfl, _, hA''⟩ := hr''.form
  clear hr hr' hr''
  go_enter Try.func4, Try.ntmps4
  go_wp2
  all_goals try (go_ret; exact ⟨.inl rfl, rfl⟩)
  have H0 : Hid (l.length ≤ 1048576) := by show _ ≤ _; omega
  go_loopw [25, 26] (fun x y wr => ∃ (s : Int) (i : Nat), x = .int .i64 s ∧ y = .int .i64 i ∧ 0 ≤ s ∧ s ≤ 1048576 ∧ i ≤ l.length ∧ w = wr) (fun _ y _ => l.length - (intOf y).toNat)
  case atStart => exact ⟨_, 0, rfl, rfl, by omega, by omega, by omega, rfl⟩
  case round =>
    obtain ⟨s, i, rfl, rfl, hs0, hs1, hi, rfl⟩ := hrel
    by_cases hlt : i < l.length
    · obtain ⟨b, off, rfl, _, _, hB⟩ := hA (fun e => by rw [e] at hlt; simp at hlt)
      have hc := hB i hlt
      go_wp2
      all_goals try (go_ret; exact ⟨.inl rfl, rfl⟩)
      go_roundw
      case rel => exact ⟨_, i + 1, rfl, by go_num, by omega, by omega, by omega, by simp⟩
      case measure => simp [intOf]; omega
    · obtain rfl : i = l.length := by omega
      clear hlt hi
      go_wp2
      all_goals try (go_ret; exact ⟨.inl rfl, rfl⟩)
      have H1 : Hid (l'.length ≤ 1048576) := by show _ ≤ _; omega
      go_loopw [25, 27] (fun x y wr => ∃ (s : Int) (i : Nat), x = .int .i64 s ∧ y = .int .i64 i ∧ 0 ≤ s ∧ s ≤ 1048576 ∧ i ≤ l'.length ∧ w = wr) (fun _ y _ => l'.length - (intOf y).toNat)
      case atStart => exact ⟨_, 0, rfl, rfl, by omega, by omega, by omega, rfl⟩
      case round =>
        obtain ⟨s, i, rfl, rfl, hs0, hs1, hi, rfl⟩ := hrel
        by_cases hlt : i < l'.length
        · obtain ⟨b, off, rfl, _, _, hB⟩ := hA' (fun e => by rw [e] at hlt; simp at hlt)
          have hc := hB i hlt
          go_wp2
          all_goals try (go_ret; exact ⟨.inl rfl, rfl⟩)
          go_roundw
          case rel => exact ⟨_, i + 1, rfl, by go_num, by omega, by omega, by omega, by simp⟩
          case measure => simp [intOf]; omega
        · obtain rfl : i = l'.length := by omega
          clear hlt hi
          go_wp2
          all_goals try (go_ret; exact ⟨.inl rfl, rfl⟩)
          have H2 : Hid (l''.length ≤ 1048576) := by show _ ≤ _; omega
          go_loopw [25, 28] (fun x y wr => ∃ (s : Int) (i : Nat), x = .int .i64 s ∧ y = .int .i64 i ∧ 0 ≤ s ∧ s ≤ 1048576 ∧ i ≤ l''.length ∧ w = wr) (fun _ y _ => l''.length - (intOf y).toNat)
          case atStart => exact ⟨_, 0, rfl, rfl, by omega, by omega, by omega, rfl⟩
          case round =>
            obtain ⟨s, i, rfl, rfl, hs0, hs1, hi, rfl⟩ := hrel
            by_cases hlt : i < l''.length
            · obtain ⟨b, off, rfl, _, _, hB⟩ := hA'' (fun e => by rw [e] at hlt; simp at hlt)
              have hc := hB i hlt
              go_wp2
              all_goals try (go_ret; exact ⟨.inl rfl, rfl⟩)
              go_roundw
              case rel => exact ⟨_, i + 1, rfl, by go_num, by omega, by omega, by omega, by simp⟩
              case measure => simp [intOf]; omega
            · obtain rfl : i = l''.length := by omega
              clear hlt hi
              go_wp2
              all_goals try (go_ret; exact ⟨.inl rfl, rfl⟩)
              go_ret
              exact ⟨.inr ⟨rfl, H0.out, H1.out, H2.out⟩, rfl⟩

end Go.Proofs.Qxb6604188a
