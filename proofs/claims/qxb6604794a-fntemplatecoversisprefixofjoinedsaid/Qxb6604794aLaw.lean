/-
  The walk of the law 'FnTemplateCoversIsPrefixOfJoined'.
-/
import Derived.Test.Qxb6604794aJoined
namespace Go.Proofs.Qxb6604794a
open Go.RowKit

set_option maxRecDepth 100000 in
set_option maxHeartbeats 2000000 in
theorem law_walk (g : Int) (c : ByteArray) (v vk : Value) (l : List ByteArray) (kb : List UInt8) (w : World) (hr : Rd w.heap.size w v l) (hk : By.Rd w.heap.size w vk kb) :
    Calls Try.prog 3 #[.int .u8 g, v, .string c, vk] w fun en w' => en = .returned (.bool true) ∧ Below w.heap.size w w' := by
  obtain ⟨ak, ck, ek, _, _⟩ := hk.form
  subst ek
  go_enter Try.func3, Try.ntmps3
  go_wp2_with (first
    | (go_at_call 5; refine (zz_any g c v l ak kb.length ck w.heap.size w hr).mono ?_; rintro e w' ⟨hz, rfl⟩; rcases hz with rfl | ⟨rfl, h1, h2, h3, h4⟩)
    | (go_at_call 6; have _ := h4; refine (big_any c v l ak kb.length ck w.heap.size w hr).mono ?_; rintro e w' ⟨⟨r0, rfl⟩, rfl⟩; cases r0)
    | (go_at_call 7; have _ := h4; refine (clone_any w.heap.size v l w hr h1).mono ?_; rintro e w1 ⟨v1, rfl, r1, b1⟩)
    | (go_at_call 8; have _ := b1; refine (By.clone_any w.heap.size _ kb w1 (hk.below b1) h3).mono ?_; rintro e w2 ⟨v2, rfl, ⟨k2, _⟩, b2⟩; have r2 := (r1.below b2).mono b2.size; have b02 := b1.trans (b2.mono b1.size))
    | (go_at_call 9; have _ := b02; refine (zcovers_any g v1 v2 l c kb w2 r2 k2 h1).mono ?_; rintro e w3 ⟨p3, b3⟩; have r3 := (r2.below b3).mono b3.size; have k3 := (k2.below b3).mono b3.size; have b03 := b02.trans (b3.mono b02.size); rcases p3 with ⟨p3, rfl⟩ | ⟨p3, rfl⟩)
    | (go_at_call 10; have _ := b03; refine (joined_any v1 v2 l c kb w3 r3 k3 h1 h3 h2 h4).mono ?_; rintro e w4 ⟨p4, b4⟩; have b04 := b03.trans (b4.mono b03.size); rcases p4 with ⟨p4, rfl⟩ | ⟨p4, rfl⟩))
  all_goals first
    | exact absurd p3 p4
    | exact absurd p4 p3
    | (go_ret; exact ⟨rfl, b04⟩)
    | (go_ret; exact ⟨rfl, Below.refl _ _⟩)

end Go.Proofs.Qxb6604794a
