/-
  The walk of FnJailbreakClassifierBoundAgreesWithPIIBound, every input.
-/
import Derived.Test.Qxb6600293aJWalkA
import Derived.Test.Qxb6600293aJWalkB
namespace Go.Proofs.Qxb6600293a
open Go.RowKit

set_option maxHeartbeats 800000 in
theorem walk4 (m : ByteArray) (b1 : Bool) (t1 : Nat) (b2 : Bool) (t2 : Nat) (s1 : ByteArray) (b3 b4 b5 : Bool) (s2 : ByteArray) (b6 : Bool) (w : World) (hm : m.size ≤ maxLen) (h1 : s1.size ≤ maxLen) (h2 : s2.size ≤ maxLen) :
    Calls Try.prog 4 #[.string m, .bool b1, .float .f64 t1, .bool b2, .float .f64 t2, .string s1, .bool b3, .bool b4, .bool b5, .string s2, .bool b6] w
      fun e w' => e = .returned (.bool true) ∧ Below w.heap.size w w' := by
  by_cases q : ((m.size : Int) ≤ 65536 ∧ (s1.size : Int) ≤ 65536) ∧ (s2.size : Int) ≤ 65536
  · obtain ⟨⟨q0, q1⟩, q2⟩ := q
    by_cases hne : (m.toList == [99, 111, 110, 116, 114, 97, 115, 116, 105, 118, 101]) = true
    · go_enter Try.func4, Try.ntmps4
      go_wp2_with (go_at_call 11; refine (bytes11 _ _ _ _ _ _ _ _ _ _ _ _ hm h1 h2).mono ?_; rintro e w' ⟨⟨b, rfl⟩, hw⟩; rw [hw]; clear hw w')
      all_goals (go_ret; exact ⟨rfl, Below.refl _ _⟩)
    · have hne' : (m.toList == [99, 111, 110, 116, 114, 97, 115, 116, 105, 118, 101]) = false := by simpa using hne
      cases b1 <;> cases b2 <;> cases b3
      · exact walk4_000 m t1 t2 s1 b4 b5 s2 b6 w hm h1 h2 hne' q0 q1 q2
      · exact walk4_001 m t1 t2 s1 b4 b5 s2 b6 w hm h1 h2 hne' q0 q1 q2
      · exact walk4_010 m t1 t2 s1 b4 b5 s2 b6 w hm h1 h2 hne' q0 q1 q2
      · exact walk4_011 m t1 t2 s1 b4 b5 s2 b6 w hm h1 h2 hne' q0 q1 q2
      · exact walk4_100 m t1 t2 s1 b4 b5 s2 b6 w hm h1 h2 hne' q0 q1 q2
      · exact walk4_101 m t1 t2 s1 b4 b5 s2 b6 w hm h1 h2 hne' q0 q1 q2
      · exact walk4_110 m t1 t2 s1 b4 b5 s2 b6 w hm h1 h2 hne' q0 q1 q2
      · exact walk4_111 m t1 t2 s1 b4 b5 s2 b6 w hm h1 h2 hne' q0 q1 q2
  · rcases (show 65536 < (m.size : Int) ∨ 65536 < (s1.size : Int) ∨ 65536 < (s2.size : Int) from by omega) with g | g | g
    all_goals
      go_enter Try.func4, Try.ntmps4
      go_wp2_with (go_at_call 11; refine (bytes11 _ _ _ _ _ _ _ _ _ _ _ _ hm h1 h2).mono ?_; rintro e w' ⟨⟨b, rfl⟩, hw⟩; rw [hw]; clear hw w')
      all_goals (go_ret; exact ⟨rfl, Below.refl _ _⟩)
end Go.Proofs.Qxb6600293a
