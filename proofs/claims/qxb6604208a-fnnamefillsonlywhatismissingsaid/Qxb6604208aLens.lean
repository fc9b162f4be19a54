/-
  The two bounds on lengths (19, 15): each answers true or false, and touches nothing.
-/
import Derived.Test.Qxb6604208aName
namespace Go.Proofs.Qxb6604208a
open Go.RowKit

/-- Yes or no. -/
def YN (e : Ending) : Prop := e = .returned (.bool true) ∨ e = .returned (.bool false)
theorem yes : YN (.returned (.bool true)) := .inl rfl
theorem no : YN (.returned (.bool false)) := .inr rfl

set_option maxHeartbeats 1600000 in
theorem bytes19 (s0 s2 s4 : ByteArray) (a1 a3 a5 : Option Addr) (n1 c1 n3 c3 n5 c5 : Nat) (w : World) (h0 : s0.size ≤ maxLen) (h1 : n1 ≤ maxLen) (h2 : s2.size ≤ maxLen) (h3 : n3 ≤ maxLen) (h4 : s4.size ≤ maxLen) (h5 : n5 ≤ maxLen) :
    Calls Try.prog 19 #[.string s0, .slice a1 n1 c1, .string s2, .slice a3 n3 c3, .string s4, .slice a5 n5 c5] w fun e w' => YN e ∧ w' = w := by
  unfold maxLen at h0 h1 h2 h3 h4 h5
  go_enter Try.func19, Try.ntmps19
  go_wp2
  all_goals (go_ret; first | exact ⟨yes, rfl⟩ | exact ⟨no, rfl⟩)

set_option maxHeartbeats 1600000 in
theorem bytes15 (s0 s7 : ByteArray) (a1 a8 : Option Addr) (n1 c1 n8 c8 : Nat) (x2 x3 x4 x5 x6 : Int) (w : World) (h0 : s0.size ≤ maxLen) (h1 : n1 ≤ maxLen) (h7 : s7.size ≤ maxLen) (h8 : n8 ≤ maxLen) :
    Calls Try.prog 15 #[.string s0, .slice a1 n1 c1, .int .i64 x2, .int .i64 x3, .int .i64 x4, .int .i64 x5, .int .i64 x6, .string s7, .slice a8 n8 c8] w fun e w' => YN e ∧ w' = w := by
  unfold maxLen at h0 h1 h7 h8
  go_enter Try.func15, Try.ntmps15
  go_wp2
  all_goals (go_ret; first | exact ⟨yes, rfl⟩ | exact ⟨no, rfl⟩)
end Go.Proofs.Qxb6604208a
