/-
  Settings.fields (20), mb1Settings (8), mb1SettingIndex (10): what each answers.
-/
import Derived.Test.Qxb6604208aRows
import Derived.WalkKit
import Derived.WalkSpells
import Derived.BigRegion
import Derived.ChangeAlike
namespace Go.Proofs.Qxb6604208a
open Go.RowKit

/-- A fact kept from the walk. -/
theorem hide {p : Prop} (h : p) : Hid p := h

/-- The settings' names, as the program's text has them. -/
def nm : Nat → ByteArray
  | 0 => { data := #[115, 101, 115, 115, 105, 111, 110, 95, 116, 105, 109, 101, 111, 117, 116, 95, 109, 115] }
  | 1 => { data := #[112, 114, 101, 102, 101, 114, 114, 101, 100, 95, 108, 101, 97, 100, 101, 114, 95, 105, 110, 116, 101, 114, 118, 97, 108, 95, 109, 115] }
  | 2 => { data := #[112, 114, 111, 100, 117, 99, 101, 114, 95, 101, 120, 112, 105, 114, 121, 95, 109, 115] }
  | _ => { data := #[111, 102, 102, 115, 101, 116, 115, 95, 115, 101, 103, 109, 101, 110, 116, 95, 98, 121, 116, 101, 115] }

/-- The least values. -/
def lst : Nat → Int
  | 1 => -1
  | _ => 1

/-- The row of settings that 'fields' lays for the Settings in block B. -/
def fieldsBlk (B : Nat) : Obj :=
  .cells #[.string (nm 0), .pointer (some ⟨B, 0, none⟩), .int .i64 (lst 0), .string (nm 1), .pointer (some ⟨B, 1, none⟩), .int .i64 (lst 1), .string (nm 2), .pointer (some ⟨B, 2, none⟩), .int .i64 (lst 2), .string (nm 3), .pointer (some ⟨B, 3, none⟩), .int .i64 (lst 3)] 60

set_option maxHeartbeats 400000 in
theorem fields_any (B : Nat) (w : World) :
    Calls Try.prog 20 #[.pointer (some ⟨B, 0, none⟩)] w fun e w' => e = .returned (.slice (some ⟨w.heap.size, 0, none⟩) 4 4) ∧ w' = (w.alloc (fieldsBlk B)).drew := by
  go_enter Try.func20, Try.ntmps20
  go_wp2
  go_region
  all_goals go_wp2
  go_ret
  exact ⟨rfl, rfl⟩

/-- The cells of that row. -/
theorem fields_cells (w : World) (B k : Nat) (hk : k < 4) :
    (w.alloc (fieldsBlk B)).cell? ⟨w.heap.size, 3 * k, none⟩ = some (.string (nm k)) ∧
    (w.alloc (fieldsBlk B)).cell? ⟨w.heap.size, 3 * k + 1, none⟩ = some (.pointer (some ⟨B, k, none⟩)) ∧
    (w.alloc (fieldsBlk B)).cell? ⟨w.heap.size, 3 * k + 2, none⟩ = some (.int .i64 (lst k)) := by
  obtain rfl | rfl | rfl | rfl : k = 0 ∨ k = 1 ∨ k = 2 ∨ k = 3 := by omega
  all_goals simp [fieldsBlk, go_sem]

set_option maxHeartbeats 400000 in
theorem settings_any (a b c d : Int) (w : World) :
    Calls Try.prog 8 #[.int .i64 a, .int .i64 b, .int .i64 c, .int .i64 d] w fun e w' => e = .returned (.agg #[.int .i64 a, .int .i64 b, .int .i64 c, .int .i64 d]) ∧ ∃ c1 : Array Value, w' = w.alloc (.cells c1 23) := by
  go_enter Try.func8, Try.ntmps8
  go_wp2
  simp [bodyPost, results, Try.results8, go_sem]
  exact ⟨_, rfl⟩

set_option maxHeartbeats 400000 in
theorem index_any (k : Nat) (hk : k < 4) (w : World) :
    Calls Try.prog 10 #[.string (nm k)] w fun e w' => e = .returned (.int .i64 (k : Int)) ∧ w' = w := by
  obtain rfl | rfl | rfl | rfl : k = 0 ∨ k = 1 ∨ k = 2 ∨ k = 3 := by omega
  all_goals
    unfold nm
    go_enter Try.func10, Try.ntmps10
    go_wp2
    go_ret
    exact ⟨rfl, rfl⟩
end Go.Proofs.Qxb6604208a
