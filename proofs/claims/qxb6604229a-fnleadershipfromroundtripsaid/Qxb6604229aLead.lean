/-
  The contracts of newLeadership (8), leadershipFrom (9) and their shims (6, 7): what each answers, and that it lays new blocks alone.
-/
import Derived.Test.Qxb6604229aRows
import Derived.WalkKit
import Derived.WalkSpells
import Derived.RowKit3
namespace Go.Proofs.Qxb6604229a
open Go.RowKit

set_option maxHeartbeats 400000 in
theorem newL_any (a0 a1 : Int) (a2 : Bool) (l t : Int) (n : Bool) (hl : l = if a0 = -1 then 0 else a0) (hn : n = !decide (a0 = -1)) (ht : t = if a2 then a1 else 0) (w : World) :
    Calls Try.prog 8 #[.int .i64 a0, .int .i64 a1, .bool a2] w fun e w' => e = .returned (.agg #[.int .i64 l, .bool n, .int .i64 t, .bool a2]) ∧ ∃ c1 c2 : Array Value, w' = (w.alloc (.cells c1 24)).alloc (.cells c2 24) := by
  subst hl hn ht
  by_cases h : a0 = -1
  · subst h
    cases a2
    all_goals
      go_enter Try.func8, Try.ntmps8
      go_wp2
      simp [bodyPost, results, Try.results8, go_sem]
      exact ⟨_, _, rfl⟩
  · have h' : (a0 == -1) = false := by simpa using h
    cases a2
    all_goals
      go_enter Try.func8, Try.ntmps8
      go_wp2
      simp [bodyPost, results, Try.results8, go_sem]
      exact ⟨_, _, rfl⟩

set_option maxHeartbeats 400000 in
theorem zzNew_any (a0 a1 : Int) (a2 : Bool) (l t : Int) (n : Bool) (hl : l = if a0 = -1 then 0 else a0) (hn : n = !decide (a0 = -1)) (ht : t = if a2 then a1 else 0) (w : World) :
    Calls Try.prog 6 #[.int .i64 a0, .int .i64 a1, .bool a2] w fun e w' => e = .returned (.agg #[.int .i64 l, .bool n, .int .i64 t, .bool a2]) ∧ ∃ c1 c2 c3 : Array Value, w' = ((w.alloc (.cells c1 24)).alloc (.cells c2 24)).alloc (.cells c3 24) := by
  have c := fun w => newL_any a0 a1 a2 l t n hl hn ht w
  have C : Hid (∀ w, Calls Try.prog 8 #[.int .i64 a0, .int .i64 a1, .bool a2] w fun e w' => e = .returned (.agg #[.int .i64 l, .bool n, .int .i64 t, .bool a2]) ∧ ∃ c1 c2 : Array Value, w' = (w.alloc (.cells c1 24)).alloc (.cells c2 24)) := c
  clear c hl hn ht
  go_enter Try.func6, Try.ntmps6
  go_wp2_with (go_at_call 8; refine (C.out _).mono ?_; rintro e w' ⟨rfl, c1, c2, rfl⟩)
  simp [bodyPost, results, Try.results6, go_sem]
  exact ⟨_, _, _, rfl⟩

/-- Where a pointer to an int leads: nil, or to a cell that holds z. -/
def PtsTo (w : World) (p : Option Addr) (z : Int) (b : Bool) : Prop :=
  (p = none ∧ b = false ∧ z = 0) ∨ (∃ k o, p = some ⟨k, o, none⟩ ∧ b = true ∧ k < w.heap.size ∧ w.cell? ⟨k, o, none⟩ = some (.int .i64 z))

set_option maxHeartbeats 400000 in
theorem fromL_any (p q : Option Addr) (l t : Int) (n h : Bool) (w : World) (hp : PtsTo w p l n) (hq : PtsTo w q t h) :
    Calls Try.prog 9 #[.pointer p, .pointer q] w fun e w' => e = .returned (.agg #[.int .i64 l, .bool n, .int .i64 t, .bool h]) ∧ ∃ c1 c2 : Array Value, w' = (w.alloc (.cells c1 24)).alloc (.cells c2 24) := by
  rcases hp with ⟨rfl, rfl, rfl⟩ | ⟨k, o, rfl, rfl, hk, hc⟩ <;> rcases hq with ⟨rfl, rfl, rfl⟩ | ⟨k', o', rfl, rfl, hk', hc'⟩
  all_goals
    go_enter Try.func9, Try.ntmps9
    go_wp2
    simp [bodyPost, results, Try.results9, go_sem]
    exact ⟨_, _, rfl⟩

set_option maxHeartbeats 400000 in
theorem zzFrom_any (p q : Option Addr) (l t : Int) (n h : Bool) (w : World) (hp : PtsTo w p l n) (hq : PtsTo w q t h) :
    Calls Try.prog 7 #[.pointer p, .pointer q] w fun e w' => e = .returned (.agg #[.int .i64 l, .bool n, .int .i64 t, .bool h]) ∧ ∃ c1 c2 c3 : Array Value, w' = ((w.alloc (.cells c1 24)).alloc (.cells c2 24)).alloc (.cells c3 24) := by
  have up : ∀ (r : Option Addr) (z : Int) (b : Bool) (o : Obj), PtsTo w r z b → PtsTo (w.alloc o) r z b := by
    rintro r z b o (⟨rfl, rfl, rfl⟩ | ⟨k, o, rfl, rfl, hk, hc⟩)
    · exact .inl ⟨rfl, rfl, rfl⟩
    · exact .inr ⟨k, o, rfl, rfl, by simp; omega, by rw [World.cell?_alloc_past _ _ _ (by simpa using hk)]; exact hc⟩
  have C : Hid (∀ o, Calls Try.prog 9 #[.pointer p, .pointer q] (w.alloc o) fun e w' => e = .returned (.agg #[.int .i64 l, .bool n, .int .i64 t, .bool h]) ∧ ∃ c1 c2 : Array Value, w' = ((w.alloc o).alloc (.cells c1 24)).alloc (.cells c2 24)) := fun o => fromL_any p q l t n h _ (up _ _ _ _ hp) (up _ _ _ _ hq)
  clear up hp hq
  go_enter Try.func7, Try.ntmps7
  go_wp2_with (go_at_call 9; refine (C.out _).mono ?_; rintro e w' ⟨rfl, c1, c2, rfl⟩)
  simp [bodyPost, results, Try.results7, go_sem]
  exact ⟨_, _, _, rfl⟩
end Go.Proofs.Qxb6604229a
