/-
  '==' and '!=' on two Settings that are one: the walk's own way compares the struct's field tags too, at length; here the fields are told by their types and places alone.
-/
import Derived.Test.Qxb6604208aLens
namespace Go.Proofs.Qxb6604208a

theorem flds23 : (Try.prog.fieldsOf 23).toList.map (fun f => (f.type, f.offset)) = [(2, 0), (2, 1), (2, 2), (2, 3)] := by kernel_rfl
theorem names23 : (Try.prog.fieldsOf 23).toList.all (fun f => f.name != "_") = true := by kernel_rfl
theorem under23 : Try.prog.underlying 23 = some (.struct (Try.prog.fieldsOf 23)) := by kernel_rfl
theorem stood23 : Try.prog.stoodInHeld 23 = false := by kernel_rfl

theorem field_same {f : Field} {fs : List Field} {xs : Array Value} {k : Nat} {x : Int} (w : World) (ht : f.type = 2) (ho : f.offset = k) (hn : (f.name != "_") = true) (hx : xs[k]? = some (.int .i64 x)) :
    (Op.eqFields 9999 xs xs (f :: fs)).run Try.prog w = (Op.eqFields 9999 xs xs fs).run Try.prog w := by
  have hn' : f.name ≠ "_" := by simpa using hn
  have hp : (part 2 xs k).run Try.prog w = .ok (.int .i64 x) w := by
    simp [part, hx, go_sem]
  have he := run_equalIn_int (P := Try.prog) w 9998 2 .i64 .i64 x x Try.underlying2
  simp only [Op.eqFields, ht, ho]
  rw [if_pos hn']
  simp [Sem.run_bind, hp, he, Result.andThen_ok]

theorem four_of {α : Type} {l : List α} (h : l.length = 4) : ∃ a b c d, l = [a, b, c, d] := by
  match l, h with
  | [a, b, c, d], _ => exact ⟨a, b, c, d, rfl⟩

theorem fields_same (x3 x4 x5 x6 : Int) (w : World) :
    (Op.eqFields 9999 #[.int .i64 x3, .int .i64 x4, .int .i64 x5, .int .i64 x6] #[.int .i64 x3, .int .i64 x4, .int .i64 x5, .int .i64 x6] (Try.prog.fieldsOf 23).toList).run Try.prog w = .ok true w := by
  have h1 := flds23
  have h2 := names23
  generalize (Try.prog.fieldsOf 23).toList = l at h1 h2
  have hl : l.length = 4 := by have := congrArg List.length h1; simpa using this
  obtain ⟨f0, f1, f2, f3, rfl⟩ := four_of hl
  simp only [List.map_cons, List.map_nil, List.cons.injEq, Prod.mk.injEq, and_true] at h1
  simp only [List.all_cons, List.all_nil, Bool.and_true, Bool.and_eq_true] at h2
  obtain ⟨⟨a0, b0⟩, ⟨a1, b1⟩, ⟨a2, b2⟩, a3, b3⟩ := h1
  obtain ⟨e0, e1, e2, e3⟩ := h2
  rw [field_same w a0 b0 e0 rfl, field_same w a1 b1 e1 rfl, field_same w a2 b2 e2 rfl, field_same w a3 b3 e3 rfl]
  rfl

theorem set_neq (x3 x4 x5 x6 : Int) (w : World) : (binOp .neq 23 (.agg #[.int .i64 x3, .int .i64 x4, .int .i64 x5, .int .i64 x6]) (.agg #[.int .i64 x3, .int .i64 x4, .int .i64 x5, .int .i64 x6])).run Try.prog w = .ok (.bool false) w := by
  rw [run_neq_struct, run_equalIn_struct w 9999 23 _ _ under23 stood23, fields_same]; rfl

theorem set_eql (x3 x4 x5 x6 : Int) (w : World) : (binOp .eql 23 (.agg #[.int .i64 x3, .int .i64 x4, .int .i64 x5, .int .i64 x6]) (.agg #[.int .i64 x3, .int .i64 x4, .int .i64 x5, .int .i64 x6])).run Try.prog w = .ok (.bool true) w := by
  rw [run_eql_struct, run_equalIn_struct w 9999 23 _ _ under23 stood23, fields_same]; rfl
end Go.Proofs.Qxb6604208a
