/-
  The plain part of the law on Mismatches: which settings differ.
-/
import Derived.Test.Qxb6604208aFields
namespace Go.Proofs.Qxb6604208a

/-- Both are given, and differ. -/
def dif (x y : Int) : Bool := !(x == 0) && !(y == 0) && !(x == y)

/-- Of the first k settings those that differ. -/
def lis (s o : Nat → Int) : Nat → List Nat
  | 0 => []
  | k + 1 => lis s o k ++ (if dif (s k) (o k) then [k] else [])

/-- The cells of one entry, and of a list of them. -/
def entry (s o : Nat → Int) (j : Nat) : List Value := [.string (nm j), .int .i64 (s j), .int .i64 (o j)]
def entries (s o : Nat → Int) (l : List Nat) : List Value := l.flatMap (entry s o)

theorem lis_hit {s o : Nat → Int} {k : Nat} (h : dif (s k) (o k) = true) : lis s o (k + 1) = lis s o k ++ [k] := by simp [lis, h]
theorem lis_miss {s o : Nat → Int} {k : Nat} (h : dif (s k) (o k) = false) : lis s o (k + 1) = lis s o k := by simp [lis, h]
theorem lis_le (s o : Nat → Int) (k : Nat) : (lis s o k).length ≤ k := by
  induction k with
  | zero => simp [lis]
  | succ k ih => unfold lis; split <;> simp <;> omega
theorem entries_snoc (s o : Nat → Int) (l : List Nat) (k : Nat) : entries s o (l ++ [k]) = entries s o l ++ entry s o k := by simp [entries]

end Go.Proofs.Qxb6604208a
