/-
  The plain law: no Go in sight. 'b': the bytes of the text as numbers; 'n': its length. 'DGood b k p': the first k bytes are digits but for the point at p (p = -1: no point). 'DOut b n x y z': what both readers answer. The answer is one: 'out_one'.
-/
import Derived.KernelRfl
namespace Go.Proofs.Qxb6604258a.Plain

def DGood (b : Nat → Int) (k : Nat) (p : Int) : Prop :=
  -1 ≤ p ∧ p < (k : Int) ∧ (∀ q : Nat, p = (q : Int) → b q = 46) ∧ ∀ j : Nat, j < k → (j : Int) ≠ p → 48 ≤ b j ∧ b j ≤ 57

def DBad (b : Nat → Int) (n : Nat) : Prop :=
  ∃ (k : Nat) (p : Int), k < n ∧ DGood b k p ∧ ((b k ≠ 46 ∧ ¬ (48 ≤ b k ∧ b k ≤ 57)) ∨ (b k = 46 ∧ 0 ≤ p))

def DOut (b : Nat → Int) (n : Nat) (x y : Int) (z : Bool) : Prop :=
  (DBad b n ∧ x = 0 ∧ y = 0 ∧ z = false) ∨
  (DGood b n (-1) ∧ x = (n : Int) ∧ y = 0 ∧ z = decide ((0 : Int) < n)) ∨
  (∃ p : Nat, DGood b n (p : Int) ∧ x = (p : Int) ∧ y = (n : Int) - p - 1 ∧ z = decide ((0 : Int) < p ∧ (0 : Int) < (n : Int) - p - 1))

theorem good_zero (b : Nat → Int) : DGood b 0 (-1) := ⟨by omega, by omega, fun q h => by omega, fun j h => by omega⟩

theorem good_digit {b : Nat → Int} {k : Nat} {p : Int} (h : DGood b k p) (h1 : 48 ≤ b k) (h2 : b k ≤ 57) : DGood b (k + 1) p := by
  obtain ⟨g1, g2, g3, g4⟩ := h
  refine ⟨g1, by omega, g3, fun j hj hp => ?_⟩
  by_cases e : j = k
  · subst e; exact ⟨h1, h2⟩
  · exact g4 j (by omega) hp

theorem good_point {b : Nat → Int} {k : Nat} (h : DGood b k (-1)) (h1 : b k = 46) : DGood b (k + 1) (k : Int) := by
  obtain ⟨g1, g2, g3, g4⟩ := h
  refine ⟨by omega, by omega, fun q hq => ?_, fun j hj hp => ?_⟩
  · have e : q = k := by omega
    subst e; exact h1
  · exact g4 j (by omega) (by omega)

theorem bad_not_good {b : Nat → Int} {n : Nat} {q : Int} (h : DBad b n) (g : DGood b n q) : False := by
  obtain ⟨k, p, hk, ⟨g1, g2, g3, g4⟩, hb⟩ := h
  obtain ⟨f1, f2, f3, f4⟩ := g
  have hkq : (k : Int) = q := by
    by_cases e : (k : Int) = q
    · exact e
    · have := f4 k hk e
      omega
  have hb46 := f3 k hkq.symm
  rcases hb with ⟨h1, _⟩ | ⟨_, h2⟩
  · exact h1 hb46
  · obtain ⟨r, hr⟩ := Int.eq_ofNat_of_zero_le h2
    have hr46 := g3 r hr
    have := f4 r (by omega) (by omega)
    omega

theorem good_one {b : Nat → Int} {n : Nat} {p q : Int} (g : DGood b n p) (h : DGood b n q) (hp : 0 ≤ p) : p = q := by
  obtain ⟨g1, g2, g3, g4⟩ := g
  obtain ⟨h1, h2, h3, h4⟩ := h
  obtain ⟨r, hr⟩ := Int.eq_ofNat_of_zero_le hp
  by_cases e : p = q
  · exact e
  · have a := g3 r hr
    have c := h4 r (by omega) (by omega)
    omega

theorem out_one {b : Nat → Int} {n : Nat} {x y x' y' : Int} {z z' : Bool} (h : DOut b n x y z) (h' : DOut b n x' y' z') : x = x' ∧ y = y' ∧ z = z' := by
  rcases h with ⟨hb, rfl, rfl, rfl⟩ | ⟨hg, rfl, rfl, rfl⟩ | ⟨p, hg, rfl, rfl, rfl⟩ <;> rcases h' with ⟨hb', rfl, rfl, rfl⟩ | ⟨hg', rfl, rfl, rfl⟩ | ⟨p', hg', rfl, rfl, rfl⟩
  · exact ⟨rfl, rfl, rfl⟩
  · exact (bad_not_good hb hg').elim
  · exact (bad_not_good hb hg').elim
  · exact (bad_not_good hb' hg).elim
  · exact ⟨rfl, rfl, rfl⟩
  · have := good_one hg' hg (by omega); omega
  · exact (bad_not_good hb' hg).elim
  · have := good_one hg hg' (by omega); omega
  · have e := good_one hg hg' (by omega)
    have e' : p = p' := by omega
    subst e'; exact ⟨rfl, rfl, rfl⟩

end Go.Proofs.Qxb6604258a.Plain
