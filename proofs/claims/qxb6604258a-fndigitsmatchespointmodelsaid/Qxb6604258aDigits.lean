/-
  The walks of digits (9), its shim (6), digitsByPoint (7) and zzBytes (5).
-/
import Derived.Test.Qxb6604258aRows
import Derived.Test.Qxb6604258aPlain
import Derived.WalkKit
import Derived.WalkSpells
namespace Go.Proofs.Qxb6604258a
open Go.RowKit
open Plain

/-- The byte at j as a number. -/
def byt (s : ByteArray) (j : Nat) : Int := if h : j < s.size then (s[j].toNat : Int) else 0
theorem byt_at (s : ByteArray) (j : Nat) (h : j < s.size) : byt s j = (s[j].toNat : Int) := by unfold byt; rw [dif_pos h]

/-- The ways on which the text is refused. -/
theorem out_bad {b : Nat → Int} {n k : Nat} {p c : Int} (hk : k < n) (hg : DGood b k p) (hb : b k = c) (h : (c ≠ 46 ∧ ¬ (48 ≤ c ∧ c ≤ 57)) ∨ (c = 46 ∧ 0 ≤ p)) : DOut b n 0 0 false :=
  .inl ⟨⟨k, p, hk, hg, by rw [hb]; exact h⟩, rfl, rfl, rfl⟩

theorem out_none {b : Nat → Int} {n k : Nat} (hk : k ≤ n) (hn : ¬ k < n) (hg : DGood b k (-1)) {z : Bool} (hz : z = decide ((0 : Int) < n)) : DOut b n (k : Int) 0 z := by
  have e : k = n := by omega
  subst e; exact .inr (.inl ⟨hg, rfl, rfl, hz⟩)

theorem out_point {b : Nat → Int} {n k q : Nat} {y : Int} {z : Bool} (hk : k ≤ n) (hn : ¬ k < n) (hg : DGood b k (q : Int)) (hy : y = (k : Int) - q - 1) (hz : z = decide ((0 : Int) < q ∧ (0 : Int) < (k : Int) - q - 1)) : DOut b n (q : Int) y z := by
  have e : k = n := by omega
  subst e; exact .inr (.inr ⟨q, hg, rfl, hy, hz⟩)

theorem out_none2 {b : Nat → Int} {n k : Nat} (hk : k ≤ n) (hn : ¬ k < n) (hg : DGood b k (-1)) : DOut b n (n : Int) 0 (decide (0 < n)) := by
  have e : k = n := by omega
  subst e; exact .inr (.inl ⟨hg, rfl, rfl, by rw [Bool.eq_iff_iff]; simp⟩)

theorem out_point2 {b : Nat → Int} {n k q : Nat} (hk : k ≤ n) (hn : ¬ k < n) (hg : DGood b k (q : Int)) (h : (0 : Int) < q) : DOut b n (q : Int) ((n : Int) - q - 1) (decide (1 < (n : Int) - q)) := by
  have e : k = n := by omega
  subst e; exact .inr (.inr ⟨q, hg, rfl, rfl, by rw [Bool.eq_iff_iff]; simp; omega⟩)

theorem out_point3 {b : Nat → Int} {n k q : Nat} (hk : k ≤ n) (hn : ¬ k < n) (hg : DGood b k (q : Int)) (h : ¬ (0 : Int) < q) : DOut b n (q : Int) ((n : Int) - q - 1) false := by
  have e : k = n := by omega
  subst e; exact .inr (.inr ⟨q, hg, rfl, rfl, by rw [Bool.eq_iff_iff]; simp; omega⟩)

/-- Both readers' answer, behind a name. -/
def Ans (s : ByteArray) (e : Ending) : Prop := ∃ (x y : Int) (z : Bool), e = .returned (.tuple #[.int .i64 x, .int .i64 y, .bool z]) ∧ DOut (byt s) s.size x y z
theorem ans_mk {s : ByteArray} {x y : Int} {z : Bool} (h : DOut (byt s) s.size x y z) : Ans s (.returned (.tuple #[.int .i64 x, .int .i64 y, .bool z])) := ⟨x, y, z, rfl, h⟩

set_option maxHeartbeats 1600000 in
theorem digits_any (s : ByteArray) (w : World) (hs : s.size ≤ 1048576) :
    Calls Try.prog 9 #[.string s] w fun e w' => Ans s e ∧ w' = w := by
  go_enter Try.func9, Try.ntmps9
  go_wp2
  go_loop [2, 3, 5, 6] (fun wh fr pt i => ∃ k : Nat, k ≤ s.size ∧ i = .int .i64 k ∧ ((DGood (byt s) k (-1) ∧ pt = .bool false ∧ wh = .int .i64 k ∧ fr = .int .i64 0) ∨ (∃ q : Nat, q < k ∧ DGood (byt s) k q ∧ pt = .bool true ∧ wh = .int .i64 q ∧ fr = .int .i64 ((k : Int) - q - 1)))) (fun _ _ _ i => s.size - (intOf i).toNat)
  case atStart => exact ⟨0, Nat.zero_le _, rfl, .inl ⟨good_zero _, rfl, rfl, rfl⟩⟩
  case round =>
    obtain ⟨k, hk, rfl, ⟨hg, rfl, rfl, rfl⟩ | ⟨q, hq, hg, rfl, rfl, rfl⟩⟩ := hrel
    · have HG : Hid (DGood (byt s) k (-1)) := hg
      clear hg
      by_cases hlt : k < s.size
      · have HB : Hid (byt s k = (s[k].toNat : Int)) := byt_at s k hlt
        by_cases h1 : 48 ≤ (s[k].toNat : Int)
        · by_cases h2 : (s[k].toNat : Int) ≤ 57
          · go_wp2
            go_round
            case rel => exact ⟨k + 1, by omega, by go_num, .inl ⟨good_digit HG.out (by rw [HB.out]; exact h1) (by rw [HB.out]; exact h2), rfl, by go_num, rfl⟩⟩
            case measure => simp [intOf]; omega
          · have h3' : ((s[k].toNat : Int) == 46) = false := by simp; omega
            go_wp2
            go_ret3
            exact ⟨ans_mk (out_bad hlt HG.out HB.out (.inl ⟨by omega, by omega⟩)), rfl⟩
        · by_cases h3 : (s[k].toNat : Int) = 46
          · have h3' : ((s[k].toNat : Int) == 46) = true := by simpa using h3
            have H3 : Hid ((s[k].toNat : Int) = 46) := h3
            clear h3
            go_wp2
            go_round
            case rel => exact ⟨k + 1, by omega, by go_num, .inr ⟨k, by omega, good_point HG.out (by rw [HB.out]; exact H3.out), rfl, rfl, by go_num⟩⟩
            case measure => simp [intOf]; omega
          · have h3' : ((s[k].toNat : Int) == 46) = false := by simpa using h3
            go_wp2
            go_ret3
            exact ⟨ans_mk (out_bad hlt HG.out HB.out (.inl ⟨by omega, by omega⟩)), rfl⟩
      · by_cases h0 : (0 : Int) < k
        · go_wp2
          go_ret3
          exact ⟨ans_mk (out_none hk hlt HG.out (decide_eq_true (by omega)).symm), rfl⟩
        · go_wp2
          go_ret3
          exact ⟨ans_mk (out_none hk hlt HG.out (decide_eq_false (by omega)).symm), rfl⟩
    · have HG : Hid (DGood (byt s) k q) := hg
      clear hg
      by_cases hlt : k < s.size
      · have HB : Hid (byt s k = (s[k].toNat : Int)) := byt_at s k hlt
        by_cases h1 : 48 ≤ (s[k].toNat : Int)
        · by_cases h2 : (s[k].toNat : Int) ≤ 57
          · go_wp2
            go_round
            case rel => exact ⟨k + 1, by omega, by go_num, .inr ⟨q, by omega, good_digit HG.out (by rw [HB.out]; exact h1) (by rw [HB.out]; exact h2), rfl, rfl, by go_num⟩⟩
            case measure => simp [intOf]; omega
          · have h3' : ((s[k].toNat : Int) == 46) = false := by simp; omega
            go_wp2
            go_ret3
            exact ⟨ans_mk (out_bad hlt HG.out HB.out (.inl ⟨by omega, by omega⟩)), rfl⟩
        · by_cases h3 : (s[k].toNat : Int) = 46
          · have h3' : ((s[k].toNat : Int) == 46) = true := by simpa using h3
            have H3 : Hid ((s[k].toNat : Int) = 46) := h3
            clear h3
            go_wp2
            go_ret3
            exact ⟨ans_mk (out_bad hlt HG.out HB.out (.inr ⟨H3.out, by omega⟩)), rfl⟩
          · have h3' : ((s[k].toNat : Int) == 46) = false := by simpa using h3
            go_wp2
            go_ret3
            exact ⟨ans_mk (out_bad hlt HG.out HB.out (.inl ⟨by omega, by omega⟩)), rfl⟩
      · by_cases h0 : (0 : Int) < q
        · by_cases h1 : (0 : Int) < (k : Int) - q - 1
          all_goals
            go_wp2
            go_ret3
            exact ⟨ans_mk (out_point hk hlt HG.out rfl (by simp; omega)), rfl⟩
        · go_wp2
          go_ret3
          exact ⟨ans_mk (out_point hk hlt HG.out rfl (by simp; omega)), rfl⟩

set_option maxHeartbeats 400000 in
theorem zzDigits_any (s : ByteArray) (w : World) (hs : s.size ≤ 1048576) :
    Calls Try.prog 6 #[.string s] w fun e w' => Ans s e ∧ w' = w := by
  go_enter Try.func6, Try.ntmps6
  go_wp2_with (go_at_call 9; refine (digits_any s _ hs).mono ?_; rintro e w' ⟨⟨x, y, z, rfl, ho⟩, rfl⟩; have HO : Hid (DOut (byt s) s.size x y z) := ho; clear ho)
  go_ret3
  exact ⟨ans_mk HO.out, rfl⟩

set_option maxHeartbeats 1600000 in
theorem point_any (s : ByteArray) (w : World) (hs : s.size ≤ 1048576) :
    Calls Try.prog 7 #[.string s] w fun e w' => Ans s e ∧ w' = w := by
  go_enter Try.func7, Try.ntmps7
  go_wp2
  go_loop [5, 6] (fun pt i => ∃ (k : Nat) (p : Int), k ≤ s.size ∧ i = .int .i64 k ∧ DGood (byt s) k p ∧ pt = .int .i64 p) (fun _ i => s.size - (intOf i).toNat)
  case atStart => exact ⟨0, -1, Nat.zero_le _, rfl, good_zero _, rfl⟩
  case round =>
    obtain ⟨k, p, hk, rfl, hg, rfl⟩ := hrel
    have hp1 : -1 ≤ p := hg.1
    have hp2 : p < (k : Int) := hg.2.1
    have HG : Hid (DGood (byt s) k p) := hg
    clear hg
    by_cases hlt : k < s.size
    · have HB : Hid (byt s k = (s[k].toNat : Int)) := byt_at s k hlt
      by_cases h3 : (s[k].toNat : Int) = 46
      · have h3' : ((s[k].toNat : Int) == 46) = true := by simpa using h3
        have H3 : Hid ((s[k].toNat : Int) = 46) := h3
        clear h3
        by_cases h0 : 0 ≤ p
        · go_wp2
          go_ret3
          exact ⟨ans_mk (out_bad hlt HG.out HB.out (.inr ⟨H3.out, h0⟩)), rfl⟩
        · obtain rfl : p = -1 := by omega
          go_wp2
          go_round
          case rel => exact ⟨k + 1, k, by omega, by go_num, good_point HG.out (by rw [HB.out]; exact H3.out), rfl⟩
          case measure => simp [intOf]; omega
      · have h3' : ((s[k].toNat : Int) == 46) = false := by simpa using h3
        by_cases h1 : (s[k].toNat : Int) < 48
        · go_wp2
          go_ret3
          exact ⟨ans_mk (out_bad hlt HG.out HB.out (.inl ⟨by omega, by omega⟩)), rfl⟩
        · by_cases h2 : 57 < (s[k].toNat : Int)
          · go_wp2
            go_ret3
            exact ⟨ans_mk (out_bad hlt HG.out HB.out (.inl ⟨by omega, by omega⟩)), rfl⟩
          · go_wp2
            go_round
            case rel => exact ⟨k + 1, p, by omega, by go_num, good_digit HG.out (by rw [HB.out]; omega) (by rw [HB.out]; omega), rfl⟩
            case measure => simp [intOf]; omega
    · by_cases h0 : p < 0
      · obtain rfl : p = -1 := by omega
        go_wp2
        go_ret3
        exact ⟨ans_mk (out_none2 hk hlt HG.out), rfl⟩
      · obtain ⟨q, rfl⟩ := Int.eq_ofNat_of_zero_le (a := p) (by omega)
        by_cases h1 : (0 : Int) < q
        · go_wp2
          go_ret3
          exact ⟨ans_mk (out_point2 hk hlt HG.out h1), rfl⟩
        · go_wp2
          go_ret3
          exact ⟨ans_mk (out_point3 hk hlt HG.out (by omega)), rfl⟩

set_option maxHeartbeats 400000 in
theorem zzBytes_any (s : ByteArray) (w : World) (hs : s.size ≤ maxLen) :
    Calls Try.prog 5 #[.string s] w fun e w' => e = .returned (.bool (decide (s.size ≤ 1048576))) ∧ w' = w := by
  unfold maxLen at hs
  by_cases h : s.size ≤ 1048576
  · go_enter Try.func5, Try.ntmps5
    go_wp2
    go_ret
    exact ⟨by simp [h], rfl⟩
  · go_enter Try.func5, Try.ntmps5
    go_wp2
    go_ret
    exact ⟨by simp [h], rfl⟩
end Go.Proofs.Qxb6604258a
