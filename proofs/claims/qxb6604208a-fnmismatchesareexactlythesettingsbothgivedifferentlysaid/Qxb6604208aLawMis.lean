/-
  The walk of FnMismatchesAreExactlyTheSettingsBothGiveDifferently (3).
-/
import Derived.Test.Qxb6604208aMis
import Derived.Lib.SliceRun
namespace Go.Proofs.Qxb6604208a
open Go.RowKit

theorem lis_mem {s o : Nat → Int} {m k j : Nat} (h : (lis s o m)[k]? = some j) : j < m ∧ dif (s j) (o j) = true := by
  induction m with
  | zero => simp [lis] at h
  | succ m ih =>
    by_cases hd : dif (s m) (o m) = true
    · rw [lis_hit hd, List.getElem?_append] at h
      split at h
      · have := ih h; exact ⟨by omega, this.2⟩
      · have e : k - (lis s o m).length = 0 := by
          by_cases e : k - (lis s o m).length = 0
          · exact e
          · rw [List.getElem?_eq_none (by simp; omega)] at h; simp at h
        rw [e] at h; simp at h; subst h; exact ⟨by omega, hd⟩
    · rw [lis_miss (by simpa using hd)] at h
      have := ih h; exact ⟨by omega, this.2⟩

theorem lis_sorted {s o : Nat → Int} {m k j j' : Nat} (h : (lis s o m)[k]? = some j) (h' : (lis s o m)[k + 1]? = some j') : j < j' := by
  induction m with
  | zero => simp [lis] at h
  | succ m ih =>
    by_cases hd : dif (s m) (o m) = true
    · rw [lis_hit hd, List.getElem?_append] at h h'
      split at h'
      · rw [if_pos (by omega)] at h; exact ih h h'
      · have e : k + 1 - (lis s o m).length = 0 := by
          by_cases e : k + 1 - (lis s o m).length = 0
          · exact e
          · rw [List.getElem?_eq_none (by simp; omega)] at h'; simp at h'
        rw [e] at h'; simp at h'; subst h'
        rw [if_pos (by omega)] at h
        exact (lis_mem h).1
    · rw [lis_miss (by simpa using hd)] at h h'
      exact ih h h'

theorem entries_at (s o : Nat → Int) (l : List Nat) (k j : Nat) (h : l[k]? = some j) :
    (entries s o l)[k * 3]? = some (.string (nm j)) ∧ (entries s o l)[k * 3 + 1]? = some (.int .i64 (s j)) ∧ (entries s o l)[k * 3 + 2]? = some (.int .i64 (o j)) := by
  induction l generalizing k with
  | nil => simp at h
  | cons x l ih =>
    have e : entries s o (x :: l) = .string (nm x) :: .int .i64 (s x) :: .int .i64 (o x) :: entries s o l := by simp [entries, entry]
    rw [e]
    match k, h with
    | 0, h => simp at h; subst h; simp
    | k + 1, h =>
      simp at h
      have := ih k h
      have e1 : (k + 1) * 3 = k * 3 + 3 := by omega
      rw [e1]
      simpa using this

/-- The slice that Mismatches hands back, where it is not nil. -/
theorem own_open {s o : Nat → Int} {w : World} {base : Nat} {v : Value} {l : List Nat} (h : w.ownsRow base 30 3 v l.length (entries s o l)) (hl : l ≠ []) :
    ∃ g cap, v = .slice (some ⟨g, 0, none⟩) l.length cap ∧ g < w.heap.size ∧ ∀ k j, l[k]? = some j →
      w.cell? ⟨g, k * 3, none⟩ = some (.string (nm j)) ∧ w.cell? ⟨g, k * 3 + 1, none⟩ = some (.int .i64 (s j)) ∧ w.cell? ⟨g, k * 3 + 2, none⟩ = some (.int .i64 (o j)) := by
  obtain ⟨_, ⟨_, h0⟩ | ⟨g, cap, cur, rfl, _, hg, _, _, hsz, ht⟩⟩ := h
  · exact (hl (List.length_eq_zero_iff.1 h0)).elim
  · refine ⟨g, cap, rfl, ?_, fun k j hk => ?_⟩
    · by_cases e : g < w.heap.size
      · exact e
      · rw [Array.getElem?_eq_none (by omega)] at hg; simp at hg
    · have hlt : k < l.length := by
        by_cases e : k < l.length
        · exact e
        · rw [List.getElem?_eq_none (by omega)] at hk; simp at hk
      have E := entries_at s o l k j hk
      rw [← ht] at E
      rw [List.getElem?_take_of_lt (by omega), List.getElem?_take_of_lt (by omega), List.getElem?_take_of_lt (by omega)] at E
      simp only [Array.getElem?_toList] at E
      simp [World.cell?, hg, E]

theorem mism_nil (s o : Nat → Int) (w : World) (hl : lis s o 4 = []) :
    Calls Try.prog 9 #[.agg #[.int .i64 (s 0), .int .i64 (s 1), .int .i64 (s 2), .int .i64 (s 3)], .agg #[.int .i64 (o 0), .int .i64 (o 1), .int .i64 (o 2), .int .i64 (o 3)]] w fun e w' =>
      e = .returned (.slice none 0 0) ∧ Below w.heap.size w w' :=
  (mism_any s o w).mono fun _ _ ⟨_, he, _, hb, hn⟩ => ⟨by rw [he, hn hl], hb⟩

/-- Where the entries lie. -/
def Got (s o : Nat → Int) (g : Nat) (w : World) : Prop :=
  g < w.heap.size ∧ ∀ k j, (lis s o 4)[k]? = some j →
    w.cell? ⟨g, k * 3, none⟩ = some (.string (nm j)) ∧ w.cell? ⟨g, k * 3 + 1, none⟩ = some (.int .i64 (s j)) ∧ w.cell? ⟨g, k * 3 + 2, none⟩ = some (.int .i64 (o j))

theorem mism_row (s o : Nat → Int) (w : World) (hl : lis s o 4 ≠ []) (n : Nat) (hn : n = (lis s o 4).length) :
    Calls Try.prog 9 #[.agg #[.int .i64 (s 0), .int .i64 (s 1), .int .i64 (s 2), .int .i64 (s 3)], .agg #[.int .i64 (o 0), .int .i64 (o 1), .int .i64 (o 2), .int .i64 (o 3)]] w fun e w' =>
      ∃ g cap, e = .returned (.slice (some ⟨g, 0, none⟩) n cap) ∧ Got s o g w' ∧ Below w.heap.size w w' :=
  (mism_any s o w).mono fun _ _ ⟨_, he, ho, hb, _⟩ => by
    obtain ⟨g, cap, hv, hg⟩ := own_open ho hl
    exact ⟨g, cap, by rw [he, hv, hn], hg, hb⟩

theorem four_at (w : World) (s : Nat → Int) (k : Nat) (hk : k < 4) : (w.alloc (.cells #[.int .i64 (s 0), .int .i64 (s 1), .int .i64 (s 2), .int .i64 (s 3)] 27)).cell? ⟨w.heap.size, k, none⟩ = some (.int .i64 (s k)) := by
  obtain rfl | rfl | rfl | rfl : k = 0 ∨ k = 1 ∨ k = 2 ∨ k = 3 := by omega
  all_goals simp [go_sem]

/-- What both loops read. -/
def Read (s o : Nat → Int) (N : Nat) (w : World) : Prop :=
  ∀ k, k < 4 → w.cell? ⟨N, k, none⟩ = some (.int .i64 (s k)) ∧ w.cell? ⟨N + 1, k, none⟩ = some (.int .i64 (o k))

theorem read_start (s o : Nat → Int) (w : World) : Read s o w.heap.size ((w.alloc (.cells #[.int .i64 (s 0), .int .i64 (s 1), .int .i64 (s 2), .int .i64 (s 3)] 27)).alloc (.cells #[.int .i64 (o 0), .int .i64 (o 1), .int .i64 (o 2), .int .i64 (o 3)] 27)) := by
  intro k hk
  refine ⟨?_, ?_⟩
  · rw [World.cell?_alloc_past _ _ _ (by simp)]; exact four_at w s k hk
  · have := four_at (w.alloc (.cells #[.int .i64 (s 0), .int .i64 (s 1), .int .i64 (s 2), .int .i64 (s 3)] 27)) o k hk
    simpa using this

theorem Read.drewN {s o : Nat → Int} {N : Nat} {w : World} (h : Read s o N w) (n : Nat) : Read s o N (w.drewN n) := h

theorem below_law {w w1 : World} {a b c d e f : Obj} (h : Below ((((w.alloc a).alloc b).alloc c).alloc d).heap.size ((((w.alloc a).alloc b).alloc c).alloc d) w1) : Below w.heap.size w ((w1.alloc e).alloc f) := by
  have hs := h.size
  simp at hs
  have b0 : Below w.heap.size w ((((w.alloc a).alloc b).alloc c).alloc d) := ((((Below.refl _ _).alloc (Nat.le_refl _) _).alloc (by simp) _).alloc (by simp; omega) _).alloc (by simp; omega) _
  exact ((b0.trans (h.mono (by simp; omega))).alloc (by omega) _).alloc (by simp; omega) _

set_option maxHeartbeats 1600000 in
theorem law_nil (s o : Nat → Int) (w : World) (hl : lis s o 4 = []) :
    Calls Try.prog 3 #[.int .i64 (s 0), .int .i64 (s 1), .int .i64 (s 2), .int .i64 (s 3), .int .i64 (o 0), .int .i64 (o 1), .int .i64 (o 2), .int .i64 (o 3)] w fun e w' => e = .returned (.bool true) ∧ Below w.heap.size w w' := by
  have heq := fun w => Lib.run_eql_slice_nil (P := Try.prog) w 25 30 none 0 0 0 0 Try.underlying25
  have HN : Hid (lis s o 4 = []) := hl
  clear hl
  go_enter Try.func3, Try.ntmps3
  go_wp2_with (first | (go_at_call 8; refine (settings_any _ _ _ _ _).mono ?_; rintro e w' ⟨rfl, c1, rfl⟩) | (go_at_call 9; refine (mism_nil s o _ HN.out).mono ?_; rintro e w1 ⟨rfl, hbel⟩; have HB := hide hbel; clear hbel))
  go_loop [22, 23] (fun z i => z = .int .i64 (-1) ∧ i = .int .i64 0) (fun _ _ => 0)
  case atStart => exact ⟨rfl, rfl⟩
  case round =>
    obtain ⟨rfl, rfl⟩ := hrel
    go_wp2
    go_loopw [27, 28] (fun wt i wr => ∃ k : Nat, k ≤ 4 ∧ i = .int .i64 k ∧ wt = .int .i64 (lis s o k).length ∧ Read s o w1.heap.size wr ∧ Below w.heap.size w wr) (fun _ i _ => 4 - (intOf i).toNat)
    case atStart => exact ⟨0, by omega, rfl, rfl, read_start s o w1, below_law HB.out⟩
    case round =>
      obtain ⟨k, hk, rfl, rfl, hread, hbel⟩ := hrel
      have HR := hide hread
      have HB := hide hbel
      have hle := lis_le s o k
      clear hbel
      by_cases hlt : k < 4
      · have hd : decide ((k : Int) < 4) = true := by simp; omega
        obtain ⟨r1, r2⟩ := hread k hlt
        clear hread
        by_cases g1 : s k = 0
        · have HL : Hid (lis s o (k + 1) = lis s o k) := lis_miss (by simp [dif, g1])
          have t1 : (s k != 0) = false := by simpa using g1
          clear g1
          go_wp2_with fail
          go_quiet (fail)
          go_wp2
          go_roundw
          case rel => exact ⟨k + 1, by omega, by go_num, by rw [HL.out], HR.out.drewN _, below_drewN HB.out _⟩
          case measure => simp [intOf]; omega
        have t1 : (s k != 0) = true := by simpa using g1
        by_cases g2 : o k = 0
        · have HL : Hid (lis s o (k + 1) = lis s o k) := lis_miss (by simp [dif, g2])
          have t2 : (o k != 0) = false := by simpa using g2
          clear g1 g2
          go_wp2_with fail
          go_quiet (fail)
          go_wp2
          go_roundw
          case rel => exact ⟨k + 1, by omega, by go_num, by rw [HL.out], HR.out.drewN _, below_drewN HB.out _⟩
          case measure => simp [intOf]; omega
        have t2 : (o k != 0) = true := by simpa using g2
        by_cases g3 : s k = o k
        · have HL : Hid (lis s o (k + 1) = lis s o k) := lis_miss (by simp [dif, g3])
          have t3 : (s k != o k) = false := by simpa using g3
          clear g1 g2 g3
          go_wp2_with fail
          go_quiet (fail)
          go_wp2
          go_roundw
          case rel => exact ⟨k + 1, by omega, by go_num, by rw [HL.out], HR.out.drewN _, below_drewN HB.out _⟩
          case measure => simp [intOf]; omega
        have t3 : (s k != o k) = true := by simpa using g3
        have HL : Hid ((lis s o (k + 1)).length = (lis s o k).length + 1) := by show _ = _; rw [lis_hit (by simp [dif, g1, g2, g3])]; simp
        clear g1 g2 g3
        go_wp2_with fail
        go_quiet (fail)
        go_wp2
        go_roundw
        case rel => exact ⟨k + 1, by omega, by go_num, by rw [HL.out]; go_num, HR.out.drewN _, below_drewN HB.out _⟩
        case measure => simp [intOf]; omega
      · obtain rfl : k = 4 := by omega
        clear hread
        rw [HN.out]
        go_wp2
        go_ret
        exact ⟨rfl, HB.out⟩
/-- The row's way: something differs. -/
theorem past2 {g i : Nat} {w : World} {a b : Obj} (h : g < w.heap.size) : ((w.alloc a).alloc b).cell? ⟨g, i, none⟩ = w.cell? ⟨g, i, none⟩ := by
  rw [World.cell?_alloc_past _ _ _ (by simp; omega), World.cell?_alloc_past _ _ _ h]

theorem got_start {s o : Nat → Int} {g : Nat} {w : World} {a b : Obj} (h : Got s o g w) : Got s o g ((w.alloc a).alloc b) := by
  obtain ⟨h1, h2⟩ := h
  refine ⟨by simp; omega, fun k j hk => ?_⟩
  rw [past2 h1, past2 h1, past2 h1]
  exact h2 k j hk

set_option maxRecDepth 100000 in
set_option maxHeartbeats 1600000 in
theorem law_row (s o : Nat → Int) (w : World) (hl : lis s o 4 ≠ []) :
    Calls Try.prog 3 #[.int .i64 (s 0), .int .i64 (s 1), .int .i64 (s 2), .int .i64 (s 3), .int .i64 (o 0), .int .i64 (o 1), .int .i64 (o 2), .int .i64 (o 3)] w fun e w' => e = .returned (.bool true) ∧ Below w.heap.size w w' := by
  obtain ⟨n, hn⟩ : ∃ n, n = (lis s o 4).length := ⟨_, rfl⟩
  have HC : Hid (∀ W, Calls Try.prog 9 #[.agg #[.int .i64 (s 0), .int .i64 (s 1), .int .i64 (s 2), .int .i64 (s 3)], .agg #[.int .i64 (o 0), .int .i64 (o 1), .int .i64 (o 2), .int .i64 (o 3)]] W fun e w' =>
      ∃ g cap, e = .returned (.slice (some ⟨g, 0, none⟩) n cap) ∧ Got s o g w' ∧ Below W.heap.size W w') := fun W => mism_row s o W hl n hn
  have hn4 : n ≤ 4 := by rw [hn]; exact lis_le s o 4
  have hn0 : 0 < n := by rw [hn]; exact List.length_pos_iff.2 hl
  have HN : Hid (n = (lis s o 4).length) := hn
  clear hn hl
  go_enter Try.func3, Try.ntmps3
  go_wp2_with (first | (go_at_call 8; refine (settings_any _ _ _ _ _).mono ?_; rintro e w' ⟨rfl, c1, rfl⟩) | (go_at_call 9; refine (HC.out _).mono ?_; rintro e w1 ⟨g, cap, rfl, hgot, hbel⟩; have HB := hide hbel; have HG := hide hgot; clear hbel hgot))
  go_loopw [22, 23] (fun zl i wr => ∃ (k : Nat) (z : Int), k ≤ n ∧ i = .int .i64 k ∧ zl = .int .i64 z ∧ (∀ j : Nat, (lis s o 4)[k]? = some j → z < (j : Int)) ∧ Read s o w1.heap.size wr ∧ Got s o g wr ∧ Below w.heap.size w wr) (fun _ i _ => n - (intOf i).toNat)
  case atStart => exact ⟨0, -1, by omega, rfl, rfl, fun j _ => by omega, read_start s o w1, got_start HG.out, below_law HB.out⟩
  case round =>
    obtain ⟨k, z, hk, rfl, rfl, hz, hread, hgot, hbel⟩ := hrel
    clear HB HG HC
    have HR := hide hread
    have HB := hide hbel
    have HG := hide hgot
    by_cases hlt : k < n
    · obtain ⟨j, hj⟩ : ∃ j, (lis s o 4)[k]? = some j := by rw [HN.out] at hlt; exact ⟨_, List.getElem?_eq_getElem hlt⟩
      have hzj : z < (j : Int) := hz j hj
      obtain ⟨hj4, hdif⟩ := lis_mem hj
      obtain ⟨r1, r2⟩ := hread j hj4
      obtain ⟨q1, q2, q3⟩ := hgot.2 k j hj
      have HZ : Hid (∀ j' : Nat, (lis s o 4)[k + 1]? = some j' → (j : Int) < (j' : Int)) := fun j' h' => by have := lis_sorted hj h'; omega
      simp [dif] at hdif
      obtain ⟨⟨g1, g2⟩, g3⟩ := hdif
      have t1 : (s j == 0) = false := by simpa using g1
      have t2 : (o j == 0) = false := by simpa using g2
      have t3 : (s j == o j) = false := by simpa using g3
      clear hz hj hread hgot hbel g1 g2 g3
      go_wp2_with fail
      refine (index_any j hj4 _).mono ?_
      rintro e w' ⟨rfl, rfl⟩
      go_wp2_with fail
      go_roundw
      case rel => exact ⟨k + 1, j, by omega, by go_num, rfl, HZ.out, HR.out, HG.out, HB.out⟩
      case measure => simp [intOf]; omega
    · clear hz hread hgot hbel HG
      go_wp2
      go_loopw [27, 28] (fun wt i wx => ∃ k : Nat, k ≤ 4 ∧ i = .int .i64 k ∧ wt = .int .i64 (lis s o k).length ∧ Read s o w1.heap.size wx ∧ Below w.heap.size w wx) (fun _ i _ => 4 - (intOf i).toNat)
      case atStart => exact ⟨0, by omega, rfl, rfl, HR.out, HB.out⟩
      case round =>
        obtain ⟨k, hk, rfl, rfl, hread, hbel⟩ := hrel
        clear HR HB
        have HR := hide hread
        have HB := hide hbel
        have hle := lis_le s o k
        clear hbel
        by_cases hlt : k < 4
        · have hd : decide ((k : Int) < 4) = true := by simp; omega
          obtain ⟨r1, r2⟩ := hread k hlt
          clear hread
          by_cases g1 : s k = 0
          · have HL : Hid (lis s o (k + 1) = lis s o k) := lis_miss (by simp [dif, g1])
            have t1 : (s k != 0) = false := by simpa using g1
            clear g1
            go_wp2_with fail
            go_quiet (fail)
            go_wp2
            go_roundw
            case rel => exact ⟨k + 1, by omega, by go_num, by rw [HL.out], HR.out.drewN _, below_drewN HB.out _⟩
            case measure => simp [intOf]; omega
          have t1 : (s k != 0) = true := by simpa using g1
          by_cases g2 : o k = 0
          · have HL : Hid (lis s o (k + 1) = lis s o k) := lis_miss (by simp [dif, g2])
            have t2 : (o k != 0) = false := by simpa using g2
            clear g1 g2
            go_wp2_with fail
            go_quiet (fail)
            go_wp2
            go_roundw
            case rel => exact ⟨k + 1, by omega, by go_num, by rw [HL.out], HR.out.drewN _, below_drewN HB.out _⟩
            case measure => simp [intOf]; omega
          have t2 : (o k != 0) = true := by simpa using g2
          by_cases g3 : s k = o k
          · have HL : Hid (lis s o (k + 1) = lis s o k) := lis_miss (by simp [dif, g3])
            have t3 : (s k != o k) = false := by simpa using g3
            clear g1 g2 g3
            go_wp2_with fail
            go_quiet (fail)
            go_wp2
            go_roundw
            case rel => exact ⟨k + 1, by omega, by go_num, by rw [HL.out], HR.out.drewN _, below_drewN HB.out _⟩
            case measure => simp [intOf]; omega
          have t3 : (s k != o k) = true := by simpa using g3
          have HL : Hid ((lis s o (k + 1)).length = (lis s o k).length + 1) := by show _ = _; rw [lis_hit (by simp [dif, g1, g2, g3])]; simp
          clear g1 g2 g3
          go_wp2_with fail
          go_quiet (fail)
          go_wp2
          go_roundw
          case rel => exact ⟨k + 1, by omega, by go_num, by rw [HL.out]; go_num, HR.out.drewN _, below_drewN HB.out _⟩
          case measure => simp [intOf]; omega
        · obtain rfl : k = 4 := by omega
          clear hread
          rw [← HN.out]
          go_wp2
          go_ret
          exact ⟨rfl, HB.out⟩

theorem law_mis (s o : Nat → Int) (w : World) :
    Calls Try.prog 3 #[.int .i64 (s 0), .int .i64 (s 1), .int .i64 (s 2), .int .i64 (s 3), .int .i64 (o 0), .int .i64 (o 1), .int .i64 (o 2), .int .i64 (o 3)] w fun e w' => e = .returned (.bool true) ∧ Below w.heap.size w w' := by
  by_cases h : lis s o 4 = []
  · exact law_nil s o w h
  · exact law_row s o w h

/-- Four numbers as a function of the place. -/
def four (a b c d : Int) : Nat → Int
  | 0 => a
  | 1 => b
  | 2 => c
  | _ => d
end Go.Proofs.Qxb6604208a
