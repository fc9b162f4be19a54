/-
  (Settings).Mismatches (9): what it answers, and what becomes of memory.
-/
import Derived.Test.Qxb6604208aMisPlain
import Derived.WalkKit
import Derived.WalkSpells
import Derived.BigRegion
import Derived.ChangeAlike
import Derived.Deep.QuietTactic
import Derived.BigQuiet
import Derived.WalkSmall
namespace Go.Proofs.Qxb6604208a
open Go.RowKit
theorem info30 : (Try.prog.info? 30).map (fun i => (i.zero, i.size, i.bytes)) = some (some (.agg #[.string ByteArray.empty, .int .i64 0, .int .i64 0]), 3, 32) := by kernel_rfl

/-- What lies in memory as the loop goes. -/
def Laid (B : Nat) (s o : Nat → Int) (wr : World) : Prop :=
  B + 4 ≤ wr.heap.size ∧ ∀ k, k < 4 →
    wr.cell? ⟨B + 1 + 1 + 1, k * 3, none⟩ = some (.string (nm k)) ∧ wr.cell? ⟨B + 1 + 1 + 1, k * 3 + 1, none⟩ = some (.pointer (some ⟨B, k, none⟩)) ∧ wr.cell? ⟨B + 1 + 1 + 1, k * 3 + 2, none⟩ = some (.int .i64 (lst k)) ∧
    wr.cell? ⟨B + 1 + 1, k * 3 + 1, none⟩ = some (.pointer (some ⟨B + 1, k, none⟩)) ∧
    wr.cell? ⟨B, k, none⟩ = some (.int .i64 (s k)) ∧ wr.cell? ⟨B + 1, k, none⟩ = some (.int .i64 (o k))

theorem Laid.below {B : Nat} {s o : Nat → Int} {w w' : World} (h : Laid B s o w) (hb : Below (B + 4) w w') : Laid B s o w' := by
  refine ⟨Nat.le_trans h.1 hb.size, fun k hk => ?_⟩
  obtain ⟨h1, h2, h3, h4, h5, h6⟩ := h.2 k hk
  refine ⟨?_, ?_, ?_, ?_, ?_, ?_⟩
  · rw [hb.cell (by simp)]; exact h1
  · rw [hb.cell (by simp)]; exact h2
  · rw [hb.cell (by simp)]; exact h3
  · rw [hb.cell (by simp)]; exact h4
  · rw [hb.cell (by simp)]; exact h5
  · rw [hb.cell (by simp)]; exact h6

theorem laid_start (s o : Nat → Int) (w : World) : Laid w.heap.size s o ((((w.alloc (.cells #[.int .i64 (s 0), .int .i64 (s 1), .int .i64 (s 2), .int .i64 (s 3)] 23)).alloc (.cells #[.int .i64 (o 0), .int .i64 (o 1), .int .i64 (o 2), .int .i64 (o 3)] 23)).alloc (fieldsBlk (w.heap.size + 1))).alloc (fieldsBlk w.heap.size)).drew.drew := by
  refine ⟨by simp, fun k hk => ?_⟩
  obtain rfl | rfl | rfl | rfl : k = 0 ∨ k = 1 ∨ k = 2 ∨ k = 3 := by omega
  all_goals
    refine ⟨?_, ?_, ?_, ?_, ?_, ?_⟩
    all_goals simp [fieldsBlk, go_sem]

theorem below_start (w : World) (a b c d : Obj) : Below w.heap.size w ((((w.alloc a).alloc b).alloc c).alloc d).drew.drew :=
  (((((Below.refl _ _).alloc (Nat.le_refl _) _).alloc (by simp) _).alloc (by simp; omega) _).alloc (by simp; omega) _).drew.drew

/-- A round on which the setting does not differ. -/
theorem rel_miss {s o : Nat → Int} {k nq : Nat} {w wr : World} {v : Value} {X : Obj} (hd : dif (s k) (o k) = false) (hL : Laid w.heap.size s o wr) (hown : wr.ownsRow (w.heap.size + 4) 30 3 v (lis s o k).length (entries s o (lis s o k))) (hb : Below w.heap.size w wr) (hn : lis s o k = [] → v = .slice none 0 0) :
    Laid w.heap.size s o ((wr.alloc X).drewN nq) ∧ ((wr.alloc X).drewN nq).ownsRow (w.heap.size + 4) 30 3 v (lis s o (k + 1)).length (entries s o (lis s o (k + 1))) ∧ Below w.heap.size w ((wr.alloc X).drewN nq) ∧ (lis s o (k + 1) = [] → v = .slice none 0 0) := by
  rw [lis_miss hd]
  refine ⟨hL.below (below_drewN ((Below.refl _ _).alloc hL.1 _) nq), hown.alloc X, below_drewN (hb.alloc (by have := hL.1; omega) _) nq, hn⟩

/-- A round on which it does. -/
theorem rel_hit {s o : Nat → Int} {k nq : Nat} {w wr w1 : World} {v v' : Value} {X Y : Obj} (hd : dif (s k) (o k) = true) (hL : Laid w.heap.size s o wr) (hown : wr.ownsRow (w.heap.size + 4) 30 3 v (lis s o k).length (entries s o (lis s o k))) (hb : Below w.heap.size w wr)
    (ho' : w1.ownsRow (w.heap.size + 4) 30 3 v' ((lis s o k).length + 1) (entries s o (lis s o k) ++ entry s o k)) (hg : (((wr.alloc X).drewN nq).alloc Y).grownBy w1 v.ownBlock) :
    Laid w.heap.size s o w1 ∧ w1.ownsRow (w.heap.size + 4) 30 3 v' (lis s o (k + 1)).length (entries s o (lis s o (k + 1))) ∧ Below w.heap.size w w1 ∧ (lis s o (k + 1) = [] → v' = .slice none 0 0) := by
  rw [lis_hit hd, entries_snoc]
  have hrow : ∀ j, v.ownBlock = some j → w.heap.size + 4 ≤ j := by
    intro j hj
    rcases hown.2 with ⟨rfl, _⟩ | ⟨g, cap, cur, rfl, hgB, _⟩
    · simp [Value.ownBlock] at hj
    · simp [Value.ownBlock] at hj; omega
  have h4 := hL.1
  have b1 : Below (w.heap.size + 4) wr (((wr.alloc X).drewN nq).alloc Y) := (below_drewN ((Below.refl _ _).alloc h4 _) nq).alloc (by simp; omega) _
  have b2 : Below (w.heap.size + 4) wr w1 := b1.grown hg (by simp; omega) hrow
  refine ⟨hL.below b2, ?_, hb.trans (b2.mono (by omega)), fun h => by simp at h⟩
  simpa using ho'

set_option maxHeartbeats 1600000 in
theorem mism_any (s o : Nat → Int) (w : World) :
    Calls Try.prog 9 #[.agg #[.int .i64 (s 0), .int .i64 (s 1), .int .i64 (s 2), .int .i64 (s 3)], .agg #[.int .i64 (o 0), .int .i64 (o 1), .int .i64 (o 2), .int .i64 (o 3)]] w fun e w' =>
      ∃ v, e = .returned v ∧ w'.ownsRow (w.heap.size + 4) 30 3 v (lis s o 4).length (entries s o (lis s o 4)) ∧ Below w.heap.size w w' ∧ (lis s o 4 = [] → v = .slice none 0 0) := by
  obtain ⟨i0, hi, hz0, hz1, hz2⟩ := info_parts info30
  have HL : Hid (Laid w.heap.size s o _) := laid_start s o w
  go_enter Try.func9, Try.ntmps9
  go_wp2_with (go_at_call 20; refine (fields_any _ _).mono ?_; rintro e w' ⟨rfl, rfl⟩)
  go_loopw [5, 14] (fun v i wr => ∃ k : Nat, k ≤ 4 ∧ i = .int .i64 k ∧ Laid w.heap.size s o wr ∧ wr.ownsRow (w.heap.size + 4) 30 3 v (lis s o k).length (entries s o (lis s o k)) ∧ Below w.heap.size w wr ∧ (lis s o k = [] → v = .slice none 0 0)) (fun _ i _ => 4 - (intOf i).toNat)
  case atStart => exact ⟨0, by omega, rfl, HL.out, World.ownsRow_nil _ _ _ _, below_start _ _ _ _ _, fun _ => rfl⟩
  case round =>
    obtain ⟨k, hk, rfl, hlaid, hown, hbel, hnil⟩ := hrel
    by_cases hlt : k < 4
    · have hd : decide ((k : Int) < 4) = true := by simp; omega
      obtain ⟨c1, c2, c3, c4, c5, c6⟩ := hlaid.2 k hlt
      have hs0 : w.heap.size < wr.heap.size := by have := hlaid.1; omega
      have hs1 : w.heap.size + 1 < wr.heap.size := by have := hlaid.1; omega
      have hs2 : w.heap.size + 1 + 1 < wr.heap.size := by have := hlaid.1; omega
      have HOWN := hide hown
      have HBEL := hide hbel
      have HNIL := hide hnil
      have HLAID := hide hlaid
      clear hown hbel hnil hlaid HL
      by_cases g1 : s k = 0
      · have HD : Hid (dif (s k) (o k) = false) := by show _ = _; simp [dif, g1]
        have l1 : s k ≤ 0 := by omega
        have l2 : 0 ≤ s k := by omega
        clear g1
        go_wp2_with fail
        go_quiet (fail)
        go_wp2_with fail
        go_roundw
        case rel => exact ⟨k + 1, by omega, by go_num, rel_miss HD.out HLAID.out HOWN.out HBEL.out HNIL.out⟩
        case measure => simp [intOf]; omega
      by_cases g2 : o k = 0
      · have HD : Hid (dif (s k) (o k) = false) := by show _ = _; simp [dif, g2]
        have l1 : o k ≤ 0 := by omega
        have l2 : 0 ≤ o k := by omega
        clear g2
        go_wp2_with fail
        go_quiet (fail)
        go_wp2_with fail
        go_roundw
        case rel => exact ⟨k + 1, by omega, by go_num, rel_miss HD.out HLAID.out HOWN.out HBEL.out HNIL.out⟩
        case measure => simp [intOf]; omega
      by_cases g3 : s k = o k
      · have HD : Hid (dif (s k) (o k) = false) := by show _ = _; simp [dif, g3]
        rw [← g3] at c6
        clear g3
        go_wp2_with fail
        go_quiet (fail)
        go_wp2_with fail
        go_roundw
        case rel => exact ⟨k + 1, by omega, by go_num, rel_miss HD.out HLAID.out HOWN.out HBEL.out HNIL.out⟩
        case measure => simp [intOf]; omega
      have HD : Hid (dif (s k) (o k) = true) := by show _ = _; simp [dif, g1, g2, g3]
      have t1 : (s k != 0) = true := by simpa using g1
      have t2 : (o k != 0) = true := by simpa using g2
      have t3 : (s k != o k) = true := by simpa using g3
      clear g1 g2 g3
      have HO2 : Hid (∀ X Y nq, (((wr.alloc X).drewN nq).alloc Y).ownsRow (w.heap.size + 4) 30 3 u5 (lis s o k).length (entries s o (lis s o k))) := fun X Y nq => (HOWN.out.alloc X).alloc Y
      have hle := lis_le s o k
      go_wp2_with fail
      go_quiet (fail)
      go_wp2_with (at_builtin; refine wpList_append_own _ rfl (.tmp 41) (.tmp 47) 25 rfl (w.heap.size + 4) 30 i0 (.agg #[.string ByteArray.empty, .int .i64 0, .int .i64 0]) 3 32 Try.underlying25 hi hz0 hz1 hz2 rfl (by decide) _ _ _ rfl (HO2.out _ _ _) ⟨wr.heap.size + 1, 0, none⟩ 1 1 (entry s o k) rfl rfl ?c1 ?c2 ?c3 ?c4 ?c5 ?_)
      case c1 =>
        intro j u hj
        match j, hj with
        | 0, hj => simp [entry] at hj; subst hj; simp [go_sem, Addr.add]
        | 1, hj => simp [entry] at hj; subst hj; simp [go_sem, Addr.add]
        | 2, hj => simp [entry] at hj; subst hj; simp [go_sem, Addr.add]
        | j + 3, hj => simp [entry] at hj
      case c2 => intro u hu; simp [entry] at hu; rcases hu with rfl | rfl | rfl <;> rfl
      case c3 => unfold maxLen; omega
      case c4 => omega
      case c5 => simp; omega
      · intro v' w1 hown' hgrow _
        have R := hide (rel_hit HD.out HLAID.out HOWN.out HBEL.out hown' hgrow)
        clear hown' hgrow HO2 HOWN HNIL HBEL HLAID c1 c2 c3 c4 c5 c6
        go_wp2
        go_roundw
        case rel => exact ⟨k + 1, by omega, by go_num, R.out⟩
        case measure => simp [intOf]; omega
    · obtain rfl : k = 4 := by omega
      have HOWN := hide hown
      have HBEL := hide hbel
      have HNIL := hide hnil
      clear hown hbel hnil hlaid HL
      go_wp2
      go_ret
      exact ⟨_, rfl, HOWN.out, HBEL.out, HNIL.out⟩
end Go.Proofs.Qxb6604208a
