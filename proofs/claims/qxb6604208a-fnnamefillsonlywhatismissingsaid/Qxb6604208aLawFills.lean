/-
  The walk of FnNameFillsOnlyWhatIsMissing (6).
-/
import Derived.Test.Qxb6604208aSetEq
import Derived.LaidEqlPtr
namespace Go.Proofs.Qxb6604208a
open Go.RowKit

set_option maxRecDepth 100000 in
set_option maxHeartbeats 1600000 in
theorem fills_early (s0 s7 : ByteArray) (a1 a8 : Option Addr) (n1 c1 n8 c8 : Nat) (x2 x3 x4 x5 x6 : Int) (w : World) (h0 : s0.size ≤ maxLen) (h1 : n1 ≤ maxLen) (h7 : s7.size ≤ maxLen) (h8 : n8 ≤ maxLen)
    (h : 262144 < s0.size ∨ 262144 < n1 ∨ 262144 < s7.size ∨ 262144 < n8) :
    Calls Try.prog 6 #[.string s0, .slice a1 n1 c1, .int .i64 x2, .int .i64 x3, .int .i64 x4, .int .i64 x5, .int .i64 x6, .string s7, .slice a8 n8 c8] w fun e w' => e = .returned (.bool true) ∧ Below w.heap.size w w' := by
  have C := hide (bytes15 s0 s7 a1 a8 n1 c1 n8 c8 x2 x3 x4 x5 x6 w h0 h1 h7 h8)
  unfold maxLen at h0 h1 h7 h8
  rcases h with h | h | h | h
  all_goals
    go_enter Try.func6, Try.ntmps6
    go_wp2_with fail
    refine C.out.mono ?_
    rintro e w' ⟨rfl | rfl, rfl⟩
    all_goals
      go_wp2_with fail
      all_goals (go_ret; exact ⟨rfl, Below.refl _ _⟩)

theorem Sl.again {w : World} {a : Option Addr} {n c : Nat} {ys : List Int} (h : Sl w a n c ((ys.take n).take n)) : Sl w a n c (ys.take n) := by
  rw [List.take_take, Nat.min_self] at h; exact h

/-- The State that the law makes, behind the settings' own two blocks; and the cells of the settings' block. -/
theorem below_two {w : World} {a b : Obj} : Below w.heap.size w ((w.alloc a).alloc b) := ((Below.refl _ _).alloc (Nat.le_refl _) _).alloc (by simp) _

theorem below_three {w w' : World} {a b c : Obj} (h : Below (((w.alloc a).alloc b).alloc c).heap.size (((w.alloc a).alloc b).alloc c) w') : Below w.heap.size w w' :=
  (((below_two (w := w)).alloc (by simp; omega) _).trans (h.mono (by simp; omega)))

theorem set_cells {w w' : World} {a c : Obj} {y0 y1 y2 y3 : Int} (h : Below (((w.alloc a).alloc (.cells #[.int .i64 y0, .int .i64 y1, .int .i64 y2, .int .i64 y3] 23)).alloc c).heap.size (((w.alloc a).alloc (.cells #[.int .i64 y0, .int .i64 y1, .int .i64 y2, .int .i64 y3] 23)).alloc c) w') :
    w'.cell? ⟨w.heap.size + 1, 0, none⟩ = some (.int .i64 y0) ∧ w'.cell? ⟨w.heap.size + 1, 1, none⟩ = some (.int .i64 y1) ∧ w'.cell? ⟨w.heap.size + 1, 2, none⟩ = some (.int .i64 y2) ∧ w'.cell? ⟨w.heap.size + 1, 3, none⟩ = some (.int .i64 y3) := by
  rw [h.cell (by simp), h.cell (by simp), h.cell (by simp), h.cell (by simp)]
  simp [go_sem]

theorem info52 : (Try.prog.info? 52).map (fun i => i.size) = some 10 := by kernel_rfl

/-- Two States in two blocks: the pointers differ. -/
theorem ptrs_differ {w : World} {b b' : Nat} {id id' : ByteArray} {a a' : Option Addr} {n c n' c' : Nat} {np y0 y1 y2 y3 np' u0 u1 u2 u3 : Int} (h : IsSt w b id a n c np y0 y1 y2 y3) (h' : IsSt w b' id' a' n' c' np' u0 u1 u2 u3) (hne : b < b') :
    (binOp .eql 47 (.pointer (some ⟨b', 0, none⟩)) (.pointer (some ⟨b, 0, none⟩))).run Try.prog w = .ok (.bool false) w := by
  obtain ⟨j, hj, hs⟩ := Option.map_eq_some_iff.1 info52
  obtain ⟨cs, hcs⟩ := h.blk
  obtain ⟨cs', hcs'⟩ := h'.blk
  have hab : (⟨b', 0, none⟩ : Addr) ≠ ⟨b, 0, none⟩ := fun e => by injection e with e1; omega
  exact run_eql_ptr_other w Try.underlying47 hj (by rw [hs]; decide) hab hcs' hcs

theorem isSt_three (w : World) (o1 o2 : Obj) (id : ByteArray) (a : Option Addr) (n c : Nat) (np y0 y1 y2 y3 : Int) :
    IsSt (((w.alloc o1).alloc o2).alloc (.cells #[.string id, .slice a n c, .slice none 0 0, .slice none 0 0, .int .i64 np, .slice none 0 0, .int .i64 y0, .int .i64 y1, .int .i64 y2, .int .i64 y3] 52)) (w.heap.size + 1 + 1) id a n c np y0 y1 y2 y3 := by
  have e : ((w.alloc o1).alloc o2).heap.size = w.heap.size + 1 + 1 := by simp
  rw [← e]; exact isSt_new _ _ _ _ _ _ _ _ _ _

set_option maxRecDepth 100000 in
set_option maxHeartbeats 3200000 in
theorem fills_main (s0 s7 : ByteArray) (a1 a8 : Option Addr) (n1 c1 n8 c8 : Nat) (z1 z8 : List Int) (x2 x3 x4 x5 x6 : Int) (w : World) (h0 : s0.size ≤ 262144) (h1 : n1 ≤ 262144) (h7 : s7.size ≤ 262144) (h8 : n8 ≤ 262144)
    (r1 : InRow w a1 n1 c1 z1) (r8 : InRow w a8 n8 c8 z8) :
    Calls Try.prog 6 #[.string s0, .slice a1 n1 c1, .int .i64 x2, .int .i64 x3, .int .i64 x4, .int .i64 x5, .int .i64 x6, .string s7, .slice a8 n8 c8] w fun e w' => e = .returned (.bool true) ∧ Below w.heap.size w w' := by
  have C := hide (bytes15 s0 s7 a1 a8 n1 c1 n8 c8 x2 x3 x4 x5 x6 w (by unfold maxLen; omega) (by unfold maxLen; omega) (by unfold maxLen; omega) (by unfold maxLen; omega))
  have e48 := fun w => Lib.run_eql_slice_nil (P := Try.prog) w 48 85 none 0 0 0 0 Try.underlying48
  have e49 := fun w => Lib.run_eql_slice_nil (P := Try.prog) w 49 89 none 0 0 0 0 Try.underlying49
  have e50 := fun w => Lib.run_eql_slice_nil (P := Try.prog) w 50 91 none 0 0 0 0 Try.underlying50
  have f48 := fun w => run_neq_slice_nil_any (P := Try.prog) w 48 85 none 0 0 0 0 Try.underlying48
  have f49 := fun w => run_neq_slice_nil_any (P := Try.prog) w 49 89 none 0 0 0 0 Try.underlying49
  have f50 := fun w => run_neq_slice_nil_any (P := Try.prog) w 50 91 none 0 0 0 0 Try.underlying50
  have hsn := fun w => set_neq x3 x4 x5 x6 w
  have hse := fun w => set_eql x3 x4 x5 x6 w
  have R1 := hide r1
  have R8 := hide r8
  clear r1 r8
  go_enter Try.func6, Try.ntmps6
  go_wp2_with fail
  refine C.out.mono ?_
  rintro e w' ⟨rfl | rfl, rfl⟩
  rotate_left
  · go_wp2_with fail
    go_ret
    exact ⟨rfl, Below.refl _ _⟩
  clear C
  go_wp2_with fail
  refine (clone_any a1 n1 c1 z1 w' R1.out (by omega)).mono ?_
  rintro e w1 ⟨b1, d1, rfl, -, t1, g1⟩
  have HS1 := hide t1
  have HB1 := hide g1
  clear t1 g1 R1
  go_wp2_with fail
  refine (clone_any a8 n8 c8 z8 w1 (R8.out.step HB1.out) (by omega)).mono ?_
  rintro e w2 ⟨b8, d8, rfl, -, t8, g2⟩
  have HS8 := hide t8
  have HB2 := hide (HB1.out.trans (g2.mono HB1.out.size))
  have HS1 := hide (HS1.out.step g2)
  clear t8 g2 R8 HB1
  go_wp2_with fail
  refine (clone_any b1 n1 d1 (z1.take n1) w2 HS1.out.inRow (by omega)).mono ?_
  rintro e w3 ⟨k1, dk1, rfl, nk1, tk1, g3⟩
  have HK1 := hide tk1.again
  have NK1 := hide nk1
  have HB3 := hide (HB2.out.trans (g3.mono HB2.out.size))
  have HS1 := hide (HS1.out.step g3)
  have HS8 := hide (HS8.out.step g3)
  clear tk1 nk1 g3 HB2
  go_wp2_with fail
  refine (clone_any b8 n8 d8 (z8.take n8) w3 HS8.out.inRow (by omega)).mono ?_
  rintro e w4 ⟨k8, dk8, rfl, nk8, tk8, g4⟩
  have HK8 := hide tk8.again
  have NK8 := hide nk8
  have HB4 := hide (HB3.out.trans (g4.mono HB3.out.size))
  have HS1 := hide (HS1.out.step g4)
  have HS8 := hide (HS8.out.step g4)
  have HK1 := hide (HK1.out.step g4)
  clear tk8 nk8 g4 HB3
  go_wp2_with fail
  refine (settings_any x3 x4 x5 x6 w4).mono ?_
  rintro e w'' ⟨rfl, cc, rfl⟩
  go_wp2_with fail
  refine (zzName_any (w4.heap.size + 1 + 1) s0 s7 b1 b8 n1 d1 n8 d8 x2 x3 x4 x5 x6 _ (isSt_three w4 _ _ s0 b1 n1 d1 x2 x3 x4 x5 x6)).mono ?_
  rintro e w5 ⟨rb, rfl, hrs, -, hr, g5⟩
  have HST := hide ((isSt_three w4 _ _ s0 b1 n1 d1 x2 x3 x4 x5 x6).step g5)
  have HR := hide hr
  have HM := hide (set_cells g5)
  have H45 := hide (below_three g5)
  have HB5 := hide (HB4.out.trans (H45.out.mono HB4.out.size))
  have HS1 := hide (HS1.out.step H45.out)
  have HS8 := hide (HS8.out.step H45.out)
  have HK1 := hide (HK1.out.step H45.out)
  have HK8 := hide (HK8.out.step H45.out)
  have L1 : Hid (n1 ≤ 1048576) := by show _ ≤ _; omega
  have L8 : Hid (n8 ≤ 1048576) := by show _ ≤ _; omega
  have hpp := ptrs_differ HST.out HR.out hrs
  obtain ⟨_, p0, p1, p2, p3, p4, p5, p6, p7, p8, p9, -⟩ := HST.out
  obtain ⟨m0, m1, m2, m3⟩ := HM.out
  clear hr g5 HM HST H45 HB4 hrs
  cases hid : s0.toList.isEmpty <;> by_cases hn : n1 = 0
  · have hn' : ((n1 : Int) == 0) = true := by simp [hn]
    have hr := HR.out
    rw [idOf_no hid, slOf_yes hn, slOf_yes hn, slOf_yes hn] at hr
    obtain ⟨_, q0, q1, q2, q3, q4, q5, q6, q7, q8, q9, -⟩ := hr
    clear hn HR
    go_wp2_with fail
    go_big_quiet ((go_at_call 18; exact Calls.quiet_of (same_any b1 k1 n1 d1 dk1 (z1.take n1) _ HS1.out HK1.out NK1.out.symm L1.out)))
    go_wp2_with fail
    refine (same_any b8 k8 n8 d8 dk8 (z8.take n8) _ (by exact HS8.out) (by exact HK8.out) NK8.out.symm L8.out).mono ?_
    rintro e w6 ⟨rfl, q6, rfl⟩
    go_wp2_with fail
    refine (same_any b8 k8 n8 d8 dk8 (z8.take n8) _ (by exact HS8.out) (by exact HK8.out) NK8.out.symm L8.out).mono ?_
    rintro e w7 ⟨rfl, q7, rfl⟩
    go_wp2_with fail
    go_big_quiet (fail)
    go_wp2
    go_ret
    exact ⟨rfl, below_drewN (below_drewN HB5.out _) _⟩
  · have hn' : ((n1 : Int) == 0) = false := by simp [hn]
    have hr := HR.out
    rw [idOf_no hid, slOf_no hn, slOf_no hn, slOf_no hn] at hr
    obtain ⟨_, q0, q1, q2, q3, q4, q5, q6, q7, q8, q9, -⟩ := hr
    clear hn HR
    go_wp2_with fail
    go_big_quiet ((go_at_call 18; exact Calls.quiet_of (same_any b1 k1 n1 d1 dk1 (z1.take n1) _ HS1.out HK1.out NK1.out.symm L1.out)))
    go_wp2_with fail
    refine (same_any b8 k8 n8 d8 dk8 (z8.take n8) _ (by exact HS8.out) (by exact HK8.out) NK8.out.symm L8.out).mono ?_
    rintro e w6 ⟨rfl, q6, rfl⟩
    go_wp2_with fail
    refine (same_any b1 k1 n1 d1 dk1 (z1.take n1) _ (by exact HS1.out) (by exact HK1.out) NK1.out.symm L1.out).mono ?_
    rintro e w7 ⟨rfl, q7, rfl⟩
    go_wp2_with fail
    go_big_quiet (fail)
    go_wp2
    go_ret
    exact ⟨rfl, below_drewN (below_drewN HB5.out _) _⟩
  · have hn' : ((n1 : Int) == 0) = true := by simp [hn]
    have hr := HR.out
    rw [idOf_yes hid, slOf_yes hn, slOf_yes hn, slOf_yes hn] at hr
    obtain ⟨_, q0, q1, q2, q3, q4, q5, q6, q7, q8, q9, -⟩ := hr
    clear hn HR
    go_wp2_with fail
    go_big_quiet ((go_at_call 18; exact Calls.quiet_of (same_any b1 k1 n1 d1 dk1 (z1.take n1) _ HS1.out HK1.out NK1.out.symm L1.out)))
    go_wp2_with fail
    refine (same_any b8 k8 n8 d8 dk8 (z8.take n8) _ (by exact HS8.out) (by exact HK8.out) NK8.out.symm L8.out).mono ?_
    rintro e w6 ⟨rfl, q6, rfl⟩
    go_wp2_with fail
    refine (same_any b8 k8 n8 d8 dk8 (z8.take n8) _ (by exact HS8.out) (by exact HK8.out) NK8.out.symm L8.out).mono ?_
    rintro e w7 ⟨rfl, q7, rfl⟩
    go_wp2_with fail
    go_big_quiet (fail)
    go_wp2
    go_ret
    exact ⟨rfl, below_drewN (below_drewN HB5.out _) _⟩
  · have hn' : ((n1 : Int) == 0) = false := by simp [hn]
    have hr := HR.out
    rw [idOf_yes hid, slOf_no hn, slOf_no hn, slOf_no hn] at hr
    obtain ⟨_, q0, q1, q2, q3, q4, q5, q6, q7, q8, q9, -⟩ := hr
    clear hn HR
    go_wp2_with fail
    go_big_quiet ((go_at_call 18; exact Calls.quiet_of (same_any b1 k1 n1 d1 dk1 (z1.take n1) _ HS1.out HK1.out NK1.out.symm L1.out)))
    go_wp2_with fail
    refine (same_any b8 k8 n8 d8 dk8 (z8.take n8) _ (by exact HS8.out) (by exact HK8.out) NK8.out.symm L8.out).mono ?_
    rintro e w6 ⟨rfl, q6, rfl⟩
    go_wp2_with fail
    refine (same_any b1 k1 n1 d1 dk1 (z1.take n1) _ (by exact HS1.out) (by exact HK1.out) NK1.out.symm L1.out).mono ?_
    rintro e w7 ⟨rfl, q7, rfl⟩
    go_wp2_with fail
    go_big_quiet (fail)
    go_wp2
    go_ret
    exact ⟨rfl, below_drewN (below_drewN HB5.out _) _⟩
end Go.Proofs.Qxb6604208a
