/-
  The walk of FnNameTwiceIsNameOnceWithTheFirstOffer (7).
-/
import Derived.Test.Qxb6604208aLens
namespace Go.Proofs.Qxb6604208a
open Go.RowKit

theorem below_new {w w' : World} {o : Obj} (h : Below (w.alloc o).heap.size (w.alloc o) w') : Below w.heap.size w w' :=
  ((Below.refl _ _).alloc (Nat.le_refl _) _).trans (h.mono (by simp))

set_option maxHeartbeats 1600000 in
theorem twice_early (s0 s2 s4 : ByteArray) (a1 a3 a5 : Option Addr) (n1 c1 n3 c3 n5 c5 : Nat) (w : World) (h0 : s0.size ≤ maxLen) (h1 : n1 ≤ maxLen) (h2 : s2.size ≤ maxLen) (h3 : n3 ≤ maxLen) (h4 : s4.size ≤ maxLen) (h5 : n5 ≤ maxLen)
    (h : 131072 < s0.size ∨ 131072 < n1 ∨ 131072 < s2.size ∨ 131072 < n3 ∨ 131072 < s4.size ∨ 131072 < n5) :
    Calls Try.prog 7 #[.string s0, .slice a1 n1 c1, .string s2, .slice a3 n3 c3, .string s4, .slice a5 n5 c5] w fun e w' => e = .returned (.bool true) ∧ Below w.heap.size w w' := by
  have C := hide (bytes19 s0 s2 s4 a1 a3 a5 n1 c1 n3 c3 n5 c5 w h0 h1 h2 h3 h4 h5)
  unfold maxLen at h0 h1 h2 h3 h4 h5
  rcases h with h | h | h | h | h | h
  all_goals
    go_enter Try.func7, Try.ntmps7
    go_wp2_with fail
    refine C.out.mono ?_
    rintro e w' ⟨rfl | rfl, rfl⟩
    all_goals
      go_wp2_with fail
      all_goals (go_ret; exact ⟨rfl, Below.refl _ _⟩)

set_option maxHeartbeats 1600000 in
theorem twice_main (s0 s2 s4 : ByteArray) (a1 a3 a5 : Option Addr) (n1 c1 n3 c3 n5 c5 : Nat) (z1 z3 z5 : List Int) (w : World) (h0 : s0.size ≤ 131072) (h1 : n1 ≤ 131072) (h2 : s2.size ≤ 131072) (h3 : n3 ≤ 131072) (h4 : s4.size ≤ 131072) (h5 : n5 ≤ 131072)
    (r1 : InRow w a1 n1 c1 z1) (r3 : InRow w a3 n3 c3 z3) (r5 : InRow w a5 n5 c5 z5) :
    Calls Try.prog 7 #[.string s0, .slice a1 n1 c1, .string s2, .slice a3 n3 c3, .string s4, .slice a5 n5 c5] w fun e w' => e = .returned (.bool true) ∧ Below w.heap.size w w' := by
  have C := hide (bytes19 s0 s2 s4 a1 a3 a5 n1 c1 n3 c3 n5 c5 w (by unfold maxLen; omega) (by unfold maxLen; omega) (by unfold maxLen; omega) (by unfold maxLen; omega) (by unfold maxLen; omega) (by unfold maxLen; omega))
  have R1 := hide r1
  have R3 := hide r3
  have R5 := hide r5
  clear r1 r3 r5
  go_enter Try.func7, Try.ntmps7
  go_wp2_with fail
  refine C.out.mono ?_
  rintro e w' ⟨rfl | rfl, rfl⟩
  rotate_left
  · go_wp2_with fail
    go_ret
    exact ⟨rfl, Below.refl _ _⟩
  clear C
  go_wp2_with fail
  refine (clone_any a1 n1 c1 z1 w' R1.out (by omega)).mono ?_
  rintro e w1 ⟨b1, d1, rfl, -, t1, g1⟩
  have HS1 := hide t1
  have HB1 := hide g1
  clear t1 g1 R1
  go_wp2_with fail
  refine (clone_any a3 n3 c3 z3 w1 (R3.out.step HB1.out) (by omega)).mono ?_
  rintro e w2 ⟨b3, d3, rfl, -, t3, g2⟩
  have HS3 := hide t3
  have HB2 := hide (HB1.out.trans (g2.mono HB1.out.size))
  have HS1 := hide (HS1.out.step g2)
  clear t3 g2 R3 HB1
  go_wp2_with fail
  refine (clone_any a5 n5 c5 z5 w2 (R5.out.step HB2.out) (by omega)).mono ?_
  rintro e w3 ⟨b5, d5, rfl, -, t5, g3⟩
  have HS5 := hide t5
  have HB3 := hide (HB2.out.trans (g3.mono HB2.out.size))
  have HS1 := hide (HS1.out.step g3)
  have HS3 := hide (HS3.out.step g3)
  clear t5 g3 R5 HB2
  go_wp2_with fail
  refine (zzName_any w3.heap.size s0 s2 b1 b3 n1 d1 n3 d3 0 0 0 0 0 _ (isSt_new w3 s0 b1 n1 d1 0 0 0 0 0)).mono ?_
  rintro e w4 ⟨fb, rfl, hf1, hf2, hsf, gb4⟩
  have HST := hide ((isSt_new w3 s0 b1 n1 d1 0 0 0 0 0).step gb4)
  have HSF := hide hsf
  have H34 := hide (below_new gb4)
  have HB4 := hide (HB3.out.trans (H34.out.mono HB3.out.size))
  clear hsf gb4 hf2
  go_wp2_with fail
  refine (zzName_any fb (idOf s0 s2) s4 (slOf n1 b1 b3) b5 (slOf n1 n1 n3) (slOf n1 d1 d3) n5 d5 0 0 0 0 0 w4 HSF.out).mono ?_
  rintro e w5 ⟨tb, rfl, ht1, ht2, hst, gb5⟩
  have HT := hide hst
  have HST := hide (HST.out.step gb5)
  have H35 := hide (H34.out.trans (gb5.mono H34.out.size))
  have HB5 := hide (HB4.out.trans (gb5.mono HB4.out.size))
  clear hst gb5 ht2 HSF H34 HB4
  cases hid : s2.toList.isEmpty <;> by_cases hn : n3 = 0
  · have hn' : ((n3 : Int) == 0) = true := by simp [hn]
    have HTE : Hid (IsSt w5 tb (idOf s0 s2) (slOf n1 b1 b5) (slOf n1 n1 n5) (slOf n1 d1 d5) 0 0 0 0 0) := by have h := HT.out; rw [idOf_idOf, idOf_no hid, slOf_slOf, slOf_slOf, slOf_slOf, slOf_yes hn, slOf_yes hn, slOf_yes hn] at h; exact h
    have hN : slOf n1 n1 n5 ≤ 1048576 := by unfold slOf; split <;> omega
    have HN := hide hN
    clear hn hN HT
    go_wp2_with fail
    refine (zzName_any w3.heap.size s0 s2 b1 b5 n1 d1 n5 d5 0 0 0 0 0 w5 HST.out).mono ?_
    rintro e w6 ⟨ob, rfl, ho1, ho2, hso, gb6⟩
    have hT := HTE.out.step gb6
    have HB6 := hide (HB5.out.trans (gb6.mono HB5.out.size))
    have HSM := hide (((HS1.out.step H35.out).step gb6).pick ((HS5.out.step H35.out).step gb6))
    obtain ⟨_, q0, q1, _, _, _, _, _, _, _, _, -⟩ := hT
    obtain ⟨_, r0, r1, _, _, _, _, _, _, _, _, -⟩ := hso
    clear gb6 HTE HST HS1 HS3 HS5 H35 HB5 HB3 hf1 ht1 ho1 ho2
    go_wp2_with fail
    go_quiet ((go_at_call 18; exact Calls.quiet_of (same_any _ _ _ _ _ _ _ HSM.out HSM.out rfl HN.out)))
    go_wp2
    go_ret
    exact ⟨rfl, below_drewN HB6.out _⟩
  · have hn' : ((n3 : Int) == 0) = false := by simp [hn]
    have HTE : Hid (IsSt w5 tb (idOf s0 s2) (slOf n1 b1 b3) (slOf n1 n1 n3) (slOf n1 d1 d3) 0 0 0 0 0) := by have h := HT.out; rw [idOf_idOf, idOf_no hid, slOf_slOf, slOf_slOf, slOf_slOf, slOf_no hn, slOf_no hn, slOf_no hn] at h; exact h
    have hN : slOf n1 n1 n3 ≤ 1048576 := by unfold slOf; split <;> omega
    have HN := hide hN
    clear hn hN HT
    go_wp2_with fail
    refine (zzName_any w3.heap.size s0 s2 b1 b3 n1 d1 n3 d3 0 0 0 0 0 w5 HST.out).mono ?_
    rintro e w6 ⟨ob, rfl, ho1, ho2, hso, gb6⟩
    have hT := HTE.out.step gb6
    have HB6 := hide (HB5.out.trans (gb6.mono HB5.out.size))
    have HSM := hide (((HS1.out.step H35.out).step gb6).pick ((HS3.out.step H35.out).step gb6))
    obtain ⟨_, q0, q1, _, _, _, _, _, _, _, _, -⟩ := hT
    obtain ⟨_, r0, r1, _, _, _, _, _, _, _, _, -⟩ := hso
    clear gb6 HTE HST HS1 HS3 HS5 H35 HB5 HB3 hf1 ht1 ho1 ho2
    go_wp2_with fail
    go_quiet ((go_at_call 18; exact Calls.quiet_of (same_any _ _ _ _ _ _ _ HSM.out HSM.out rfl HN.out)))
    go_wp2
    go_ret
    exact ⟨rfl, below_drewN HB6.out _⟩
  · have hn' : ((n3 : Int) == 0) = true := by simp [hn]
    have HTE : Hid (IsSt w5 tb (idOf s0 s4) (slOf n1 b1 b5) (slOf n1 n1 n5) (slOf n1 d1 d5) 0 0 0 0 0) := by have h := HT.out; rw [idOf_idOf, idOf_yes hid, slOf_slOf, slOf_slOf, slOf_slOf, slOf_yes hn, slOf_yes hn, slOf_yes hn] at h; exact h
    have hN : slOf n1 n1 n5 ≤ 1048576 := by unfold slOf; split <;> omega
    have HN := hide hN
    clear hn hN HT
    go_wp2_with fail
    refine (zzName_any w3.heap.size s0 s4 b1 b5 n1 d1 n5 d5 0 0 0 0 0 w5 HST.out).mono ?_
    rintro e w6 ⟨ob, rfl, ho1, ho2, hso, gb6⟩
    have hT := HTE.out.step gb6
    have HB6 := hide (HB5.out.trans (gb6.mono HB5.out.size))
    have HSM := hide (((HS1.out.step H35.out).step gb6).pick ((HS5.out.step H35.out).step gb6))
    obtain ⟨_, q0, q1, _, _, _, _, _, _, _, _, -⟩ := hT
    obtain ⟨_, r0, r1, _, _, _, _, _, _, _, _, -⟩ := hso
    clear gb6 HTE HST HS1 HS3 HS5 H35 HB5 HB3 hf1 ht1 ho1 ho2
    go_wp2_with fail
    go_quiet ((go_at_call 18; exact Calls.quiet_of (same_any _ _ _ _ _ _ _ HSM.out HSM.out rfl HN.out)))
    go_wp2
    go_ret
    exact ⟨rfl, below_drewN HB6.out _⟩
  · have hn' : ((n3 : Int) == 0) = false := by simp [hn]
    have HTE : Hid (IsSt w5 tb (idOf s0 s4) (slOf n1 b1 b3) (slOf n1 n1 n3) (slOf n1 d1 d3) 0 0 0 0 0) := by have h := HT.out; rw [idOf_idOf, idOf_yes hid, slOf_slOf, slOf_slOf, slOf_slOf, slOf_no hn, slOf_no hn, slOf_no hn] at h; exact h
    have hN : slOf n1 n1 n3 ≤ 1048576 := by unfold slOf; split <;> omega
    have HN := hide hN
    clear hn hN HT
    go_wp2_with fail
    refine (zzName_any w3.heap.size s0 s4 b1 b3 n1 d1 n3 d3 0 0 0 0 0 w5 HST.out).mono ?_
    rintro e w6 ⟨ob, rfl, ho1, ho2, hso, gb6⟩
    have hT := HTE.out.step gb6
    have HB6 := hide (HB5.out.trans (gb6.mono HB5.out.size))
    have HSM := hide (((HS1.out.step H35.out).step gb6).pick ((HS3.out.step H35.out).step gb6))
    obtain ⟨_, q0, q1, _, _, _, _, _, _, _, _, -⟩ := hT
    obtain ⟨_, r0, r1, _, _, _, _, _, _, _, _, -⟩ := hso
    clear gb6 HTE HST HS1 HS3 HS5 H35 HB5 HB3 hf1 ht1 ho1 ho2
    go_wp2_with fail
    go_quiet ((go_at_call 18; exact Calls.quiet_of (same_any _ _ _ _ _ _ _ HSM.out HSM.out rfl HN.out)))
    go_wp2
    go_ret
    exact ⟨rfl, below_drewN HB6.out _⟩
end Go.Proofs.Qxb6604208a
