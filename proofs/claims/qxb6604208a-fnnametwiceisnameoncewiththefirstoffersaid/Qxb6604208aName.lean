/-
  (*State).name (23), its shim (17): the new State; the two bounds on lengths (19, 15).
-/
import Derived.Test.Qxb6604208aBytes
namespace Go.Proofs.Qxb6604208a
open Go.RowKit

/-- The State in block b: its id, its secret, the number, the settings; no broker, no topic, no reader. -/
structure IsSt (w : World) (b : Nat) (id : ByteArray) (a : Option Addr) (n c : Nat) (np s0 s1 s2 s3 : Int) : Prop where
  lt : b < w.heap.size
  c0 : w.cell? ⟨b, 0, none⟩ = some (.string id)
  c1 : w.cell? ⟨b, 1, none⟩ = some (.slice a n c)
  c2 : w.cell? ⟨b, 2, none⟩ = some (.slice none 0 0)
  c3 : w.cell? ⟨b, 3, none⟩ = some (.slice none 0 0)
  c4 : w.cell? ⟨b, 4, none⟩ = some (.int .i64 np)
  c5 : w.cell? ⟨b, 5, none⟩ = some (.slice none 0 0)
  c6 : w.cell? ⟨b, 6, none⟩ = some (.int .i64 s0)
  c7 : w.cell? ⟨b, 7, none⟩ = some (.int .i64 s1)
  c8 : w.cell? ⟨b, 8, none⟩ = some (.int .i64 s2)
  c9 : w.cell? ⟨b, 9, none⟩ = some (.int .i64 s3)
  blk : ∃ cs : Array Value, w.heap[b]? = some (.cells cs 52 (0, 0))

theorem IsSt.step {w w' : World} {b : Nat} {id : ByteArray} {a : Option Addr} {n c : Nat} {np s0 s1 s2 s3 : Int} (h : IsSt w b id a n c np s0 s1 s2 s3) (hb : Below w.heap.size w w') : IsSt w' b id a n c np s0 s1 s2 s3 := by
  obtain ⟨h, c0, c1, c2, c3, c4, c5, c6, c7, c8, c9, cs, hcs⟩ := h
  have e : ∀ i, w'.cell? ⟨b, i, none⟩ = w.cell? ⟨b, i, none⟩ := fun i => hb.cell h
  refine ⟨Nat.lt_of_lt_of_le h hb.size, ?_, ?_, ?_, ?_, ?_, ?_, ?_, ?_, ?_, ?_, cs, (hb.block b h).trans hcs⟩ <;> (rw [e]; assumption)

theorem isSt_new (w : World) (id : ByteArray) (a : Option Addr) (n c : Nat) (np s0 s1 s2 s3 : Int) :
    IsSt (w.alloc (.cells #[.string id, .slice a n c, .slice none 0 0, .slice none 0 0, .int .i64 np, .slice none 0 0, .int .i64 s0, .int .i64 s1, .int .i64 s2, .int .i64 s3] 52)) w.heap.size id a n c np s0 s1 s2 s3 := by
  refine ⟨by simp, ?_, ?_, ?_, ?_, ?_, ?_, ?_, ?_, ?_, ?_, _, (MapKept.heap_alloc w _).1⟩ <;> simp [go_sem]

/-- The State's id where it has one, else the offer. -/
def idOf (id cid : ByteArray) : ByteArray := if id.toList.isEmpty then cid else id
/-- What goes with the State's secret where that has n > 0 bytes, else what goes with the offer. -/
def slOf {α : Type} (n : Nat) (x y : α) : α := if n = 0 then y else x

theorem idOf_yes {id cid : ByteArray} (h : id.toList.isEmpty = true) : idOf id cid = cid := by unfold idOf; rw [if_pos h]
theorem idOf_no {id cid : ByteArray} (h : id.toList.isEmpty = false) : idOf id cid = id := by unfold idOf; rw [if_neg (by simp [h])]
theorem slOf_yes {α : Type} {n : Nat} {x y : α} (h : n = 0) : slOf n x y = y := by unfold slOf; rw [if_pos h]
theorem slOf_no {α : Type} {n : Nat} {x y : α} (h : ¬ n = 0) : slOf n x y = x := by unfold slOf; rw [if_neg h]
theorem idOf_idOf (i a b : ByteArray) : idOf (idOf i a) b = idOf i (idOf a b) := by
  cases h : i.toList.isEmpty
  · rw [idOf_no h, idOf_no h, idOf_no h]
  · rw [idOf_yes h, idOf_yes h]
theorem slOf_slOf {α : Type} (n m : Nat) (x y z : α) : slOf (slOf n n m) (slOf n x y) z = slOf n x (slOf m y z) := by
  by_cases h : n = 0
  · rw [slOf_yes h, slOf_yes h, slOf_yes h]
  · rw [slOf_no h, slOf_no h, slOf_no h, slOf_no h]
theorem Sl.pick {w : World} {a a2 : Option Addr} {n c n2 c2 : Nat} {ys ys2 : List Int} (h : Sl w a n c ys) (h2 : Sl w a2 n2 c2 ys2) : Sl w (slOf n a a2) (slOf n n n2) (slOf n c c2) (slOf n ys ys2) := by
  by_cases e : n = 0
  · rw [slOf_yes e, slOf_yes e, slOf_yes e, slOf_yes e]; exact h2
  · rw [slOf_no e, slOf_no e, slOf_no e, slOf_no e]; exact h

/-- What naming answers: a new State. -/
def Named (b : Nat) (id : ByteArray) (a : Option Addr) (n c : Nat) (np s0 s1 s2 s3 : Int) (w : World) (e : Ending) (w' : World) : Prop :=
  ∃ b', e = .returned (.pointer (some ⟨b', 0, none⟩)) ∧ b < b' ∧ w.heap.size ≤ b' ∧ IsSt w' b' id a n c np s0 s1 s2 s3 ∧ Below w.heap.size w w'

theorem named_mk {b : Nat} {id id' : ByteArray} {a a' : Option Addr} {n c n' c' : Nat} {np s0 s1 s2 s3 : Int} {w : World} {cs : Array Value} {v : Value} (hb : b < w.heap.size) (h0 : id' = id) (h1 : a' = a) (h2 : n' = n) (h3 : c' = c)
    (hv : v = .pointer (some ⟨w.heap.size, 0, none⟩))
    (h : cs = #[.string id, .slice a n c, .slice none 0 0, .slice none 0 0, .int .i64 np, .slice none 0 0, .int .i64 s0, .int .i64 s1, .int .i64 s2, .int .i64 s3]) :
    Named b id' a' n' c' np s0 s1 s2 s3 w (.returned v) (w.alloc (.cells cs 52)) := by
  subst h h0 h1 h2 h3 hv
  exact ⟨_, rfl, hb, Nat.le_refl _, isSt_new _ _ _ _ _ _ _ _ _ _, (Below.refl _ _).alloc (Nat.le_refl _) _⟩

set_option maxHeartbeats 800000 in
theorem name_any (b : Nat) (id cid : ByteArray) (a a2 : Option Addr) (n c n2 c2 : Nat) (np s0 s1 s2 s3 : Int) (w : World) (h : IsSt w b id a n c np s0 s1 s2 s3) :
    Calls Try.prog 23 #[.pointer (some ⟨b, 0, none⟩), .string cid, .slice a2 n2 c2] w (Named b (idOf id cid) (slOf n a a2) (slOf n n n2) (slOf n c c2) np s0 s1 s2 s3 w) := by
  obtain ⟨hlt, k0, k1, k2, k3, k4, k5, k6, k7, k8, k9, -⟩ := h
  cases hid : id.toList.isEmpty <;> by_cases hn : n = 0
  · have hn' : ((n : Int) == 0) = true := by simp [hn]
    have E0 := hide (idOf_no (cid := cid) hid)
    have E1 := hide (slOf_yes (x := a) (y := a2) hn)
    have E2 := hide (slOf_yes (x := n) (y := n2) hn)
    have E3 := hide (slOf_yes (x := c) (y := c2) hn)
    clear hn
    go_enter Try.func23, Try.ntmps23
    go_wp2
    go_ret
    exact named_mk hlt E0.out E1.out E2.out E3.out rfl rfl
  · have hn' : ((n : Int) == 0) = false := by simp [hn]
    have E0 := hide (idOf_no (cid := cid) hid)
    have E1 := hide (slOf_no (x := a) (y := a2) hn)
    have E2 := hide (slOf_no (x := n) (y := n2) hn)
    have E3 := hide (slOf_no (x := c) (y := c2) hn)
    clear hn
    go_enter Try.func23, Try.ntmps23
    go_wp2
    go_ret
    exact named_mk hlt E0.out E1.out E2.out E3.out rfl rfl
  · have hn' : ((n : Int) == 0) = true := by simp [hn]
    have E0 := hide (idOf_yes (cid := cid) hid)
    have E1 := hide (slOf_yes (x := a) (y := a2) hn)
    have E2 := hide (slOf_yes (x := n) (y := n2) hn)
    have E3 := hide (slOf_yes (x := c) (y := c2) hn)
    clear hn
    go_enter Try.func23, Try.ntmps23
    go_wp2
    go_ret
    exact named_mk hlt E0.out E1.out E2.out E3.out rfl rfl
  · have hn' : ((n : Int) == 0) = false := by simp [hn]
    have E0 := hide (idOf_yes (cid := cid) hid)
    have E1 := hide (slOf_no (x := a) (y := a2) hn)
    have E2 := hide (slOf_no (x := n) (y := n2) hn)
    have E3 := hide (slOf_no (x := c) (y := c2) hn)
    clear hn
    go_enter Try.func23, Try.ntmps23
    go_wp2
    go_ret
    exact named_mk hlt E0.out E1.out E2.out E3.out rfl rfl

set_option maxHeartbeats 400000 in
theorem zzName_any (b : Nat) (id cid : ByteArray) (a a2 : Option Addr) (n c n2 c2 : Nat) (np s0 s1 s2 s3 : Int) (w : World) (h : IsSt w b id a n c np s0 s1 s2 s3) :
    Calls Try.prog 17 #[.pointer (some ⟨b, 0, none⟩), .string cid, .slice a2 n2 c2] w (Named b (idOf id cid) (slOf n a a2) (slOf n n n2) (slOf n c c2) np s0 s1 s2 s3 w) := by
  have H := hide h
  clear h
  go_enter Try.func17, Try.ntmps17
  go_wp2_with fail
  refine (name_any b id cid a a2 n c n2 c2 np s0 s1 s2 s3 w H.out).mono ?_
  rintro e w' ⟨b', rfl, h1, h2, h3, h4⟩
  have HN := hide h3
  have HB := hide h4
  clear h3 h4
  go_wp2
  go_ret
  exact ⟨b', rfl, h1, h2, HN.out, HB.out⟩
end Go.Proofs.Qxb6604208a
