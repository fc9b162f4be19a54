/-
  mb1CloneBytes (16), mb1SameBytes (18), (*State).name (23) and its shim (17): what each answers, and what becomes of memory.
-/
import Derived.Test.Qxb6604208aFields
import Derived.WalkKit
import Derived.WalkSpells
import Derived.WalkSmall
import Derived.Deep.QuietTactic
import Derived.BigQuiet
import Derived.Laws.CopyOwn
import Derived.Lib.SliceRun
namespace Go.Proofs.Qxb6604208a
open Go.RowKit

/-- Block g is the row of the numbers ys. -/
def Row (w : World) (g : Nat) (ys : List Int) : Prop := w.heap[g]? = some (.cells (ys.map (Value.int .u8)).toArray 5 (0, 0))

theorem Row.lt {w : World} {g : Nat} {ys : List Int} (h : Row w g ys) : g < w.heap.size := by
  by_cases e : g < w.heap.size
  · exact e
  · unfold Row at h; rw [Array.getElem?_eq_none (by omega)] at h; simp at h

theorem Row.cell {w : World} {g : Nat} {ys : List Int} (h : Row w g ys) {k : Nat} (hk : k < ys.length) : w.cell? ⟨g, k, none⟩ = some (.int .u8 (ys.getD k 0)) := by
  unfold Row at h
  simp [World.cell?, h, hk]

/-- A slice of bytes of the call's own: nil, or a row. -/
def Sl (w : World) (a : Option Addr) (n cap : Nat) (ys : List Int) : Prop :=
  ys.length = n ∧ ((a = none ∧ n = 0 ∧ cap = 0) ∨ ∃ g, a = some ⟨g, 0, none⟩ ∧ Row w g ys ∧ cap = n)

theorem Sl.step {w w' : World} {a : Option Addr} {n cap : Nat} {ys : List Int} (h : Sl w a n cap ys) (hb : Below w.heap.size w w') : Sl w' a n cap ys := by
  obtain ⟨h1, h2 | ⟨g, h2, h3, h4⟩⟩ := h
  · exact ⟨h1, .inl h2⟩
  · exact ⟨h1, .inr ⟨g, h2, (hb.block g h3.lt).trans h3, h4⟩⟩

/-- A slice of bytes, its elements and its spare room 'zs': one that came in, or one of the call's own. -/
def InRow (w : World) (a : Option Addr) (len cap : Nat) (zs : List Int) : Prop :=
  (a = none ∧ len = 0 ∧ cap = 0 ∧ zs = []) ∨
  ∃ x, a = some x ∧ len ≤ cap ∧ zs.length = cap ∧ ∀ i, i < zs.length → w.cell? (x.add i) = some (.int .u8 (zs.getD i 0))

theorem Sl.inRow {w : World} {a : Option Addr} {n cap : Nat} {ys : List Int} (h : Sl w a n cap ys) : InRow w a n cap ys := by
  obtain ⟨h1, ⟨rfl, rfl, rfl⟩ | ⟨g, rfl, h3, rfl⟩⟩ := h
  · exact .inl ⟨rfl, rfl, rfl, List.eq_nil_of_length_eq_zero h1⟩
  · refine .inr ⟨_, rfl, Nat.le_refl _, h1, fun i hi => ?_⟩
    have e : (Addr.add ⟨g, 0, none⟩ i) = ⟨g, i, none⟩ := by unfold Addr.add; split <;> simp_all
    rw [e]; exact h3.cell hi

theorem InRow.step {w w' : World} {a : Option Addr} {n cap : Nat} {ys : List Int} (h : InRow w a n cap ys) (hb : Below w.heap.size w w') : InRow w' a n cap ys := by
  rcases h with h | ⟨x, h1, h2, h3, h4⟩
  · exact .inl h
  · exact .inr ⟨x, h1, h2, h3, fun i hi => by rw [hb.cell (World.block_lt_of_cell? _ _ (h4 i hi))]; exact h4 i hi⟩

theorem info5 : (Try.prog.info? 5).map (fun i => (i.zero, i.size, i.bytes)) = some (some (.int .u8 0), 1, 1) := by kernel_rfl

theorem made_open {w w1 : World} {n : Nat} {xs : List Value} {g : Nat} (h : w1.ownsRow w.heap.size 5 1 (.slice (some ⟨g, 0, none⟩) n n) n xs) : ∃ cur : List Value, w1.heap[g]? = some (.cells cur.toArray 5 (0, 0)) ∧ cur.length = n := by
  obtain ⟨_, ⟨h1, _⟩ | ⟨g', cap, cur, hv, _, hg, _, _, hsz, _⟩⟩ := h
  · simp at h1
  · simp at hv
    obtain ⟨rfl, rfl⟩ := hv
    exact ⟨cur.toList, by simpa using hg, by simpa using hsz⟩

theorem src_keep {w w1 : World} {zs : List Int} {cs : List Value} {len cap : Nat} {x : Addr} (hcs : cs = (zs.take len).map (Value.int .u8)) (hz : zs.length = cap) (hl : len ≤ cap) (hc : ∀ i, i < zs.length → w.cell? (x.add i) = some (.int .u8 (zs.getD i 0))) (hb : Below w.heap.size w w1) :
    ∀ j v, cs[j]? = some v → w1.cell? (x.add j) = some v := by
  intro j v hj
  have hjl : j < len := by
    by_cases e : j < len
    · exact e
    · rw [List.getElem?_eq_none (by rw [hcs]; simp; omega)] at hj; simp at hj
  have h := hc j (by omega)
  rw [hb.cell (World.block_lt_of_cell? _ _ h), h, ← hj, hcs]
  have hjz : j < zs.length := by omega
  simp [hjl, hjz]

theorem row_filled {w2 : World} {g len : Nat} {cur cs : List Value} {zs : List Int} (h : Hid (w2.heap[g]? = some (.cells (splice cur 0 cs).toArray 5 (0, 0)))) (hcs : cs = (zs.take len).map (Value.int .u8)) (hl : cs.length = cur.length) : Row w2 g (zs.take len) := by
  unfold Row
  rw [h.out]
  have e : splice cur 0 cs = cs := by
    unfold splice
    rw [List.drop_eq_nil_of_le (by omega)]; simp
  rw [e, hcs]

set_option maxHeartbeats 800000 in
theorem clone_any (a : Option Addr) (len cap : Nat) (zs : List Int) (w : World) (h : InRow w a len cap zs) (hlen : len ≤ 1048576) :
    Calls Try.prog 16 #[.slice a len cap] w fun e w' => ∃ a' cap', e = .returned (.slice a' len cap') ∧ a'.isNone = a.isNone ∧ Sl w' a' len cap' (zs.take len) ∧ Below w.heap.size w w' := by
  obtain ⟨i0, hi, hz0, hz1, hz2⟩ := info_parts info5
  have heq := fun w => Lib.run_eql_slice_nil (P := Try.prog) w 44 5 a len cap 0 0 Try.underlying44
  rcases h with ⟨rfl, rfl, rfl, rfl⟩ | ⟨x, rfl, hl, hz, hcell⟩
  · go_enter Try.func16, Try.ntmps16
    go_wp2
    go_ret
    exact ⟨none, 0, rfl, rfl, ⟨rfl, .inl ⟨rfl, rfl, rfl⟩⟩, Below.refl _ _⟩
  · obtain ⟨cs, hcs⟩ : ∃ cs, cs = (zs.take len).map (Value.int .u8) := ⟨_, rfl⟩
    have hcl : cs.length = len := by rw [hcs]; simp; omega
    have HC := hide hcell
    have HCS := hide hcs
    have HZ := hide hz
    clear hcell hcs hz
    go_enter Try.func16, Try.ntmps16
    go_wp2_with (at_make; refine wpList_make_full _ rfl _ _ 44 rfl w.heap.size 5 i0 (.int .u8 0) 1 Try.underlying44 hi hz0 hz1 .i64 .i64 _ _ len rfl rfl rfl rfl ?b2 ?b3 ?b4 ?_)
    case b2 => rw [hz2]; omega
    case b3 => unfold maxLen; omega
    case b4 => exact Nat.le_refl _
    intro w1 hown hgrow
    obtain ⟨cur, hg1, hcurl⟩ := made_open hown
    have hb1 : Below w.heap.size w w1 := (Below.refl _ _).grown hgrow (Nat.le_refl _) (fun k h => by cases h)
    have hsrc : ∀ j v, cs[j]? = some v → w1.cell? (x.add j) = some v := src_keep HCS.out HZ.out hl HC.out hb1
    have HS := hide hsrc
    have HB := hide hb1
    have HG := hide hg1
    clear hown hgrow hsrc hb1 hg1
    go_wp2_with (refine wpList_copy_splice rfl (.tmp 9) (.tmp 10) 44 44 rfl 5 Try.underlying44 (by kernel_rfl) (some ⟨w.heap.size, 0, none⟩) (some x) len len len cap rfl rfl w.heap.size 0 cur 5 HG.out cs ?d1 ?d2 ?d3 ?d4 w.heap.size w HB.out (Nat.le_refl _) ?_)
    case d1 => rw [hcl]; exact (Nat.min_self _).symm
    case d2 => exact fun _ => HS.out
    case d3 => omega
    case d4 => intro v hv; rw [HCS.out] at hv; obtain ⟨_, _, rfl⟩ := List.mem_map.1 hv; rfl
    intro w2 HG2 hb2
    have HB2 := hide hb2
    have HR : Hid (Row w2 w.heap.size (zs.take len)) := row_filled HG2 HCS.out (by omega)
    have hlt : Hid ((zs.take len).length = len) := by show _ = _; have := HZ.out; simp; omega
    clear hb2 HG2 HS HB HG HC HCS HZ
    go_wp2
    go_ret
    exact ⟨_, _, rfl, rfl, ⟨hlt.out, .inr ⟨_, rfl, HR.out, rfl⟩⟩, HB2.out⟩

set_option maxHeartbeats 800000 in
/-- Two slices of the same bytes, both nil or neither. -/
theorem same_any (a b : Option Addr) (n cap cap' : Nat) (ys : List Int) (w : World) (ha : Sl w a n cap ys) (hb : Sl w b n cap' ys) (hab : a.isNone = b.isNone) (hn : n ≤ 1048576) :
    Calls Try.prog 18 #[.slice a n cap, .slice b n cap'] w fun e w' => e = .returned (.bool true) ∧ ∃ q, w' = w.drewN q := by
  have heq := fun w a c => Lib.run_eql_slice_nil (P := Try.prog) w 44 5 a n c 0 0 Try.underlying44
  obtain ⟨h1, ⟨rfl, rfl, rfl⟩ | ⟨g, rfl, h3, hc⟩⟩ := ha <;> obtain ⟨k1, ⟨rfl, k0, hc'⟩ | ⟨g', rfl, k3, hc'⟩⟩ := hb
  · subst cap'
    clear h1 k1 k0 hab
    go_enter Try.func18, Try.ntmps18
    go_wp2
    go_loop [5] (fun i => i = .int .i64 0) (fun _ => 0)
    case atStart => rfl
    case round =>
      subst hrel
      go_wp2
      go_ret
      exact ⟨rfl, 0, rfl⟩
  · simp at hab
  · simp at hab
  · subst cap
    subst cap'
    have HC : Hid (∀ k, k < n → w.cell? ⟨g, k, none⟩ = some (.int .u8 (ys.getD k 0)) ∧ w.cell? ⟨g', k, none⟩ = some (.int .u8 (ys.getD k 0))) := fun k hk => ⟨h3.cell (by omega), k3.cell (by omega)⟩
    clear h1 h3 k3 k1 hab
    go_enter Try.func18, Try.ntmps18
    go_wp2
    go_loopw [5] (fun i wr => ∃ k q : Nat, k ≤ n ∧ i = .int .i64 k ∧ wr = w.drewN q) (fun i _ => n - (intOf i).toNat)
    case atStart => exact ⟨0, 0, by omega, rfl, rfl⟩
    case round =>
      obtain ⟨k, q, hk, rfl, rfl⟩ := hrel
      by_cases hlt : k < n
      · obtain ⟨c1, c2⟩ := HC.out k hlt
        have hlt' : (k : Int) < (n : Int) := by omega
        go_wp2_with fail
        go_quiet (fail)
        go_wp2
        go_roundw
        case rel => exact ⟨k + 1, _, by omega, by go_num, rfl⟩
        case measure => simp [intOf]; omega
      · go_wp2
        go_ret
        exact ⟨rfl, q, rfl⟩
end Go.Proofs.Qxb6604208a
