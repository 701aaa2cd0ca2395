/-
  withRoom[int] (function 11 of the cut): two contracts: there is room (the very slice comes back) ¦ there is none (a new row, the same elements).
-/
import Derived.Test.YbulkcsxkRows
import Derived.WalkKit
import Derived.WalkSpells
import Derived.Laws.CopyOwn
import Derived.Deep.OwnRows
import Derived.Deep.Draws
import Derived.LaidEql
namespace Go.Proofs.Ybulkcsxk
open Go.RowKit

theorem Yba.info3 : (Yba.prog.info? 3).map (fun i => (i.zero, i.size, i.bytes)) = some (some (.int .i64 0), 1, 8) := by kernel_rfl
theorem Yba.size3 : (Yba.prog.info? 3).map (·.size) = some 1 := by kernel_rfl

/-- 'make([]int, l, c)' in whatever world. -/
theorem make_ints (l c : Nat) (hlc : l ≤ c) (hc : c ≤ 1000000) (L C : Int) (hL : L = (l : Int)) (hC : C = (c : Int)) (w : World) :
    (Instr.makeSlice 69 (.int .i64 L) (.int .i64 C)).run Yba.prog w = .ok (.slice (some ⟨w.heap.size, 0, none⟩) l c) (w.alloc (.cells (madeCells #[.int .i64 0] c) 3)) := by
  subst hL; subst hC
  obtain ⟨i, hi, hz0, hz1, hz2⟩ := info_parts Yba.info3
  have hr := run_make (P := Yba.prog) w 69 3 i (.int .i64 0) Yba.underlying69 hi hz0 .i64 .i64 l c (by omega) (by omega) (by rw [hz2]; omega) (by omega)
  simp only [Int.toNat_natCast, hz1, Nat.mul_one] at hr
  exact hr

/-- What a row of integers holds: its first cells are the numbers zs. -/
def Holds (w : World) (g : Nat) (c : Nat) (zs : List Int) : Prop :=
  ∃ cur : List Value, w.heap[g]? = some (.cells cur.toArray 3 (0, 0)) ∧ cur.length = c ∧ ∀ j, j < zs.length → cur[j]? = some (.int .i64 (zs.getD j 0))

theorem Holds.lt {w : World} {g c : Nat} {zs : List Int} (h : Holds w g c zs) : g < w.heap.size := by
  obtain ⟨cur, h, _⟩ := h
  exact (Array.getElem?_eq_some_iff.1 h).1

theorem Holds.cell {w : World} {g c : Nat} {zs : List Int} (h : Holds w g c zs) (j : Nat) (hj : j < zs.length) : w.cell? ⟨g, j, none⟩ = some (.int .i64 (zs.getD j 0)) := by
  obtain ⟨cur, h, hl, hz⟩ := h
  simp [World.cell?, h, hz j hj]

theorem Holds.below {w w' : World} {g c : Nat} {zs : List Int} (h : Holds w g c zs) {B : Nat} (hb : Below B w w') (hg : g < B) : Holds w' g c zs := by
  obtain ⟨cur, h, r⟩ := h
  exact ⟨cur, by rw [hb.block g hg]; exact h, r⟩

/-- 'copy(dst, src)' into a row that was just made, from a source of len numbers: the row then holds them. -/
theorem copy_made (w : World) (l c : Nat) (hlc : l ≤ c) (a : Option Addr) (cap : Nat) (zs : List Int) (hzl : zs.length = l)
    (hsrc : 0 < l → ∃ x, a = some x ∧ ∀ j, j < l → w.cell? (x.add j) = some (.int .i64 (zs.getD j 0))) :
    ∃ W2 : World, (∀ ty, (Builtin.copy_ #[69, 69] ty #[.slice (some ⟨w.heap.size, 0, none⟩) l c, .slice a l cap]).run Yba.prog (w.alloc (.cells (madeCells #[.int .i64 0] c) 3)) = .ok (.int .i64 l) W2) ∧
      Holds W2 w.heap.size c zs ∧ Below w.heap.size w W2 ∧ W2.heap.size = w.heap.size + 1 := by
  have hh : (w.alloc (.cells (madeCells #[.int .i64 0] c) 3)).heap[w.heap.size]? = some (.cells (madeCells #[.int .i64 0] c) 3 (0, 0)) := by
    show (w.heap.push _)[w.heap.size]? = _
    simp
  by_cases hl0 : l = 0
  · subst hl0
    refine ⟨_, fun ty => run_copy_none _ 69 69 ty 3 _ _ 0 c 0 cap Yba.underlying69 Yba.size3 (by rfl), ?_, (Below.refl _ _).alloc (Nat.le_refl _) _, by simp⟩
    refine ⟨(madeCells #[.int .i64 0] c).toList, by simpa using hh, by simp [size_madeCells], ?_⟩
    intro j hj; omega
  · obtain ⟨x, rfl, hx⟩ := hsrc (by omega)
    have hcs : (zs.map (Value.int .i64)).length = Nat.min l l := by simp [hzl]
    have hr := fun ty => run_copy_row (P := Yba.prog) (w.alloc (.cells (madeCells #[.int .i64 0] c) 3)) 69 69 ty 3 w.heap.size 0 l c x l cap (madeCells #[.int .i64 0] c) 3 (zs.map (Value.int .i64)) Yba.underlying69 Yba.size3 hh hcs
      (by
        intro j v hv
        have hj : j < zs.length := by
          rcases Nat.lt_or_ge j zs.length with h | h
          · exact h
          · rw [List.getElem?_eq_none (by simpa using h)] at hv; cases hv
        have hv' : v = .int .i64 (zs.getD j 0) := by
          rw [List.getElem?_map, List.getElem?_eq_getElem hj] at hv
          simp at hv
          rw [← hv]; simp [hj]
        have h1 := hx j (by omega)
        rw [hv']
        have hb := World.block_lt_of_cell? _ _ h1
        exact (World.cell?_of_block (Below.heap_alloc _ _ _ hb)).trans h1)
      (by simp [size_madeCells]; omega) (ints_oneCell .i64 zs)
    have hg : goInt (zs.map (Value.int .i64)).length = .int .i64 l := by simp [goInt, hzl]
    rw [hg] at hr
    refine ⟨_, hr, ?_, ?_, ?_⟩
    · refine ⟨_, setRow_heap _ _ _ _ 3 _ hh, by simp [size_madeCells]; omega, ?_⟩
      intro j hj
      rw [List.append_assoc, List.getElem?_append_right (by simp), List.getElem?_append_left (by simpa using hj)]
      simp [hj]
    · exact below_setRow ((Below.refl _ _).alloc (Nat.le_refl _) _) (Nat.le_refl _) _
    · simp [World.setRow]

set_option maxHeartbeats 400000 in
/-- There is room: the very slice. -/
theorem room_same (a : Option Addr) (l c : Nat) (n : Int) (hlc : l ≤ c) (hc : c ≤ 1000000) (hn : n ≤ (c : Int) - (l : Int)) (w : World) :
    Calls Yba.prog 11 #[.slice a l c, .int .i64 n] w fun e w' => e = .returned (.slice a l c) ∧ w = w' := by
  go_enter Yba.func11, Yba.ntmps11
  go_wp2
  go_ret
  exact ⟨rfl, rfl⟩

set_option maxHeartbeats 400000 in
/-- There is none: a new row. -/
theorem room_grow (g l c : Nat) (n : Int) (m : Nat) (zs : List Int) (hzl : zs.length = l) (hlc : l ≤ c) (hc : c ≤ 10000) (hn : (c : Int) - (l : Int) < n) (hn2 : n ≤ 4096)
    (hm : m = max ((l : Int) + n).toNat (2 * c)) (w : World) (hw : Holds w g c zs) :
    Calls Yba.prog 11 #[.slice (some ⟨g, 0, none⟩) l c, .int .i64 n] w fun e w' => e = .returned (.slice (some ⟨w.heap.size, 0, none⟩) l m) ∧ Holds w' w.heap.size m zs ∧ Below w.heap.size w w' ∧ w'.heap.size = w.heap.size + 1 := by
  obtain ⟨W2, hcopy, hh, hb, hs⟩ := copy_made w l m (by omega) (some ⟨g, 0, none⟩) c zs hzl (fun _ => ⟨_, rfl, fun j hj => by rw [Addr.add_lit]; simpa using hw.cell j (by omega)⟩)
  have HH : Hid (Holds W2 w.heap.size m zs ∧ Below w.heap.size w W2 ∧ W2.heap.size = w.heap.size + 1) := ⟨hh, hb, hs⟩
  have hml : l ≤ m := by omega
  have hmb : m ≤ 20000 := by omega
  by_cases hlt : (l : Int) + n < 2 * (c : Int)
  · have hmk := make_ints l m (by omega) (by omega) (l : Int) (2 * (c : Int)) rfl (by omega)
    clear hh hb hs hm hzl hw
    go_enter Yba.func11, Yba.ntmps11
    go_wp2
    go_ret
    exact ⟨rfl, HH.out⟩
  · have hmk := make_ints l m (by omega) (by omega) (l : Int) ((l : Int) + n) rfl (by omega)
    clear hh hb hs hm hzl hw
    go_enter Yba.func11, Yba.ntmps11
    go_wp2
    go_ret
    exact ⟨rfl, HH.out⟩

/-- 's[:1]' of a slice whose capacity is at least 1. -/
theorem slice_one (g l c : Nat) (hc : 1 ≤ c) (W : World) :
    (Instr.slice 69 (.slice (some ⟨g, 0, none⟩) l c) none (some (.int .i64 1)) none).run Yba.prog W = .ok (.slice (some ⟨g, 0, none⟩) 1 c) W := by
  have h1 : (1 : Int) ≤ (c : Int) := by omega
  obtain ⟨i, hi, hz0, hz1, hz2⟩ := info_parts Yba.info3
  simp [Instr.slice, run_underlying Yba.underlying69, Instr.sliceBounds, Instr.sliceBound, asIntOf, h1, sizeOf, typeInfo, hi, Addr.add]

theorem equalIn_ptr (d : Nat) (a b : Addr) (W : World) (x : Bool) (h : (sameAddr a b).run Yba.prog W = .ok x W) :
    (Op.equalIn (d + 1) 71 (.pointer (some a)) (.pointer (some b))).run Yba.prog W = .ok x W := by
  obtain ⟨i, hi, hz0, hz1, hz2⟩ := info_parts Yba.info3
  simp [Op.equalIn, run_underlying Yba.underlying71, sizeOf, typeInfo, hi, hz1, h]

/-- '&x == &y' at two '*int': one place. -/
theorem eql_ptr_same (a : Addr) (W : World) : (binOp .eql 71 (.pointer (some a)) (.pointer (some a))).run Yba.prog W = .ok (.bool true) W := by
  simp only [binOp]
  simp [Op.equal, Op.maxDepth, equalIn_ptr 9999 a a W true (run_sameAddr_same W a)]

/-- .. two places, in blocks of their own. -/
theorem eql_ptr_other {a b : Addr} (W : World) {ca cb : Array Value} {ta tb : TypeId} (hne : a ≠ b) (ha : W.heap[a.block]? = some (.cells ca ta (0, 0))) (hb : W.heap[b.block]? = some (.cells cb tb (0, 0))) :
    (binOp .eql 71 (.pointer (some a)) (.pointer (some b))).run Yba.prog W = .ok (.bool false) W := by
  simp only [binOp]
  simp [Op.equal, Op.maxDepth, equalIn_ptr 9999 a b W false (run_sameAddr_other W hne ha hb)]

theorem Holds.eql_other {w : World} {g c g' c' : Nat} {zs zs' : List Int} (h : Holds w g c zs) (h' : Holds w g' c' zs') (hne : g ≠ g') (q : Nat) :
    (binOp .eql 71 (.pointer (some ⟨g, 0, none⟩)) (.pointer (some ⟨g', 0, none⟩))).run Yba.prog (w.drewN q) = .ok (.bool false) (w.drewN q) := by
  obtain ⟨cur, h1, _⟩ := h
  obtain ⟨cur', h2, _⟩ := h'
  exact eql_ptr_other (w.drewN q) (fun e => hne (congrArg Addr.block e)) h1 h2

theorem below_drewN {B : Nat} {w w' : World} (h : Below B w w') (q : Nat) : Below B w (w'.drewN q) := ⟨h.os, h.tape, h.output, h.size, h.block⟩

end Go.Proofs.Ybulkcsxk
