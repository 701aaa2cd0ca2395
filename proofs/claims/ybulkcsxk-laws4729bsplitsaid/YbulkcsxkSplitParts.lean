/-
  Small facts for the walk of LawS4729BSplit, outside the walk.
-/
import Derived.Test.YbulkcsxkPlain
import Derived.Deep.OwnRows
import Derived.Deep.Draws
import Derived.Laws.IdiomStrings
namespace Go.Proofs.Ybulkcsxk
open Go.RowKit

theorem Yba.info9 : (Yba.prog.info? 9).map (fun i => (i.zero, i.size, i.bytes)) = some (some (.string ⟨#[]⟩), 1, 16) := by kernel_rfl
theorem Yba.info5 : (Yba.prog.info? 5).map (fun i => (i.zero, i.size, i.bytes)) = some (some (.int .u8 0), 1, 1) := by kernel_rfl

/-- 'make([]byte, n)'. -/
theorem make_bytes (n : Nat) (hn : n ≤ 4096) (w : World) :
    (Instr.makeSlice 22 (.int .i64 (n : Int)) (.int .i64 (n : Int))).run Yba.prog w = .ok (.slice (some ⟨w.heap.size, 0, none⟩) n n) (w.alloc (.cells (madeCells #[.int .u8 0] n) 5)) :=
  run_make_row' 22 5 (.int .u8 0) 1 Yba.underlying22 Yba.info5 rfl .i64 .i64 n (by omega) (by omega) w

/-- A byte of the law's table. -/
theorem tab_at (i : Int) (h0 : 0 ≤ i) (h1 : i < 10) : ∃ c : UInt8, ∀ W : World,
    (Instr.index 9 (.string ⟨#[97, 98, 32, 9, 10, 59, 58, 13, 11, 12]⟩) (.int .i64 i)).run Yba.prog W = .ok (.int .u8 (c.toNat : Int)) W := by
  have h : i = 0 ∨ i = 1 ∨ i = 2 ∨ i = 3 ∨ i = 4 ∨ i = 5 ∨ i = 6 ∨ i = 7 ∨ i = 8 ∨ i = 9 := by omega
  rcases h with rfl | rfl | rfl | rfl | rfl | rfl | rfl | rfl | rfl | rfl
  · exact ⟨97, fun W => by kernel_rfl⟩
  · exact ⟨98, fun W => by kernel_rfl⟩
  · exact ⟨32, fun W => by kernel_rfl⟩
  · exact ⟨9, fun W => by kernel_rfl⟩
  · exact ⟨10, fun W => by kernel_rfl⟩
  · exact ⟨59, fun W => by kernel_rfl⟩
  · exact ⟨58, fun W => by kernel_rfl⟩
  · exact ⟨13, fun W => by kernel_rfl⟩
  · exact ⟨11, fun W => by kernel_rfl⟩
  · exact ⟨12, fun W => by kernel_rfl⟩

/-- The row of bytes, and a store into it. -/
def Bytes (w : World) (g n : Nat) : Prop := ∃ f : Nat → UInt8, w.rowIs g 5 n (fun j => .int .u8 ((f j).toNat : Int))

theorem Bytes.made (w : World) (n : Nat) : Bytes (w.alloc (.cells (madeCells #[.int .u8 0] n) 5)) w.heap.size n :=
  ⟨fun _ => 0, World.rowIs_made w (.int .u8 0) n 5⟩

theorem Bytes.set {w : World} {g n : Nat} (h : Bytes w g n) (k : Nat) (c : UInt8) : Bytes (w.setCell ⟨g, k, none⟩ (.int .u8 (c.toNat : Int))) g n := by
  obtain ⟨f, hf⟩ := h
  refine ⟨fun j => if j = k then c else f j, (hf.set k _).congr fun j _ => ?_⟩
  by_cases h : j = k <;> simp [h]

theorem Bytes.cell {w : World} {g n : Nat} (h : Bytes w g n) (k : Nat) (hk : k < n) : ∃ x : Int, w.cell? ⟨g, k, none⟩ = some (.int .u8 x) := by
  obtain ⟨f, hf⟩ := h
  exact ⟨_, hf.cell hk⟩

theorem Bytes.frozen {w : World} {g n : Nat} (h : Bytes w g n) (k : Nat) : w.frozen? ⟨g, k, none⟩ = false := by
  obtain ⟨f, hf⟩ := h
  exact hf.frozen k

/-- 'string(b)': some string of n bytes. -/
theorem Bytes.text {w : World} {g n : Nat} (h : Bytes w g n) : ∃ s : ByteArray, s.size = n ∧ (convert 22 9 (.slice (some ⟨g, 0, none⟩) n n)).run Yba.prog w = .ok (.string s) w := by
  obtain ⟨f, hf⟩ := h
  have hr := run_convert_bytes_back (P := Yba.prog) w 22 9 5 ⟨g, 0, none⟩ n ((List.range n).map f) Yba.underlying22 Yba.underlying5 Yba.underlying9 (by
    intro j hj
    have hj' : j < n := by simpa using hj
    rw [Addr.add_lit]
    simpa using hf.cell hj')
  have hl : ((List.range n).map f).length = n := by simp
  rw [hl] at hr
  exact ⟨_, by simp [ByteArray.size], hr⟩

/-- The strings of a list of fields. -/
def cells (s : ByteArray) (l : List (Nat × Nat)) : List Value := l.map fun x => .string (s.extract x.1 x.2)
theorem cells_snoc (s : ByteArray) (l : List (Nat × Nat)) (a b : Nat) : cells s (l ++ [(a, b)]) = cells s l ++ [.string (s.extract a b)] := by simp [cells]

/-- What the law's splitter owns. -/
structure Wanted (s : ByteArray) (B : Nat) (w wr : World) (v : Value) (l : List (Nat × Nat)) : Prop where
  own : wr.ownsRow (B + 1) 9 1 v l.length (cells s l)
  below : Below B w wr
  size : B + 1 ≤ wr.heap.size

theorem Wanted.app {s : ByteArray} {B : Nat} {w wr w1 : World} {v v' : Value} {l : List (Nat × Nat)} {a b : Nat} {o : Obj} (h : Wanted s B w wr v l)
    (hown : w1.ownsRow (B + 1) 9 1 v' (l.length + 1) (cells s l ++ [.string (s.extract a b)])) (hg : (wr.alloc o).grownBy w1 v.ownBlock) : Wanted s B w w1 v' (l ++ [(a, b)]) := by
  refine ⟨?_, ?_, ?_⟩
  · rw [cells_snoc, List.length_append]; exact hown
  · refine (h.below.alloc (by have := h.size; omega) o).grown hg (by have := h.size; simp; omega) fun k hk => ?_
    have := (h.own.lt k hk).1; omega
  · have h1 := h.size
    have h2 := hg.size
    simp at h2; omega

/-- The scanner's struct at block S, the fields gathered so far. -/
structure Gotten (s : ByteArray) (S : Nat) (w wr : World) (v : Value) (l : List (Nat × Nat)) (p : Nat) : Prop where
  own : wr.ownsRow (S + 1) 9 1 v l.length (cells s l)
  below : Below S w wr
  size : S + 1 ≤ wr.heap.size
  c0 : wr.cell? ⟨S, 0, none⟩ = some (.string s)
  c1 : wr.cell? ⟨S, 1, none⟩ = some (.int .i64 p)
  fz : wr.frozen? ⟨S, 1, none⟩ = false

theorem Gotten.start (s : ByteArray) (w : World) : Gotten s w.heap.size w (w.alloc (.cells #[.string s, .int .i64 0] 62)) (.slice none 0 0) [] 0 :=
  ⟨World.ownsRow_nil _ _ _ _, (Below.refl _ _).alloc (Nat.le_refl _) _, by simp, by simp, by simp, by simp⟩

theorem Gotten.move {s : ByteArray} {S : Nat} {w wr : World} {v : Value} {l : List (Nat × Nat)} {p : Nat} (h : Gotten s S w wr v l p) (q : Nat) : Gotten s S w (wr.setCell ⟨S, 1, none⟩ (.int .i64 q)) v l q := by
  refine ⟨ownsRow_setCell_below h.own (by simp) _, h.below.setCell (by simp) _, by simpa [World.setCell] using h.size, ?_, ?_, ?_⟩
  · have hne : (⟨S, 1, none⟩ : Addr) ≠ ⟨S, 0, none⟩ := fun e => by cases e
    exact (World.cell?_setCell_other (h := hne) ..).trans h.c0
  · exact World.cell?_setCell_same (h := h.c1) ..
  · have := h.fz; simp [this]

theorem Gotten.app {s : ByteArray} {S : Nat} {w wr w1 : World} {v v' : Value} {l : List (Nat × Nat)} {a b p : Nat} {o : Obj} (h : Gotten s S w wr v l p)
    (hown : w1.ownsRow (S + 1) 9 1 v' (l.length + 1) (cells s l ++ [.string (s.extract a b)])) (hg : (wr.alloc o).grownBy w1 v.ownBlock) : Gotten s S w w1 v' (l ++ [(a, b)]) p := by
  have hne : some S ≠ v.ownBlock := fun e => by have := (h.own.lt S e.symm).1; omega
  have hblk : w1.heap[S]? = wr.heap[S]? := by
    rw [hg.block S (by have := h.size; simp; omega) hne]
    exact Below.heap_alloc _ _ _ (by have := h.size; omega)
  refine ⟨?_, ?_, ?_, ?_, ?_, ?_⟩
  · rw [cells_snoc, List.length_append]; exact hown
  · refine (h.below.alloc (by have := h.size; omega) o).grown hg (by have := h.size; simp; omega) fun k hk => ?_
    have := (h.own.lt k hk).1; omega
  · have h1 := h.size
    have h2 := hg.size
    simp at h2; omega
  · rw [World.cell?_of_block (w := wr) hblk]; exact h.c0
  · rw [World.cell?_of_block (w := wr) hblk]; exact h.c1
  · rw [World.frozen?_of_block (w := wr) hblk]; exact h.fz

/-- The shape of an owned slice of strings. -/
theorem own_form {w : World} {base : Nat} {v : Value} {n : Nat} {xs : List Value} (h : w.ownsRow base 9 1 v n xs) :
    ∃ ao cap, v = .slice ao n cap ∧ ∀ j u, xs[j]? = some u → ∃ g, ao = some ⟨g, 0, none⟩ ∧ g < w.heap.size ∧ w.cell? ⟨g, j, none⟩ = some u := by
  have hh := h
  obtain ⟨hl, hv | ⟨g, cap, cur, hv, hg, r⟩⟩ := h
  · obtain ⟨rfl, rfl⟩ := hv
    refine ⟨none, 0, rfl, fun j u hj => ?_⟩
    have : xs = [] := List.eq_nil_of_length_eq_zero (by simpa using hl)
    rw [this] at hj; simp at hj
  · refine ⟨some ⟨g, 0, none⟩, cap, hv, fun j u hj => ⟨g, rfl, ?_, ?_⟩⟩
    · exact (hh.lt g (by rw [hv]; rfl)).2
    · have := hh.cells (g := g) (by rw [hv]; rfl) j u hj
      rw [Addr.add_lit] at this
      simpa using this

end Go.Proofs.Ybulkcsxk
