import Derived.Test.YbulkcsxkRows
import Derived.WalkKit
import Derived.WalkSpells
import Derived.LaidEql
namespace Go.Proofs.Ybulkcsxk
open Go.RowKit

/-! ### '==', '!=' on two readers (io.Reader: type 30, each a pointer of type 51) -/
theorem Yba.comp51 : (Yba.prog.info? 51).map (·.comparable) = some true := by kernel_rfl
theorem Yba.size53 : (Yba.prog.info? 53).map (·.size) = some 1 := by kernel_rfl

theorem parts51 : ∃ i, Yba.prog.info? 51 = some i ∧ i.comparable = true := by
  obtain ⟨i, hi, hc⟩ := Option.map_eq_some_iff.1 Yba.comp51
  exact ⟨i, hi, hc⟩
theorem parts53 : ∃ i, Yba.prog.info? 53 = some i ∧ i.size ≠ 0 := by
  obtain ⟨i, hi, hc⟩ := Option.map_eq_some_iff.1 Yba.size53
  exact ⟨i, hi, by rw [hc]; decide⟩

theorem eql_same (a : Addr) (W : World) : (binOp .eql 30 (.iface 51 (.pointer (some a))) (.iface 51 (.pointer (some a)))).run Yba.prog W = .ok (.bool true) W := by
  obtain ⟨i, hi, hc⟩ := parts51
  obtain ⟨j, hj, _⟩ := parts53
  exact run_eql_iface_ptr_same W a Yba.underlying30 Yba.underlying51 hi hc hj
theorem neq_same (a : Addr) (W : World) : (binOp .neq 30 (.iface 51 (.pointer (some a))) (.iface 51 (.pointer (some a)))).run Yba.prog W = .ok (.bool false) W := by
  obtain ⟨i, hi, hc⟩ := parts51
  obtain ⟨j, hj, _⟩ := parts53
  simp only [binOp]
  simp [Op.equal, Op.maxDepth, run_equalIn_iface_ptr_same W 9998 a Yba.underlying30 Yba.underlying51 hi hc hj]
theorem eql_other {a b : Addr} {W : World} {ca cb : Array Value} {ta tb : TypeId} (hne : a ≠ b) (ha : W.heap[a.block]? = some (.cells ca ta (0, 0))) (hb : W.heap[b.block]? = some (.cells cb tb (0, 0))) :
    (binOp .eql 30 (.iface 51 (.pointer (some a))) (.iface 51 (.pointer (some b)))).run Yba.prog W = .ok (.bool false) W := by
  obtain ⟨i, hi, hc⟩ := parts51
  obtain ⟨j, hj, hs⟩ := parts53
  exact run_eql_iface_ptr_other W Yba.underlying30 Yba.underlying51 hi hc hj hs hne ha hb

/-- The world in which the two readers are compared: the two readers' blocks, the evaluator's, two boxes. -/
theorem heap_a (w : World) (cE c1 c2 : Array Value) : (((((w.alloc (.cells #[.int .i64 0] 53)).alloc (.cells #[.int .i64 0] 53)).alloc (.cells cE 50)).alloc (.cells c1 30)).alloc (.cells c2 30)).heap[w.heap.size]? = some (.cells #[.int .i64 0] 53 (0, 0)) := by
  show (((((w.heap.push _).push _).push _).push _).push _)[w.heap.size]? = _
  rw [Array.getElem?_push, if_neg (by simp <;> omega), Array.getElem?_push, if_neg (by simp <;> omega), Array.getElem?_push, if_neg (by simp <;> omega), Array.getElem?_push, if_neg (by simp), Array.getElem?_push, if_pos rfl]
theorem heap_b (w : World) (cE c1 c2 : Array Value) : (((((w.alloc (.cells #[.int .i64 0] 53)).alloc (.cells #[.int .i64 0] 53)).alloc (.cells cE 50)).alloc (.cells c1 30)).alloc (.cells c2 30)).heap[w.heap.size + 1]? = some (.cells #[.int .i64 0] 53 (0, 0)) := by
  show (((((w.heap.push _).push _).push _).push _).push _)[w.heap.size + 1]? = _
  rw [Array.getElem?_push, if_neg (by simp <;> omega), Array.getElem?_push, if_neg (by simp <;> omega), Array.getElem?_push, if_neg (by simp <;> omega), Array.getElem?_push, if_pos (by simp)]

set_option maxHeartbeats 400000 in
theorem later_no (n : Int) (w : World) :
    Calls Yba.prog 4 #[.bool false, .int .i64 n] w fun e w' => e = .returned (.bool true) ∧ Grown w w' := by
  have h1 := eql_same
  have h2 := neq_same
  have h3 := fun cE c1 c2 => eql_other (a := ⟨w.heap.size + 1, 0, none⟩) (b := ⟨w.heap.size, 0, none⟩) (fun e => absurd (congrArg Addr.block e) (by simp)) (heap_b w cE c1 c2) (heap_a w cE c1 c2)
  go_enter Yba.func4, Yba.ntmps4
  go_wp2
  go_end0
  go_wp2
  go_end0
  go_wp2
  go_ret
  exact ⟨rfl, by repeat (first | exact Grown.refl _ | apply Grown.drew | apply Grown.alloc)⟩

set_option maxHeartbeats 400000 in
theorem later_yes (n : Int) (w : World) :
    Calls Yba.prog 4 #[.bool true, .int .i64 n] w fun e w' => e = .returned (.bool true) ∧ Grown w w' := by
  have h1 := eql_same
  have h2 := neq_same
  have h3 := fun cE c1 c2 => eql_other (a := ⟨w.heap.size, 0, none⟩) (b := ⟨w.heap.size + 1, 0, none⟩) (fun e => absurd (congrArg Addr.block e) (by simp)) (heap_a w cE c1 c2) (heap_b w cE c1 c2)
  go_enter Yba.func4, Yba.ntmps4
  go_wp2
  go_end0
  go_wp2
  go_end0
  go_wp2
  go_ret
  exact ⟨rfl, by repeat (first | exact Grown.refl _ | apply Grown.drew | apply Grown.alloc)⟩

end Go.Proofs.Ybulkcsxk
