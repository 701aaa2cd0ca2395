import Derived.Test.YbulkcsxkRoom
import Derived.Deep.QuietTactic
import Derived.BigQuiet
namespace Go.Proofs.Ybulkcsxk
open Go.RowKit

set_option maxHeartbeats 400000 in
theorem exact_same (a0 : Option Addr) (l cp E : Nat) (n : Int) (zs : List Int) (hzl : zs.length = l) (hl : l ≤ 1024) (hE : E ≤ 255) (hn : n ≤ (E : Int)) (w : World)
    (hx : ∀ j, j < l → ∃ b off, a0 = some ⟨b, off, none⟩ ∧ w.cell? ⟨b, off + j, none⟩ = some (.int .i64 (zs.getD j 0))) :
    Calls Yba.prog 7 #[.slice a0 l cp, .int .u8 E, .int .i64 n] w fun e w' => e = .returned (.bool true) ∧ Below w.heap.size w w' := by
  have hn4 : n ≤ 4096 := by omega
  have d1 : decide ((1024 : Int) < (l : Int)) = false := decide_eq_false (by omega)
  have d2 : decide ((4096 : Int) < n) = false := decide_eq_false (by omega)
  have d3 : decide (n ≤ (E : Int)) = true := decide_eq_true (by omega)
  obtain ⟨W2, hcopy, hh, hb, hs⟩ := copy_made w l (l + E) (by omega) a0 cp zs hzl (fun h => by
    obtain ⟨b, off, rfl, _⟩ := hx 0 h
    refine ⟨_, rfl, fun j hj => ?_⟩
    obtain ⟨b', off', he, hc⟩ := hx j hj
    simp only [Option.some.injEq, Addr.mk.injEq] at he
    obtain ⟨rfl, rfl, _⟩ := he
    rw [Addr.add_lit]; exact hc)
  have hmk := make_ints l (l + E) (by omega) (by omega) (l : Int) ((l : Int) + (E : Int)) rfl (by omega)
  have HS : Hid (W2.heap.size = w.heap.size + 1) := hs
  have HX : Hid (∀ j, j < l → ∃ b off, a0 = some ⟨b, off, none⟩ ∧ W2.cell? ⟨b, off + j, none⟩ = some (.int .i64 (zs.getD j 0))) := by
    intro j hj
    obtain ⟨b, off, h1, h2⟩ := hx j hj
    exact ⟨b, off, h1, cell_later hb h2⟩
  have HH : Hid (Holds W2 w.heap.size (l + E) zs) := hh
  have HZ : Hid (zs.length = l) := hzl
  clear hs hx hh hzl
  go_enter Yba.func7, Yba.ntmps7
  go_wp2_with (first | (go_at_call 11; refine (room_same _ _ _ _ (by omega) (by omega) (by omega) _).mono ?_; rintro e w' ⟨rfl, rfl⟩))
  go_loopw [42] (fun i wr => ∃ k : Nat, k ≤ l ∧ i = .int .i64 k ∧ ∃ q, wr = W2.drewN q) (fun i _ => l - (intOf i).toNat)
  case atStart => exact ⟨0, Nat.zero_le _, rfl, 0, rfl⟩
  case round =>
    obtain ⟨k, hk, rfl, q, rfl⟩ := hrel
    by_cases hlt : k < l
    · obtain ⟨b, off, ha, hc⟩ := HX.out k hlt
      have hg := HH.out.cell k (by rw [HZ.out]; exact hlt)
      subst ha
      go_wp2
      go_quiet (fail)
      go_wp2
      go_roundw
      case rel => exact ⟨k + 1, by omega, by go_num, _, rfl⟩
      case measure => simp [intOf]; omega
    · by_cases h0 : l + E = 0
      · have c1 : decide ((0 : Int) < (l : Int) + (E : Int)) = false := decide_eq_false (by omega)
        have c2 : (((l : Int) + (E : Int)) == 0) = true := beq_iff_eq.2 (by omega)
        clear h0
        go_wp2
        go_quiet (fail)
        go_wp2
        go_ret
        exact ⟨rfl, below_drewN hb _⟩
      · have c1 : (0 : Int) < (l : Int) + (E : Int) := by omega
        have c2 : (((l : Int) + (E : Int)) == 0) = false := beq_eq_false_iff_ne.2 (by omega)
        have c3 := slice_one w.heap.size l (l + E) (by omega)
        have c4 := eql_ptr_same
        clear h0
        go_wp2
        go_quiet (fail)
        go_wp2
        go_ret
        exact ⟨rfl, below_drewN hb _⟩

set_option maxHeartbeats 400000 in
theorem exact_grow (a0 : Option Addr) (l cp E : Nat) (n : Int) (zs : List Int) (hzl : zs.length = l) (hl : l ≤ 1024) (hE : E ≤ 255) (hn : (E : Int) < n) (hn4 : n ≤ 4096) (w : World)
    (hx : ∀ j, j < l → ∃ b off, a0 = some ⟨b, off, none⟩ ∧ w.cell? ⟨b, off + j, none⟩ = some (.int .i64 (zs.getD j 0))) :
    Calls Yba.prog 7 #[.slice a0 l cp, .int .u8 E, .int .i64 n] w fun e w' => e = .returned (.bool true) ∧ Below w.heap.size w w' := by
  have d1 : decide ((1024 : Int) < (l : Int)) = false := decide_eq_false (by omega)
  have d2 : decide ((4096 : Int) < n) = false := decide_eq_false (by omega)
  have d3 : decide (n ≤ (E : Int)) = false := decide_eq_false (by omega)
  obtain ⟨W2, hcopy, hh, hb, hs⟩ := copy_made w l (l + E) (by omega) a0 cp zs hzl (fun h => by
    obtain ⟨b, off, rfl, _⟩ := hx 0 h
    refine ⟨_, rfl, fun j hj => ?_⟩
    obtain ⟨b', off', he, hc⟩ := hx j hj
    simp only [Option.some.injEq, Addr.mk.injEq] at he
    obtain ⟨rfl, rfl, _⟩ := he
    rw [Addr.add_lit]; exact hc)
  have hmk := make_ints l (l + E) (by omega) (by omega) (l : Int) ((l : Int) + (E : Int)) rfl (by omega)
  have HX : Hid (∀ j, j < l → ∃ b off, a0 = some ⟨b, off, none⟩ ∧ W2.cell? ⟨b, off + j, none⟩ = some (.int .i64 (zs.getD j 0))) := by
    intro j hj
    obtain ⟨b, off, h1, h2⟩ := hx j hj
    exact ⟨b, off, h1, cell_later hb h2⟩
  have HH : Hid (Holds W2 w.heap.size (l + E) zs) := hh
  have HZ : Hid (zs.length = l) := hzl
  obtain ⟨m, hm⟩ : ∃ m, m = max ((l : Int) + n).toNat (2 * (l + E)) := ⟨_, rfl⟩
  have hm1 : l ≤ m := by omega
  have hm2 : 1 ≤ m := by omega
  have hm3 : m ≤ 20000 := by omega
  have HM : Hid (m = max ((l : Int) + n).toNat (2 * (l + E))) := hm
  have HS : Hid (W2.heap.size = w.heap.size + 1) := hs
  have HC := room_grow w.heap.size l (l + E) n m zs hzl (by omega) (by omega) (by omega) hn4 hm W2 hh
  clear hs hx hh hzl hm
  go_enter Yba.func7, Yba.ntmps7
  go_wp2_with (first | (go_at_call 11; refine HC.mono ?_; rintro e w' ⟨rfl, hq⟩; have HQ : Hid (Holds w' W2.heap.size m zs ∧ Below W2.heap.size W2 w' ∧ w'.heap.size = W2.heap.size + 1) := hq; clear hq))
  have hW : Holds w' w.heap.size (l + E) zs := HH.out.below HQ.out.2.1 HH.out.lt
  have HW : Hid (Holds w' w.heap.size (l + E) zs) := hW
  clear hW
  have hB : Below w.heap.size w w' := hb.trans (HQ.out.2.1.mono (by rw [HS.out]; omega))
  have HE : Hid (∀ q, (binOp .eql 71 (.pointer (some ⟨W2.heap.size, 0, none⟩)) (.pointer (some ⟨w.heap.size, 0, none⟩))).run Yba.prog (w'.drewN q) = .ok (.bool false) (w'.drewN q)) :=
    fun q => HQ.out.1.eql_other HW.out (by rw [HS.out]; omega) q
  clear hcopy hmk HC
  go_loopw [42] (fun i wr => ∃ k : Nat, k ≤ l ∧ i = .int .i64 k ∧ ∃ q, wr = w'.drewN q) (fun i _ => l - (intOf i).toNat)
  case atStart => exact ⟨0, Nat.zero_le _, rfl, 0, rfl⟩
  case round =>
    obtain ⟨k, hk, rfl, q, rfl⟩ := hrel
    by_cases hlt : k < l
    · obtain ⟨b, off, ha, hc⟩ := HX.out k hlt
      have hc' := cell_later HQ.out.2.1 hc
      have hg := HW.out.cell k (by rw [HZ.out]; exact hlt)
      have hr := HQ.out.1.cell k (by rw [HZ.out]; exact hlt)
      clear hc
      subst ha
      go_wp2
      go_quiet (fail)
      go_wp2
      go_roundw
      case rel => exact ⟨k + 1, by omega, by go_num, _, rfl⟩
      case measure => simp [intOf]; omega
    · have hm0 : 0 < m := by omega
      by_cases hw2 : (l : Int) + n < 2 * ((l : Int) + (E : Int))
      · have hme : ((m : Int) == 2 * ((l : Int) + (E : Int))) = true := beq_iff_eq.2 (by rw [HM.out]; omega)
        by_cases h0 : l + E = 0
        · omega
        · have c1 : (0 : Int) < (l : Int) + (E : Int) := by omega
          have c3 := slice_one w.heap.size l (l + E) (by omega)
          have c5 := slice_one W2.heap.size l m (by omega)
          have c4 := HE.out
          clear h0
          go_wp2
          go_quiet (fail)
          go_wp2
          go_ret
          exact ⟨rfl, below_drewN hB _⟩
      · have hme : ((m : Int) == (l : Int) + n) = true := beq_iff_eq.2 (by rw [HM.out]; omega)
        by_cases h0 : l + E = 0
        · have c1 : decide ((0 : Int) < (l : Int) + (E : Int)) = false := decide_eq_false (by omega)
          clear h0
          go_wp2
          go_quiet (fail)
          go_wp2
          go_ret
          exact ⟨rfl, below_drewN hB _⟩
        · have c1 : (0 : Int) < (l : Int) + (E : Int) := by omega
          have c3 := slice_one w.heap.size l (l + E) (by omega)
          have c5 := slice_one W2.heap.size l m (by omega)
          have c4 := HE.out
          clear h0
          go_wp2
          go_quiet (fail)
          go_wp2
          go_ret
          exact ⟨rfl, below_drewN hB _⟩

end Go.Proofs.Ybulkcsxk
