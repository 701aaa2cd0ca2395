import Derived.Test.YbulkcsxkScan
namespace Go.Proofs.Ybulkcsxk
open Go.RowKit

set_option maxHeartbeats 400000 in
theorem step_any (s : ByteArray) (n : Int) (p : Nat) (hs : s.size ≤ 4096) (hn0 : 0 ≤ n) (hn1 : n ≤ 18446744073709551615) (hp : p ≤ s.size) (hm : n % ((s.size : Int) + 1) = (p : Int)) (w : World) :
    Calls Yba.prog 5 #[.string s, .int .u64 n] w fun e w' => e = .returned (.bool true) ∧ Grown w w' := by
  have d1 : decide ((4096 : Int) < (s.size : Int)) = false := decide_eq_false (by omega)
  go_enter Yba.func5, Yba.ntmps5
  go_wp2_with fail
  refine (nextText_any s p w.heap.size _ hs hp ?_ ?_ ?_).mono ?_
  · simp
  · simp
  · simp
  rintro e w' ⟨st, en, hsp, rfl, rfl⟩
  obtain ⟨h1, h2, h3, hbl, hwd, hst, hfu⟩ := hsp
  obtain ⟨L, rfl⟩ : ∃ L, en = st + L := ⟨en - st, by omega⟩
  have HB : Hid (∀ j, p ≤ j → j < st → bAt s j = true) := hbl
  have HW : Hid (∀ j, st ≤ j → j < st + L → bAt s j = false) := hwd
  have HS : Hid (st + L < s.size → bAt s (st + L) = true) := hst
  have HF : Hid (L = 0 → st + L = s.size) := fun h => hfu (by omega)
  clear hbl hwd hst hfu h2
  by_cases hL : 0 < L
  · have dL : decide (0 < L) = true := decide_eq_true hL
    have c1 : decide ((st : Int) + (L : Int) < (p : Int)) = false := decide_eq_false (by omega)
    have c2 : decide ((s.size : Int) < (st : Int) + (L : Int)) = false := decide_eq_false (by omega)
    have c3 : decide (st < p) = false := decide_eq_false (by omega)
    go_wp2_with fail
    go_loop [11] (fun i => ∃ k : Nat, p ≤ k ∧ k ≤ st ∧ i = .int .i64 k) (fun i => st - (intOf i).toNat)
    case atStart => exact ⟨p, Nat.le_refl _, h1, rfl⟩
    case round =>
      obtain ⟨k, hk1, hk2, rfl⟩ := hrel
      by_cases hlt : k < st
      · have hks : k < s.size := by omega
        have e := (bAt_eq s k hks).trans (HB.out k hk1 hlt)
        go_wp2_with (go_at_call 10; refine (blank_u8 _ _).mono ?_; rintro e w' ⟨rfl, rfl⟩)
        go_round
        case rel => exact ⟨k + 1, by omega, by omega, by go_num⟩
        case measure => simp [intOf]; omega
      · go_wp2_with (go_at_call 10; refine (blank_u8 _ _).mono ?_; rintro e w' ⟨rfl, rfl⟩)
        go_loop [12] (fun i => ∃ m : Nat, st ≤ m ∧ m ≤ st + L ∧ i = .int .i64 m) (fun i => st + L - (intOf i).toNat)
        case atStart => exact ⟨st, Nat.le_refl _, by omega, rfl⟩
        case round =>
          obtain ⟨m, hm1, hm2, rfl⟩ := hrel
          by_cases hlt2 : m < st + L
          · have hms : m < s.size := by omega
            have e := (bAt_eq s m hms).trans (HW.out m hm1 hlt2)
            go_wp2_with (go_at_call 10; refine (blank_u8 _ _).mono ?_; rintro e w' ⟨rfl, rfl⟩)
            go_round
            case rel => exact ⟨m + 1, by omega, by omega, by go_num⟩
            case measure => simp [intOf]; omega
          · by_cases hq : st + L < s.size
            · have e := (bAt_eq s (st + L) hq).trans (HS.out hq)
              go_wp2_with (go_at_call 10; refine (blank_u8 _ _).mono ?_; rintro e w' ⟨rfl, rfl⟩)
              go_ret
              exact ⟨rfl, by repeat (first | exact Grown.refl _ | apply Grown.drew | apply Grown.alloc)⟩
            · have hq' : decide ((st : Int) + (L : Int) < (s.size : Int)) = false := decide_eq_false (by omega)
              go_wp2_with (go_at_call 10; refine (blank_u8 _ _).mono ?_; rintro e w' ⟨rfl, rfl⟩)
              go_ret
              exact ⟨rfl, by repeat (first | exact Grown.refl _ | apply Grown.drew | apply Grown.alloc)⟩
  · have dL : decide (0 < L) = false := decide_eq_false hL
    have c1 : decide ((st : Int) + (L : Int) < (p : Int)) = false := decide_eq_false (by omega)
    have c2 : decide ((s.size : Int) < (st : Int) + (L : Int)) = false := decide_eq_false (by omega)
    have c3 : decide (st < p) = false := decide_eq_false (by omega)
    go_wp2_with fail
    go_loop [11] (fun i => ∃ k : Nat, p ≤ k ∧ k ≤ st ∧ i = .int .i64 k) (fun i => st - (intOf i).toNat)
    case atStart => exact ⟨p, Nat.le_refl _, h1, rfl⟩
    case round =>
      obtain ⟨k, hk1, hk2, rfl⟩ := hrel
      by_cases hlt : k < st
      · have hks : k < s.size := by omega
        have e := (bAt_eq s k hks).trans (HB.out k hk1 hlt)
        go_wp2_with (go_at_call 10; refine (blank_u8 _ _).mono ?_; rintro e w' ⟨rfl, rfl⟩)
        go_round
        case rel => exact ⟨k + 1, by omega, by omega, by go_num⟩
        case measure => simp [intOf]; omega
      · go_wp2_with (go_at_call 10; refine (blank_u8 _ _).mono ?_; rintro e w' ⟨rfl, rfl⟩)
        go_loop [12] (fun i => ∃ m : Nat, st ≤ m ∧ m ≤ st + L ∧ i = .int .i64 m) (fun i => st + L - (intOf i).toNat)
        case atStart => exact ⟨st, Nat.le_refl _, by omega, rfl⟩
        case round =>
          obtain ⟨m, hm1, hm2, rfl⟩ := hrel
          by_cases hlt2 : m < st + L
          · omega
          · have hq' : decide ((st : Int) + (L : Int) < (s.size : Int)) = false := decide_eq_false (by have := HF.out (by omega); omega)
            have hq2 : ((st : Int) + (L : Int) != (s.size : Int)) = false := by rw [bne_eq_false_iff_eq]; have := HF.out (by omega); omega
            go_wp2_with (go_at_call 10; refine (blank_u8 _ _).mono ?_; rintro e w' ⟨rfl, rfl⟩)
            go_ret
            exact ⟨rfl, by repeat (first | exact Grown.refl _ | apply Grown.drew | apply Grown.alloc)⟩

end Go.Proofs.Ybulkcsxk
