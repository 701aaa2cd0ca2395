/-
  The scanner: isBlank (13), zzs4729bblank (10), (*scanner).nextText (9), each by a contract.
-/
import Derived.Test.YbulkcsxkRows
import Derived.WalkKit
import Derived.WalkSpells
namespace Go.Proofs.Ybulkcsxk
open Go.RowKit

/-- ASCII white space, of a byte's number. -/
def blB (n : Int) : Bool := decide (n = 32 ∨ (9 ≤ n ∧ n ≤ 13))
theorem blB_true {n : Int} (h : n = 32 ∨ (9 ≤ n ∧ n ≤ 13)) : blB n = true := decide_eq_true h
theorem blB_false {n : Int} (h : ¬ (n = 32 ∨ (9 ≤ n ∧ n ≤ 13))) : blB n = false := decide_eq_false h
theorem ret_bool {a b : Bool} (h : a = b) : Ending.returned (.bool a) = .returned (.bool b) := by rw [h]

set_option maxHeartbeats 400000 in
theorem isBlank_any (n : Int) (h0 : 0 ≤ n) (h1 : n ≤ 255) (w : World) : Calls Yba.prog 13 #[.int .u8 n] w fun e w' => e = .returned (.bool (blB n)) ∧ w = w' := by
  by_cases c1 : n = 32
  · subst c1
    go_enter Yba.func13, Yba.ntmps13
    go_wp2
    go_ret
    exact ⟨rfl, rfl⟩
  · have d1 : (n == 32) = false := beq_eq_false_iff_ne.2 c1
    by_cases c2 : 9 ≤ n
    · by_cases c3 : n ≤ 13
      · have hb : blB n = true := blB_true (by omega)
        clear c1
        go_enter Yba.func13, Yba.ntmps13
        go_wp2
        go_ret
        exact ⟨ret_bool hb.symm, rfl⟩
      · have hb : blB n = false := blB_false (by omega)
        have d3 : decide (n ≤ 13) = false := decide_eq_false c3
        clear c1
        go_enter Yba.func13, Yba.ntmps13
        go_wp2
        go_ret
        exact ⟨rfl, rfl⟩
    · have hb : blB n = false := blB_false (by omega)
      have d3 : decide (9 ≤ n) = false := decide_eq_false c2
      clear c1
      go_enter Yba.func13, Yba.ntmps13
      go_wp2
      go_ret
      exact ⟨rfl, rfl⟩

set_option maxHeartbeats 400000 in
theorem blank_any (n : Int) (h0 : 0 ≤ n) (h1 : n ≤ 255) (w : World) : Calls Yba.prog 10 #[.int .u8 n] w fun e w' => e = .returned (.bool (blB n)) ∧ w = w' := by
  by_cases hb : n = 32 ∨ (9 ≤ n ∧ n ≤ 13)
  · have hb' : blB n = true := blB_true hb
    have hc : n = 32 ∨ n = 9 ∨ n = 10 ∨ n = 11 ∨ n = 12 ∨ n = 13 := by omega
    clear hb
    rcases hc with rfl | rfl | rfl | rfl | rfl | rfl
    all_goals
      go_enter Yba.func10, Yba.ntmps10
      go_wp2
      go_ret
      exact ⟨rfl, rfl⟩
  · have hb' : blB n = false := blB_false hb
    have d1 : (n == 32) = false := beq_eq_false_iff_ne.2 (by omega)
    have d2 : (n == 9) = false := beq_eq_false_iff_ne.2 (by omega)
    have d3 : (n == 10) = false := beq_eq_false_iff_ne.2 (by omega)
    have d4 : (n == 11) = false := beq_eq_false_iff_ne.2 (by omega)
    have d5 : (n == 12) = false := beq_eq_false_iff_ne.2 (by omega)
    have d6 : (n == 13) = false := beq_eq_false_iff_ne.2 (by omega)
    clear hb
    go_enter Yba.func10, Yba.ntmps10
    go_wp2
    go_ret
    exact ⟨ret_bool hb'.symm, rfl⟩

/-- Is byte j of s white space? -/
def bAt (s : ByteArray) (j : Nat) : Bool := blB (s.data.toList.getD j 0).toNat
theorem bAt_eq (s : ByteArray) (k : Nat) (h : k < s.size) : blB ((s[k]'h).toNat : Int) = bAt s k := by
  unfold bAt
  have h' : k < s.data.size := h
  have e : s.data.toList.getD k 0 = s[k]'h := by
    rw [List.getD_eq_getElem?_getD, Array.getElem?_toList, Array.getElem?_eq_getElem h']
    rfl
  rw [e]

theorem isBlank_u8 (c : UInt8) (w : World) : Calls Yba.prog 13 #[.int .u8 (c.toNat : Int)] w fun e w' => e = .returned (.bool (blB (c.toNat : Int))) ∧ w = w' :=
  isBlank_any _ (by omega) (by have := c.toNat_lt; omega) w
theorem blank_u8 (c : UInt8) (w : World) : Calls Yba.prog 10 #[.int .u8 (c.toNat : Int)] w fun e w' => e = .returned (.bool (blB (c.toNat : Int))) ∧ w = w' :=
  blank_any _ (by omega) (by have := c.toNat_lt; omega) w

/-- From p on: blanks up to st, then no blank up to en; there the text ends or a blank stands. -/
structure Span (s : ByteArray) (p st en : Nat) : Prop where
  hps : p ≤ st
  hse : st ≤ en
  hen : en ≤ s.size
  blanks : ∀ j, p ≤ j → j < st → bAt s j = true
  word : ∀ j, st ≤ j → j < en → bAt s j = false
  stop : en < s.size → bAt s en = true
  full : st = en → en = s.size

set_option maxHeartbeats 400000 in
theorem nextText_any (s : ByteArray) (p b : Nat) (w : World) (hs : s.size ≤ 4096) (hp : p ≤ s.size) (hc0 : w.cell? ⟨b, 0, none⟩ = some (.string s)) (hc1 : w.cell? ⟨b, 1, none⟩ = some (.int .i64 p)) (hf : w.frozen? ⟨b, 1, none⟩ = false) :
    Calls Yba.prog 9 #[.pointer (some ⟨b, 0, none⟩)] w fun e w' => ∃ st en, Span s p st en ∧ e = .returned (.tuple #[.string (s.extract st en), .bool (decide (st < en))]) ∧ w.setCell ⟨b, 1, none⟩ (.int .i64 en) = w' := by
  go_enter Yba.func9, Yba.ntmps9
  go_wp2
  go_loop [4] (fun i => ∃ k : Nat, p ≤ k ∧ k ≤ s.size ∧ i = .int .i64 k ∧ ∀ j, p ≤ j → j < k → bAt s j = true) (fun i => s.size - (intOf i).toNat)
  case atStart => exact ⟨p, Nat.le_refl _, hp, rfl, fun j h1 h2 => by omega⟩
  case round =>
    obtain ⟨k, hk1, hk2, rfl, hbl⟩ := hrel
    have HB : Hid (∀ j, p ≤ j → j < k → bAt s j = true) := hbl
    clear hbl
    by_cases hlt : k < s.size
    · have e := bAt_eq s k hlt
      cases hb : bAt s k
      · rw [hb] at e
        have HE : Hid (bAt s k = false) := hb
        clear hb
        go_wp2_with (go_at_call 13; refine (isBlank_u8 _ _).mono ?_; rintro e w' ⟨rfl, rfl⟩)
        go_loop [4] (fun i => ∃ m : Nat, k ≤ m ∧ m ≤ s.size ∧ i = .int .i64 m ∧ ∀ j, k ≤ j → j < m → bAt s j = false) (fun i => s.size - (intOf i).toNat)
        case atStart => exact ⟨k, Nat.le_refl _, by omega, rfl, fun j h1 h2 => by omega⟩
        case round =>
          obtain ⟨m, hm1, hm2, rfl, hwd⟩ := hrel
          have HW : Hid (∀ j, k ≤ j → j < m → bAt s j = false) := hwd
          clear hwd
          by_cases hlt2 : m < s.size
          · have e2 := bAt_eq s m hlt2
            cases hb2 : bAt s m
            · rw [hb2] at e2
              have HE2 : Hid (bAt s m = false) := hb2
              clear hb2
              go_wp2_with (go_at_call 13; refine (isBlank_u8 _ _).mono ?_; rintro e w' ⟨rfl, rfl⟩)
              go_round
              case rel => exact ⟨m + 1, by omega, by omega, by go_num, fun j h1 h2 => by
                by_cases h : j = m
                · rw [h]; exact HE2.out
                · exact HW.out j h1 (by omega)⟩
              case measure => simp [intOf]; omega
            · rw [hb2] at e2
              have HE2 : Hid (bAt s m = true) := hb2
              clear hb2
              go_wp2_with (go_at_call 13; refine (isBlank_u8 _ _).mono ?_; rintro e w' ⟨rfl, rfl⟩)
              go_ret2
              exact ⟨k, m, ⟨by omega, by omega, by omega, HB.out, HW.out, fun _ => HE2.out, fun h => by have := HE.out; have h2 := HE2.out; subst h; rw [this] at h2; cases h2⟩, rfl, rfl⟩
          · go_wp2_with (go_at_call 13; refine (isBlank_u8 _ _).mono ?_; rintro e w' ⟨rfl, rfl⟩)
            go_ret2
            exact ⟨k, m, ⟨by omega, by omega, by omega, HB.out, HW.out, fun h => absurd h (by omega), fun _ => by omega⟩, rfl, rfl⟩
      · rw [hb] at e
        have HE : Hid (bAt s k = true) := hb
        clear hb
        go_wp2_with (go_at_call 13; refine (isBlank_u8 _ _).mono ?_; rintro e w' ⟨rfl, rfl⟩)
        go_round
        case rel => exact ⟨k + 1, by omega, by omega, by go_num, fun j h1 h2 => by
          by_cases h : j = k
          · rw [h]; exact HE.out
          · exact HB.out j h1 (by omega)⟩
        case measure => simp [intOf]; omega
    · go_wp2_with (go_at_call 13; refine (isBlank_u8 _ _).mono ?_; rintro e w' ⟨rfl, rfl⟩)
      go_loop [4] (fun i => ∃ m : Nat, k ≤ m ∧ m ≤ s.size ∧ i = .int .i64 m ∧ ∀ j, k ≤ j → j < m → bAt s j = false) (fun i => s.size - (intOf i).toNat)
      case atStart => exact ⟨k, Nat.le_refl _, by omega, rfl, fun j h1 h2 => by omega⟩
      case round =>
        obtain ⟨m, hm1, hm2, rfl, hwd⟩ := hrel
        have HW : Hid (∀ j, k ≤ j → j < m → bAt s j = false) := hwd
        clear hwd
        by_cases hlt2 : m < s.size
        · omega
        · go_wp2_with (go_at_call 13; refine (isBlank_u8 _ _).mono ?_; rintro e w' ⟨rfl, rfl⟩)
          go_ret2
          exact ⟨k, m, ⟨by omega, by omega, by omega, HB.out, HW.out, fun h => absurd h (by omega), fun _ => by omega⟩, rfl, rfl⟩

end Go.Proofs.Ybulkcsxk
