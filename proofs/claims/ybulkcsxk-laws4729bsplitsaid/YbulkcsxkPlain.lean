/-
  The plain law behind LawS4729BSplit: no Go in sight. A text is a number n of bytes and the question 'is byte j a blank?'.
  'wantTo b j': what the law's own splitter holds after j bytes: the fields so far and where the running field began.
  'fin b p': the fields if the text ended at p. A scanner that goes from one end of a word to the next gathers 'fin'.
-/
import Derived.Test.YbulkcsxkScan
namespace Go.Proofs.Ybulkcsxk

def wstep (x : Bool) (j : Nat) (st : List (Nat × Nat) × Option Nat) : List (Nat × Nat) × Option Nat :=
  if x then (match st.2 with | some a => (st.1 ++ [(a, j)], none) | none => (st.1, none))
  else (match st.2 with | some a => (st.1, some a) | none => (st.1, some j))

def wantTo (b : Nat → Bool) : Nat → List (Nat × Nat) × Option Nat
  | 0 => ([], none)
  | j + 1 => wstep (b j) j (wantTo b j)

def finOf (st : List (Nat × Nat) × Option Nat) (p : Nat) : List (Nat × Nat) :=
  match st.2 with | some a => st.1 ++ [(a, p)] | none => st.1

def fin (b : Nat → Bool) (p : Nat) : List (Nat × Nat) := finOf (wantTo b p) p

theorem want_blank (b : Nat → Bool) (j : Nat) (h : b j = true) : wantTo b (j + 1) = (fin b j, none) := by
  show wstep (b j) j (wantTo b j) = _
  rw [h]
  unfold wstep fin finOf
  rcases h2 : (wantTo b j).2 with _ | a <;> simp

theorem fin_of_none (b : Nat → Bool) (j : Nat) (l : List (Nat × Nat)) (h : wantTo b j = (l, none)) : fin b j = l := by
  unfold fin finOf; rw [h]
theorem fin_of_some (b : Nat → Bool) (j a : Nat) (l : List (Nat × Nat)) (h : wantTo b j = (l, some a)) : fin b j = l ++ [(a, j)] := by
  unfold fin finOf; rw [h]

/-- Over a run of blanks, at least one: the fields stand; none runs. -/
theorem want_blanks (b : Nat → Bool) (p : Nat) : ∀ d, (∀ j, p ≤ j → j < p + d + 1 → b j = true) → wantTo b (p + d + 1) = (fin b p, none)
  | 0, h => want_blank b p (h p (by omega) (by omega))
  | d + 1, h => by
    have ih := want_blanks b p d (fun j h1 h2 => h j h1 (by omega))
    have := want_blank b (p + d + 1) (h _ (by omega) (by omega))
    rw [fin_of_none b _ _ ih] at this
    exact this

/-- Over a run of bytes that are no blanks, at least one, none running before. -/
theorem want_word (b : Nat → Bool) (st : Nat) (l : List (Nat × Nat)) (h0 : wantTo b st = (l, none)) : ∀ d, (∀ j, st ≤ j → j < st + d + 1 → b j = false) → wantTo b (st + d + 1) = (l, some st)
  | 0, h => by
    show wstep (b st) st (wantTo b st) = _
    rw [h st (by omega) (by omega), h0]; rfl
  | d + 1, h => by
    have ih := want_word b st l h0 d (fun j h1 h2 => h j h1 (by omega))
    show wstep (b (st + d + 1)) (st + d + 1) (wantTo b (st + d + 1)) = _
    rw [h (st + d + 1) (by omega) (by omega), ih]; rfl

theorem want_bd (b : Nat → Bool) : ∀ j, (wantTo b j).1.length + (if (wantTo b j).2.isSome then 1 else 0) ≤ j ∧ ∀ a, (wantTo b j).2 = some a → a < j
  | 0 => ⟨by simp [wantTo], fun a h => by simp [wantTo] at h⟩
  | j + 1 => by
    have ih := want_bd b j
    show (wstep (b j) j (wantTo b j)).1.length + _ ≤ _ ∧ ∀ a, (wstep (b j) j (wantTo b j)).2 = some a → _
    have e : wantTo b (j + 1) = wstep (b j) j (wantTo b j) := rfl
    rw [e]
    unfold wstep
    rcases hb : b j with _ | _ <;> rcases h2 : (wantTo b j).2 with _ | a <;> simp [h2] at ih ⊢ <;> omega

theorem fin_len (b : Nat → Bool) (j : Nat) : (fin b j).length ≤ j := by
  have h := (want_bd b j).1
  unfold fin finOf
  rcases h2 : (wantTo b j).2 with _ | a <;> simp [h2] at h ⊢ <;> omega

theorem want_ff_none (b : Nat → Bool) (j : Nat) (l : List (Nat × Nat)) (h : wantTo b j = (l, none)) (hb : b j = false) : wantTo b (j + 1) = (l, some j) := by
  show wstep (b j) j (wantTo b j) = _
  rw [h, hb]; rfl
theorem want_ff_some (b : Nat → Bool) (j a : Nat) (l : List (Nat × Nat)) (h : wantTo b j = (l, some a)) (hb : b j = false) : wantTo b (j + 1) = (l, some a) := by
  show wstep (b j) j (wantTo b j) = _
  rw [h, hb]; rfl
theorem want_tt_none (b : Nat → Bool) (j : Nat) (l : List (Nat × Nat)) (h : wantTo b j = (l, none)) (hb : b j = true) : wantTo b (j + 1) = (l, none) := by
  show wstep (b j) j (wantTo b j) = _
  rw [h, hb]; rfl
theorem want_tt_some (b : Nat → Bool) (j a : Nat) (l : List (Nat × Nat)) (h : wantTo b j = (l, some a)) (hb : b j = true) : wantTo b (j + 1) = (l ++ [(a, j)], none) := by
  show wstep (b j) j (wantTo b j) = _
  rw [h, hb]; rfl
theorem want_len (b : Nat → Bool) (j : Nat) (l : List (Nat × Nat)) (c : Option Nat) (h : wantTo b j = (l, c)) : l.length ≤ j := by
  have := (want_bd b j).1
  rw [h] at this
  have h2 : l.length + (if c.isSome then 1 else 0) ≤ j := this
  omega
theorem want_lt (b : Nat → Bool) (j a : Nat) (l : List (Nat × Nat)) (h : wantTo b j = (l, some a)) : a < j := by
  have := (want_bd b j).2 a
  rw [h] at this
  exact this rfl

/-- A place at which no word runs on: the head, the end, a blank. -/
def Edge (b : Nat → Bool) (n p : Nat) : Prop := p = 0 ∨ p = n ∨ b p = true

/-- One word scanned from an edge. -/
theorem scan_word (b : Nat → Bool) (n p st en : Nat) (he : Edge b n p) (h1 : p ≤ st) (h2 : st < en) (h3 : en ≤ n) (hb : ∀ j, p ≤ j → j < st → b j = true) (hw : ∀ j, st ≤ j → j < en → b j = false) :
    fin b en = fin b p ++ [(st, en)] := by
  have hst : wantTo b st = (fin b p, none) := by
    by_cases h : p = st
    · subst h
      have hn := hw p (Nat.le_refl _) h2
      rcases he with rfl | h | h
      · rfl
      · omega
      · rw [hn] at h; cases h
    · obtain ⟨d, rfl⟩ : ∃ d, st = p + d + 1 := ⟨st - p - 1, by omega⟩
      exact want_blanks b p d hb
  obtain ⟨d, rfl⟩ : ∃ d, en = st + d + 1 := ⟨en - st - 1, by omega⟩
  exact fin_of_some b _ _ _ (want_word b st _ hst d hw)

/-- Nothing but blanks from an edge to the end. -/
theorem scan_end (b : Nat → Bool) (n p : Nat) (h1 : p ≤ n) (hb : ∀ j, p ≤ j → j < n → b j = true) : fin b n = fin b p := by
  by_cases h : p = n
  · rw [h]
  · obtain ⟨d, rfl⟩ : ∃ d, n = p + d + 1 := ⟨n - p - 1, by omega⟩
    exact fin_of_none b _ _ (want_blanks b p d hb)

end Go.Proofs.Ybulkcsxk
