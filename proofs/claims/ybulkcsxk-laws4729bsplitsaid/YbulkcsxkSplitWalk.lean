import Derived.Test.YbulkcsxkSplitParts
import Derived.Deep.QuietTactic
import Derived.BigQuiet
namespace Go.Proofs.Ybulkcsxk
open Go.RowKit

set_option maxHeartbeats 400000 in
theorem split_any (a0 : Option Addr) (n cp : Nat) (zs : List Int) (hn : n ≤ 4096) (hz : ∀ j : Nat, 0 ≤ zs[j]?.getD 0 ∧ zs[j]?.getD 0 ≤ 255) (w : World)
    (hx : ∀ j, j < n → ∃ b off, a0 = some ⟨b, off, none⟩ ∧ w.cell? ⟨b, off + j, none⟩ = some (.int .u8 (zs[j]?.getD 0))) :
    Calls Yba.prog 6 #[.slice a0 n cp] w fun e w' => e = .returned (.bool true) ∧ Below w.heap.size w w' := by
  have d1 : decide ((4096 : Int) < (n : Int)) = false := decide_eq_false (by omega)
  have hmk := make_bytes n hn
  have HX : Hid (∀ j, j < n → ∃ b off, a0 = some ⟨b, off, none⟩ ∧ w.cell? ⟨b, off + j, none⟩ = some (.int .u8 (zs[j]?.getD 0))) := hx
  have HZ : Hid (∀ j : Nat, 0 ≤ zs[j]?.getD 0 ∧ zs[j]?.getD 0 ≤ 255) := hz
  clear hx hz
  go_enter Yba.func6, Yba.ntmps6
  go_wp2_with fail
  go_loopw [4] (fun i wr => ∃ k : Nat, k ≤ n ∧ i = .int .i64 k ∧ Bytes wr w.heap.size n ∧ Below w.heap.size w wr ∧ wr.heap.size = w.heap.size + 1) (fun i _ => n - (intOf i).toNat)
  case atStart => exact ⟨0, Nat.zero_le _, rfl, Bytes.made w n, (Below.refl _ _).alloc (Nat.le_refl _) _, by simp⟩
  case round =>
    obtain ⟨k, hk, rfl, hby, hbl, hsz⟩ := hrel
    have HB : Hid (Bytes wr w.heap.size n ∧ wr.heap.size = w.heap.size + 1) := ⟨hby, hsz⟩
    by_cases hlt : k < n
    · obtain ⟨x, hcx⟩ := hby.cell k hlt
      have hfx := hby.frozen k
      obtain ⟨b, off, ha, hc⟩ := HX.out k hlt
      have hc' := cell_later hbl hc
      obtain ⟨z, hz⟩ : ∃ z, z = zs[k]?.getD 0 := ⟨_, rfl⟩
      rw [← hz] at hc'
      have hzb := HZ.out k
      rw [← hz] at hzb
      obtain ⟨hz0, hz1⟩ := hzb
      obtain ⟨c, hti⟩ := tab_at (z % 10) (by omega) (by omega)
      clear hc hz hby hsz hmk
      subst ha
      go_wp2
      go_roundw
      case rel => exact ⟨k + 1, by omega, by go_num, HB.out.1.set k c, hbl.setCell (Nat.le_refl _) _, by simpa [World.setCell] using HB.out.2⟩
      case measure => simp [intOf]; omega
    · obtain rfl : k = n := by omega
      obtain ⟨s, hss, hconv⟩ := hby.text
      have hw0 : Wanted s w.heap.size w wr (.slice none 0 0) [] := ⟨World.ownsRow_nil _ _ _ _, hbl, by omega⟩
      subst hss
      clear hby hmk hbl hsz HB hk hlt HX HZ
      obtain ⟨i0, hi, hi0, hi1, hi2⟩ := info_parts Yba.info9
      go_wp2_with fail
      clear hconv
      go_loopw [6, 7, 8] (fun v c i w2 => ∃ k l cu, k ≤ s.size ∧ i = .int .i64 (k : Nat) ∧ ((cu = none ∧ c = .int .i64 (-1)) ∨ ∃ a : Nat, cu = some a ∧ c = .int .i64 a) ∧ wantTo (bAt s) k = (l, cu) ∧ Wanted s w.heap.size w w2 v l) (fun _ _ i _ => s.size - (intOf i).toNat)
      case atStart => exact ⟨0, [], none, Nat.zero_le _, rfl, .inl ⟨rfl, rfl⟩, rfl, hw0⟩
      case round =>
        obtain ⟨k, l, cu, hk, rfl, hcu, hwt, hwd⟩ := hrel
        have hll := want_len _ _ _ _ hwt
        have HWT : Hid (wantTo (bAt s) k = (l, cu)) := hwt
        clear hw0 hwt
        by_cases hlt : k < s.size
        · have e := bAt_eq s k hlt
          cases hb : bAt s k
          · rw [hb] at e
            have HE : Hid (bAt s k = false) := hb
            clear hb
            rcases hcu with ⟨rfl, rfl⟩ | ⟨a, rfl, rfl⟩
            · go_wp2_with (go_at_call 10; refine (blank_u8 _ _).mono ?_; rintro e w' ⟨rfl, rfl⟩)
              go_roundw
              case rel => exact ⟨k + 1, l, some k, by omega, by go_num, .inr ⟨k, rfl, by go_num⟩, want_ff_none _ _ _ HWT.out HE.out, hwd⟩
              case measure => simp [intOf]; omega
            · have hak := want_lt _ _ _ _ HWT.out
              have ha0 : decide ((a : Int) < 0) = false := decide_eq_false (by omega)
              go_wp2_with (go_at_call 10; refine (blank_u8 _ _).mono ?_; rintro e w' ⟨rfl, rfl⟩)
              go_roundw
              case rel => exact ⟨k + 1, l, some a, by omega, by go_num, .inr ⟨a, rfl, by go_num⟩, want_ff_some _ _ _ _ HWT.out HE.out, hwd⟩
              case measure => simp [intOf]; omega
          · rw [hb] at e
            have HE : Hid (bAt s k = true) := hb
            clear hb
            rcases hcu with ⟨rfl, rfl⟩ | ⟨a, rfl, rfl⟩
            · go_wp2_with (go_at_call 10; refine (blank_u8 _ _).mono ?_; rintro e w' ⟨rfl, rfl⟩)
              go_roundw
              case rel => exact ⟨k + 1, l, none, by omega, by go_num, .inl ⟨rfl, by go_num⟩, want_tt_none _ _ _ HWT.out HE.out, hwd⟩
              case measure => simp [intOf]; omega
            · have hak := want_lt _ _ _ _ HWT.out
              go_wp2_with (first | (go_at_call 10; refine (blank_u8 _ _).mono ?_; rintro e w' ⟨rfl, rfl⟩) | (at_builtin; refine wpList_append_own _ rfl _ _ 67 rfl (w.heap.size + 1) 9 i0 (.string ⟨#[]⟩) 1 16 Yba.underlying67 hi hi0 hi1 hi2 rfl (by decide) _ _ _ rfl (hwd.own.alloc _) ⟨wr.heap.size, 0, none⟩ 1 1 [.string (s.extract a k)] rfl rfl (cell_one_new _ _ _) ?c2 ?c3 ?c4 ?c5 ?_))
              case c2 => intro u hu; simp at hu; subst hu; rfl
              case c3 => unfold maxLen; omega
              case c4 => omega
              case c5 => have := hwd.size; simp; omega
              intro v' w1 hown' hgrow _
              have hw' := hwd.app hown' hgrow
              clear hown' hgrow hwd
              go_wp2
              go_roundw
              case rel => exact ⟨k + 1, l ++ [(a, k)], none, by omega, by go_num, .inl ⟨rfl, by go_num⟩, want_tt_some _ _ _ _ HWT.out HE.out, hw'⟩
              case measure => simp [intOf]; omega
        · obtain rfl : k = s.size := by omega
          rcases hcu with ⟨rfl, rfl⟩ | ⟨a, rfl, rfl⟩
          · obtain ⟨W3, hW3⟩ : ∃ W3, W3 = wr := ⟨_, rfl⟩
            subst hW3
            have hw : Wanted s w.heap.size w W3 u6 (fin (bAt s) s.size) := by rw [fin_of_none _ _ _ HWT.out]; exact hwd
            clear hwd HWT
            obtain ⟨ao, cap, hv, hcl⟩ := own_form hw.own
            subst hv
            have HCL : Hid (∀ (j : Nat) u, (cells s (fin (bAt s) s.size))[j]? = some u → ∃ g, ao = some ⟨g, 0, none⟩ ∧ g < W3.heap.size ∧ W3.cell? ⟨g, j, none⟩ = some u) := hcl
            have HWW : Hid (Wanted s w.heap.size w W3 (.slice ao (fin (bAt s) s.size).length cap) (fin (bAt s) s.size)) := hw
            have hfl := fin_len (bAt s) s.size
            clear hcl hw
            go_wp2_with fail
            go_loopw [10, 11, 12] (fun v d i w2 => ∃ r p : Nat, i = .int .i64 r ∧ d = .bool false ∧ r ≤ p ∧ p ≤ s.size ∧ Edge (bAt s) s.size p ∧ Gotten s W3.heap.size W3 w2 v (fin (bAt s) p) p) (fun _ _ i _ => s.size + 2 - (intOf i).toNat)
            case atStart => exact ⟨0, 0, rfl, rfl, Nat.le_refl _, Nat.zero_le _, Or.inl rfl, Gotten.start s W3⟩
            case round =>
              obtain ⟨r, p, rfl, rfl, hrp, hps, hed, hgt⟩ := hrel
              have HED : Hid (Edge (bAt s) s.size p) := hed
              have HGT : Hid (Gotten s W3.heap.size W3 wr u10 (fin (bAt s) p) p) := hgt
              have hcn : decide ((r : Int) ≤ (s.size : Int) + 1) = true := decide_eq_true (by omega)
              clear hed hgt
              go_wp2_with fail
              refine (nextText_any s p W3.heap.size _ (by omega) hps HGT.out.c0 HGT.out.c1 HGT.out.fz).mono ?_
              rintro e w4 ⟨st, en, hsp, rfl, hw4⟩
              have hg4 := HGT.out.move en
              rw [hw4] at hg4
              clear hw4 HGT
              by_cases hse : st < en
              · have ds : decide (st < en) = true := decide_eq_true hse
                have HG : Hid (Gotten s W3.heap.size W3 w4 u10 (fin (bAt s) p) en) := hg4
                have HF : Hid (fin (bAt s) en = fin (bAt s) p ++ [(st, en)]) := scan_word (bAt s) s.size p st en HED.out hsp.hps hse hsp.hen hsp.blanks hsp.word
                have hl := fin_len (bAt s) p
                have hps' := hsp.hps
                have hen' := hsp.hen
                have HE : Hid (Edge (bAt s) s.size en) := (by
                  by_cases h : en = s.size
                  · exact Or.inr (Or.inl h)
                  · exact Or.inr (Or.inr (hsp.stop (by omega))))
                clear hg4 hsp
                go_wp2_with (at_builtin; refine wpList_append_own _ rfl _ _ 67 rfl (W3.heap.size + 1) 9 i0 (.string ⟨#[]⟩) 1 16 Yba.underlying67 hi hi0 hi1 hi2 rfl (by decide) _ _ _ rfl (HG.out.own.alloc _) ⟨w4.heap.size, 0, none⟩ 1 1 [.string (s.extract st en)] rfl rfl (cell_one_new _ _ _) ?c2 ?c3 ?c4 ?c5 ?_)
                case c2 => intro u hu; simp at hu; subst hu; rfl
                case c3 => unfold maxLen; omega
                case c4 => omega
                case c5 => have := HG.out.size; simp; omega
                intro v' w5 hown' hgrow _
                have HG5 : Hid (Gotten s W3.heap.size W3 w5 v' (fin (bAt s) en) en) := (by
                  have h := HG.out.app hown' hgrow
                  rw [← HF.out] at h
                  exact h)
                clear hown' hgrow HG HF
                go_wp2
                go_roundw
                case rel => exact ⟨r + 1, en, by go_num, rfl, by omega, by omega, HE.out, HG5.out⟩
                case measure => simp [intOf]; omega
              · have ds : decide (st < en) = false := decide_eq_false hse
                obtain rfl : en = s.size := hsp.full (by have := hsp.hse; omega)
                obtain rfl : st = s.size := by have := hsp.hse; omega
                have hend := scan_end (bAt s) s.size p hps hsp.blanks
                rw [← hend] at hg4
                have hc1 := hg4.c1
                obtain ⟨ao2, cap2, hv2, hcl2⟩ := own_form hg4.own
                have HCL2 : Hid (∀ (j : Nat) u, (cells s (fin (bAt s) s.size))[j]? = some u → ∃ g, ao2 = some ⟨g, 0, none⟩ ∧ g < w4.heap.size ∧ w4.cell? ⟨g, j, none⟩ = some u) := hcl2
                have HG : Hid (Gotten s W3.heap.size W3 w4 u10 (fin (bAt s) s.size) s.size) := hg4
                subst hv2
                clear hg4 hsp hend hcl2 HED
                go_wp2_with fail
                refine (nextText_any s s.size W3.heap.size _ (by omega) (Nat.le_refl _) HG.out.c0 HG.out.c1 HG.out.fz).mono ?_
                rintro e w6 ⟨st2, en2, hsp2, rfl, hw6⟩
                have hg6 := HG.out.move en2
                rw [hw6] at hg6
                have ds2 : decide (st2 < en2) = false := decide_eq_false (by have := hsp2.hps; have := hsp2.hen; omega)
                have HCW : Hid (∀ (j : Nat) u, (cells s (fin (bAt s) s.size))[j]? = some u → ∃ g, ao = some ⟨g, 0, none⟩ ∧ w6.cell? ⟨g, j, none⟩ = some u) := (by
                  intro j u hu
                  obtain ⟨g, h1, h2, h3⟩ := HCL.out j u hu
                  exact ⟨g, h1, (hg6.below.cell h2).trans h3⟩)
                have HCG : Hid (∀ (j : Nat) u, (cells s (fin (bAt s) s.size))[j]? = some u → ∃ g, ao2 = some ⟨g, 0, none⟩ ∧ w6.cell? ⟨g, j, none⟩ = some u) := (by
                  intro j u hu
                  obtain ⟨g2, hh, h2, h3⟩ := HCL2.out j u hu
                  obtain ⟨ao3, cap3, hv3, hcl3⟩ := own_form hg6.own
                  obtain ⟨g, h1, h2, h3⟩ := hcl3 j u hu
                  cases hv3
                  exact ⟨g, h1, h3⟩)
                have hfin : Below w.heap.size w w6 := HWW.out.below.trans (hg6.below.mono (by have := HWW.out.size; omega))
                clear hg6 hw6 hsp2 HG HCL2 HCL hc1
                go_wp2_with fail
                go_loopw [17] (fun i wx => ∃ k : Nat, k ≤ (fin (bAt s) s.size).length ∧ i = .int .i64 k ∧ ∃ q, wx = w6.drewN q) (fun i _ => (fin (bAt s) s.size).length - (intOf i).toNat)
                case atStart => exact ⟨0, Nat.zero_le _, rfl, 0, rfl⟩
                case round =>
                  obtain ⟨k, hk, rfl, q, rfl⟩ := hrel
                  by_cases hlt : k < (fin (bAt s) s.size).length
                  · obtain ⟨u, hu⟩ : ∃ x : ByteArray, (cells s (fin (bAt s) s.size))[k]? = some (.string x) := ⟨_, by simp [cells, hlt]; rfl⟩
                    obtain ⟨g1, hg1, hgc1⟩ := HCW.out k _ hu
                    obtain ⟨g2, hg2, hgc2⟩ := HCG.out k _ hu
                    subst hg1
                    subst hg2
                    clear hu
                    go_wp2
                    go_quiet (fail)
                    go_wp2
                    go_roundw
                    case rel => exact ⟨k + 1, by omega, by go_num, _, rfl⟩
                    case measure => simp [intOf]; omega
                  · go_wp2
                    go_ret
                    exact ⟨rfl, hfin.os, hfin.tape, hfin.output, hfin.size, hfin.block⟩
          · have hak := want_lt _ _ _ _ HWT.out
            have ha0 : decide ((0 : Int) ≤ (a : Int)) = true := decide_eq_true (by omega)
            go_wp2_with (at_builtin; refine wpList_append_own _ rfl _ _ 67 rfl (w.heap.size + 1) 9 i0 (.string ⟨#[]⟩) 1 16 Yba.underlying67 hi hi0 hi1 hi2 rfl (by decide) _ _ _ rfl (hwd.own.alloc _) ⟨wr.heap.size, 0, none⟩ 1 1 [.string (s.extract a s.size)] rfl rfl (cell_one_new _ _ _) ?c2 ?c3 ?c4 ?c5 ?_)
            case c2 => intro u hu; simp at hu; subst hu; rfl
            case c3 => unfold maxLen; omega
            case c4 => omega
            case c5 => have := hwd.size; simp; omega
            intro v' W3 hown' hgrow _
            have hw : Wanted s w.heap.size w W3 v' (fin (bAt s) s.size) := by rw [fin_of_some _ _ _ _ HWT.out]; exact hwd.app hown' hgrow
            clear hown' hgrow hwd HWT
            obtain ⟨ao, cap, hv, hcl⟩ := own_form hw.own
            subst hv
            have HCL : Hid (∀ (j : Nat) u, (cells s (fin (bAt s) s.size))[j]? = some u → ∃ g, ao = some ⟨g, 0, none⟩ ∧ g < W3.heap.size ∧ W3.cell? ⟨g, j, none⟩ = some u) := hcl
            have HWW : Hid (Wanted s w.heap.size w W3 (.slice ao (fin (bAt s) s.size).length cap) (fin (bAt s) s.size)) := hw
            have hfl := fin_len (bAt s) s.size
            clear hcl hw
            go_wp2_with fail
            go_loopw [10, 11, 12] (fun v d i w2 => ∃ r p : Nat, i = .int .i64 r ∧ d = .bool false ∧ r ≤ p ∧ p ≤ s.size ∧ Edge (bAt s) s.size p ∧ Gotten s W3.heap.size W3 w2 v (fin (bAt s) p) p) (fun _ _ i _ => s.size + 2 - (intOf i).toNat)
            case atStart => exact ⟨0, 0, rfl, rfl, Nat.le_refl _, Nat.zero_le _, Or.inl rfl, Gotten.start s W3⟩
            case round =>
              obtain ⟨r, p, rfl, rfl, hrp, hps, hed, hgt⟩ := hrel
              have HED : Hid (Edge (bAt s) s.size p) := hed
              have HGT : Hid (Gotten s W3.heap.size W3 wr u10 (fin (bAt s) p) p) := hgt
              have hcn : decide ((r : Int) ≤ (s.size : Int) + 1) = true := decide_eq_true (by omega)
              clear hed hgt
              go_wp2_with fail
              refine (nextText_any s p W3.heap.size _ (by omega) hps HGT.out.c0 HGT.out.c1 HGT.out.fz).mono ?_
              rintro e w4 ⟨st, en, hsp, rfl, hw4⟩
              have hg4 := HGT.out.move en
              rw [hw4] at hg4
              clear hw4 HGT
              by_cases hse : st < en
              · have ds : decide (st < en) = true := decide_eq_true hse
                have HG : Hid (Gotten s W3.heap.size W3 w4 u10 (fin (bAt s) p) en) := hg4
                have HF : Hid (fin (bAt s) en = fin (bAt s) p ++ [(st, en)]) := scan_word (bAt s) s.size p st en HED.out hsp.hps hse hsp.hen hsp.blanks hsp.word
                have hl := fin_len (bAt s) p
                have hps' := hsp.hps
                have hen' := hsp.hen
                have HE : Hid (Edge (bAt s) s.size en) := (by
                  by_cases h : en = s.size
                  · exact Or.inr (Or.inl h)
                  · exact Or.inr (Or.inr (hsp.stop (by omega))))
                clear hg4 hsp
                go_wp2_with (at_builtin; refine wpList_append_own _ rfl _ _ 67 rfl (W3.heap.size + 1) 9 i0 (.string ⟨#[]⟩) 1 16 Yba.underlying67 hi hi0 hi1 hi2 rfl (by decide) _ _ _ rfl (HG.out.own.alloc _) ⟨w4.heap.size, 0, none⟩ 1 1 [.string (s.extract st en)] rfl rfl (cell_one_new _ _ _) ?c2 ?c3 ?c4 ?c5 ?_)
                case c2 => intro u hu; simp at hu; subst hu; rfl
                case c3 => unfold maxLen; omega
                case c4 => omega
                case c5 => have := HG.out.size; simp; omega
                intro v' w5 hown' hgrow _
                have HG5 : Hid (Gotten s W3.heap.size W3 w5 v' (fin (bAt s) en) en) := (by
                  have h := HG.out.app hown' hgrow
                  rw [← HF.out] at h
                  exact h)
                clear hown' hgrow HG HF
                go_wp2
                go_roundw
                case rel => exact ⟨r + 1, en, by go_num, rfl, by omega, by omega, HE.out, HG5.out⟩
                case measure => simp [intOf]; omega
              · have ds : decide (st < en) = false := decide_eq_false hse
                obtain rfl : en = s.size := hsp.full (by have := hsp.hse; omega)
                obtain rfl : st = s.size := by have := hsp.hse; omega
                have hend := scan_end (bAt s) s.size p hps hsp.blanks
                rw [← hend] at hg4
                have hc1 := hg4.c1
                obtain ⟨ao2, cap2, hv2, hcl2⟩ := own_form hg4.own
                have HCL2 : Hid (∀ (j : Nat) u, (cells s (fin (bAt s) s.size))[j]? = some u → ∃ g, ao2 = some ⟨g, 0, none⟩ ∧ g < w4.heap.size ∧ w4.cell? ⟨g, j, none⟩ = some u) := hcl2
                have HG : Hid (Gotten s W3.heap.size W3 w4 u10 (fin (bAt s) s.size) s.size) := hg4
                subst hv2
                clear hg4 hsp hend hcl2 HED
                go_wp2_with fail
                refine (nextText_any s s.size W3.heap.size _ (by omega) (Nat.le_refl _) HG.out.c0 HG.out.c1 HG.out.fz).mono ?_
                rintro e w6 ⟨st2, en2, hsp2, rfl, hw6⟩
                have hg6 := HG.out.move en2
                rw [hw6] at hg6
                have ds2 : decide (st2 < en2) = false := decide_eq_false (by have := hsp2.hps; have := hsp2.hen; omega)
                have HCW : Hid (∀ (j : Nat) u, (cells s (fin (bAt s) s.size))[j]? = some u → ∃ g, ao = some ⟨g, 0, none⟩ ∧ w6.cell? ⟨g, j, none⟩ = some u) := (by
                  intro j u hu
                  obtain ⟨g, h1, h2, h3⟩ := HCL.out j u hu
                  exact ⟨g, h1, (hg6.below.cell h2).trans h3⟩)
                have HCG : Hid (∀ (j : Nat) u, (cells s (fin (bAt s) s.size))[j]? = some u → ∃ g, ao2 = some ⟨g, 0, none⟩ ∧ w6.cell? ⟨g, j, none⟩ = some u) := (by
                  intro j u hu
                  obtain ⟨g2, hh, h2, h3⟩ := HCL2.out j u hu
                  obtain ⟨ao3, cap3, hv3, hcl3⟩ := own_form hg6.own
                  obtain ⟨g, h1, h2, h3⟩ := hcl3 j u hu
                  cases hv3
                  exact ⟨g, h1, h3⟩)
                have hfin : Below w.heap.size w w6 := HWW.out.below.trans (hg6.below.mono (by have := HWW.out.size; omega))
                clear hg6 hw6 hsp2 HG HCL2 HCL hc1
                go_wp2_with fail
                go_loopw [17] (fun i wx => ∃ k : Nat, k ≤ (fin (bAt s) s.size).length ∧ i = .int .i64 k ∧ ∃ q, wx = w6.drewN q) (fun i _ => (fin (bAt s) s.size).length - (intOf i).toNat)
                case atStart => exact ⟨0, Nat.zero_le _, rfl, 0, rfl⟩
                case round =>
                  obtain ⟨k, hk, rfl, q, rfl⟩ := hrel
                  by_cases hlt : k < (fin (bAt s) s.size).length
                  · obtain ⟨u, hu⟩ : ∃ x : ByteArray, (cells s (fin (bAt s) s.size))[k]? = some (.string x) := ⟨_, by simp [cells, hlt]; rfl⟩
                    obtain ⟨g1, hg1, hgc1⟩ := HCW.out k _ hu
                    obtain ⟨g2, hg2, hgc2⟩ := HCG.out k _ hu
                    subst hg1
                    subst hg2
                    clear hu
                    go_wp2
                    go_quiet (fail)
                    go_wp2
                    go_roundw
                    case rel => exact ⟨k + 1, by omega, by go_num, _, rfl⟩
                    case measure => simp [intOf]; omega
                  · go_wp2
                    go_ret
                    exact ⟨rfl, hfin.os, hfin.tape, hfin.output, hfin.size, hfin.block⟩

end Go.Proofs.Ybulkcsxk
