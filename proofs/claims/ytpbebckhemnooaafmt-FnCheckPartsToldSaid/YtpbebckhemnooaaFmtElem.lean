/- module.checkElem at the kind 0: what it answers of an element; the conditions: the element's size, that the tape answers fmt's stop, where the names of Windows lie, and what strings.EqualFold tells of them. module.checkElem at the kind 1: what it answers of an element; the conditions: the element's size, that the tape answers fmt's stop, where the names of Windows lie, and what strings.EqualFold tells of them. module.checkElem at the kind 2: what it answers of an element; the conditions: the element's size, that the tape answers fmt's stop, where the names of Windows lie, and what strings.EqualFold and unicode.IsLetter tell beyond ASCII. module.checkElem at each kind, joined; the conditions: the element's size, that the tape answers fmt's stop, where the names of Windows lie, what strings.EqualFold tells of them, and, of a file's element beyond ASCII, unicode.IsLetter. -/
import Derived.Test.YtpbebckhemnooaaFmtElemDefs
import Derived.Outline

namespace Go.Proofs.YtpbebckhemnooaaFmt.PS
open Go.RowKit Go.Proofs.YtpbebckhemnooaaFmtW.PrintWords Go.Proofs.YtpbebckhemnooaaFmtW.PrintLast Go.Proofs.YtpbebckhemnooaaFmtW.PrintMore
set_option linter.unusedVariables false
set_option linter.unusedSimpArgs false

set_option maxHeartbeats 1600000 in
theorem elem0_empty (s : ByteArray) (w : World) (h0 : s.size = 0) :
    Calls Tryf.prog 53 #[.string s, .int .i64 0] w (ElemPost w 0 s.data.toList) := by
  have h1 : s.toList = [] := by rw [Lib.toList_data]; exact data_eq_nil h0
  have HD := Lib.hid (data_eq_nil h0)
  clear h0
  go_enter Tryf.func53, Tryf.ntmps53
  go_wp2_with (go_at_call 55; refine (errorf_none _ (by simp) _).mono ?_; rintro e w9 ⟨a9, t9, rfl, hc9, hb9⟩)
  go_ret
  exact post_no (fun _ h => h.1 HD.out) ⟨a9, t9, rfl, hc9, hb9⟩

theorem fmtElem0 : Fmt1 ⟨#[105, 110, 118, 97, 108, 105, 100, 32, 112, 97, 116, 104, 32, 101, 108, 101, 109, 101, 110, 116, 32, 37, 113]⟩ 113 := fun w => by kernel_rfl
theorem fmtChar0 : Fmt1 ⟨#[105, 110, 118, 97, 108, 105, 100, 32, 99, 104, 97, 114, 32, 37, 113]⟩ 113 := fun w => by kernel_rfl
theorem fmtName0 : Fmt1 ⟨#[37, 113, 32, 100, 105, 115, 97, 108, 108, 111, 119, 101, 100, 32, 97, 115, 32, 112, 97, 116, 104, 32, 101, 108, 101, 109, 101, 110, 116, 32, 99, 111, 109, 112, 111, 110, 101, 110, 116, 32, 111, 110, 32, 87, 105, 110, 100, 111, 119, 115]⟩ 113 := fun w => by kernel_rfl

set_option maxHeartbeats 1600000 in
theorem elem0_dots (F : Stop.Interp) (s : ByteArray) (hs : s.size ≤ 1099511627776) (w : World) (hF : F.answers w.tape) (h0 : 0 < s.size) (h1 : dots s.data.toList = s.size) :
    Calls Tryf.prog 53 #[.string s, .int .i64 0] w (ElemPost w 0 s.data.toList) := by
  have h2 : ¬ s.toList = [] := by rw [Lib.toList_data]; exact data_ne_nil h0
  have h3 : (s.toList == []) = false := by simpa using h2
  have H1 := Lib.hid h1
  have h4 : ((dots s.data.toList : Int) == (s.size : Int)) = true := by rw [h1]; simp
  clear h1
  go_enter Tryf.func53, Tryf.ntmps53
  go_wp2_with (first
    | (go_at_call 72; refine (zzCount_dot s hs _).mono ?_; rintro e w5 ⟨rfl, rfl⟩)
    | (go_at_call 55; refine (errorf_str F _ s _ _ (by exact hF) fmtElem0 (by go_simp)).mono ?_; rintro e w9 ⟨a9, t9, rfl, hc9, hb9⟩))
  go_ret
  exact post_no (fun _ h => h.2.1 (by rw [H1.out, len_size])) (ErrS.mono ⟨a9, t9, rfl, hc9, hb9⟩ ((Below.refl _ _).alloc (Nat.le_refl _) _))

set_option maxHeartbeats 1600000 in
theorem elem0_last (F : Stop.Interp) (s : ByteArray) (hs : s.size ≤ 1099511627776) (w : World) (hF : F.answers w.tape) (h0 : 0 < s.size) (h1 : dots s.data.toList ≠ s.size) (h2 : gb s (s.size - 1) = 46) :
    Calls Tryf.prog 53 #[.string s, .int .i64 0] w (ElemPost w 0 s.data.toList) := by
  have a1 : ¬ s.toList = [] := by rw [Lib.toList_data]; exact data_ne_nil h0
  have a2 : (s.toList == []) = false := by simpa using a1
  have a3 : ((dots s.data.toList : Int) == (s.size : Int)) = false := by simp; omega
  have a4 : (gb s (s.size - 1) == 46) = true := by simpa using h2
  have hgb := get_gb s
  have H2 := Lib.hid h2
  clear h1 h2
  go_enter Tryf.func53, Tryf.ntmps53
  go_wp2_with (first
    | (go_at_call 72; refine (zzCount_dot s hs _).mono ?_; rintro e w5 ⟨rfl, rfl⟩)
    | (go_at_call 55; refine (errorf_none _ (by simp) _).mono ?_; rintro e w9 ⟨a9, t9, rfl, hc9, hb9⟩))
  all_goals (go_ret; first | exact post_no (fun _ h => h.2.2.2.1 (by rw [len_size]; exact H2.out)) ⟨a9, t9, rfl, hc9, hb9⟩)

set_option maxHeartbeats 6000000 in
set_option maxRecDepth 100000 in
theorem elem0_main (F : Stop.Interp) (s : ByteArray) (hs : s.size ≤ 1099511627776) (w : World) (hF : F.answers w.tape) (hN : NamesIn w)
    (h0 : 0 < s.size) (h1 : dots s.data.toList ≠ s.size) (h2 : gb s (s.size - 1) ≠ 46) (h3 : gb s 0 ≠ 46) :
    Calls Tryf.prog 53 #[.string s, .int .i64 0] w (ElemPost w 0 s.data.toList) := by
  have a1 : ¬ s.toList = [] := by rw [Lib.toList_data]; exact data_ne_nil h0
  have a2 : (s.toList == []) = false := by simpa using a1
  have a3 : ((dots s.data.toList : Int) == (s.size : Int)) = false := by simp; omega
  have a4 : (gb s (s.size - 1) == 46) = false := by simpa using h2
  have a5 : (gb s 0 == 46) = false := by simpa using h3
  have H3 := Lib.hid h3
  have hgb := get_gb s
  have H1 := Lib.hid h1
  have H2 := Lib.hid h2
  have HN := Lib.hid hN

  clear h1 h2 hN
  go_enter Tryf.func53, Tryf.ntmps53
  go_wp2_with (go_at_call 72; refine (zzCount_dot s hs _).mono ?_; rintro e w5 ⟨rfl, rfl⟩)
  all_goals (
      go_loopw [] (fun wr => ∃ k : Nat, k ≤ s.size ∧ Hid (wr.heap[w.heap.size]? = some (.stringIter s k)) ∧ Hid (Below w.heap.size w wr) ∧ Hid (CharsTo 0 s.data.toList k)) (fun wr => s.size - wr.iterPos w.heap.size)
      case atStart => exact ⟨0, Nat.zero_le _, Lib.hid (World.iter_heap w s 0), Lib.hid ((Below.refl _ _).alloc (Nat.le_refl _) _), Lib.hid (CharsTo.nil _ _)⟩
      case round =>
        obtain ⟨k, hk, hit, hB, hno⟩ := hrel
        have hFr := Lib.hid (below_tape hF hB.out)
        by_cases hlt : k < s.size
        · by_cases ha1 : (s[k]'hlt).toNat < 128
          · have hnx : ∀ ty, (Instr.next (.pointer (some ⟨w.heap.size, 0, none⟩)) true ty).run Tryf.prog wr = _ := fun ty => Lib.run_next_ascii_at wr w.heap.size s k ty hit.out hlt ha1
            have hB2 := Lib.hid (Lib.below_iterAt hB.out (k := w.heap.size) (Nat.le_refl _) s (k + 1))
            have hit2 := Lib.hid (Lib.iterAt_heap wr w.heap.size s k (k + 1) hit.out)
            have hF2 := below_tape hF hB2.out
            obtain ⟨W1, hW1⟩ : ∃ W1, wr.iterAt w.heap.size s (k + 1) = W1 := ⟨_, rfl⟩
            rw [hW1] at hnx hB2 hit2 hF2
            have hg : ((s[k]'hlt).toNat : Int) = gb s k := (hgb k hlt).symm ▸ rfl
            have HA := Lib.hid ha1
            clear hW1 ha1
            by_cases hc : modI (gb s k) = true
            · have hno2 := Lib.hid (CharsTo.succ hno.out hlt HA.out (by rw [hg]; exact hc))
              go_wp2_with (go_at_call 73; refine (mod_any _ _).mono ?_; rintro e w5 ⟨rfl, hb5⟩)
              have hit3 : Hid (w5.heap[w.heap.size]? = some (.stringIter s (k + 1))) := Lib.hid (by rw [hb5.block _ ((Array.getElem?_eq_some_iff.1 hit2.out).1)]; exact hit2.out)
              have hB3 := Lib.hid (hB2.out.trans (hb5.mono hB2.out.size))
              go_roundw
              case rel => exact ⟨k + 1, by omega, hit3, hB3, hno2⟩
              case measure => simp only [World.iterPos, hit.out, hit3.out]; omega
            · have hc2 : modI (gb s k) = false := by simpa using hc
              have HC := Lib.hid (show ¬ (asc s.data.toList → ∀ c ∈ s.data.toList, charI 0 (c.toNat : Int) = true) ∨ True from .inr trivial)
              have HX : Hid (asc s.data.toList → ¬ ElemOK 0 s.data.toList) := Lib.hid fun _ h => by have := h.2.2.2.2.1 _ (byte_mem s k hlt); rw [hg] at this; exact hc this
              clear hc HC
              go_wp2_with (first
                | (go_at_call 73; refine (mod_any _ _).mono ?_; rintro e w5 ⟨rfl, hb5⟩)
                | (go_at_call 55; refine (errorf_rune F _ (gb s k) _ _ (by have := below_tape hF2 hb5; exact this) fmtChar0 (by go_simp)).mono ?_; rintro e w9 ⟨a9, t9, rfl, hc9, hb9⟩))
              go_ret
              exact post_no HX.out (ErrS.mono ⟨a9, t9, rfl, hc9, hb9⟩ (hB2.out.trans ((hb5.mono hB2.out.size).trans ((Below.refl _ _).alloc (Nat.le_trans hB2.out.size hb5.size) _))))
          · have hnx : ∀ ty, (Instr.next (.pointer (some ⟨w.heap.size, 0, none⟩)) true ty).run Tryf.prog wr = _ := fun ty => Lib.run_next_any_at wr w.heap.size s k ty hit.out hlt
            obtain ⟨hr1, hd1⟩ := decode_high s k hlt (by omega)
            obtain ⟨r, hr⟩ : ∃ r, (Utf8.decode s k).1 = r := ⟨_, rfl⟩
            obtain ⟨dd, hdd⟩ : ∃ dd, (Utf8.decode s k).2 = dd := ⟨_, rfl⟩
            have hrm := decode_small s k
            rw [hr] at hr1 hnx hrm
            rw [hdd] at hd1 hnx
            have hB2 := Lib.hid (Lib.below_iterAt hB.out (k := w.heap.size) (Nat.le_refl _) s (k + dd))
            have hit2 := Lib.hid (Lib.iterAt_heap wr w.heap.size s k (k + dd) hit.out)
            have hF2 := below_tape hF hB2.out
            obtain ⟨W1, hW1⟩ : ∃ W1, wr.iterAt w.heap.size s (k + dd) = W1 := ⟨_, rfl⟩
            rw [hW1] at hnx hB2 hit2 hF2
            have HX : Hid (¬ asc s.data.toList) := Lib.hid fun h => ha1 (h _ (byte_mem s k hlt))
            clear hW1 ha1 hr hdd
            have hc2 : modI ((r : Int)) = false := by simp [modI]; omega
            go_wp2_with (first
              | (go_at_call 73; refine (mod_any _ _).mono ?_; rintro e w5 ⟨rfl, hb5⟩)
              | (go_at_call 55; refine (errorf_rune F _ (r : Int) _ _ (by have := below_tape hF2 hb5; exact this) fmtChar0 (by go_simp)).mono ?_; rintro e w9 ⟨a9, t9, rfl, hc9, hb9⟩))
            go_ret
            exact post_no (fun h => absurd h HX.out) (ErrS.mono ⟨a9, t9, rfl, hc9, hb9⟩ (hB2.out.trans ((hb5.mono hB2.out.size).trans ((Below.refl _ _).alloc (Nat.le_trans hB2.out.size hb5.size) _))))
        · have hall := CharsTo.all hno.out (by rw [len_size]; omega)
          have hlast := Lib.hid hall
          clear hall hno
          have hnx : ∀ ty, (Instr.next (.pointer (some ⟨w.heap.size, 0, none⟩)) true ty).run Tryf.prog wr = _ := fun ty => Lib.run_next_end_at wr w.heap.size s k ty hit.out hlt
          have hNr := HN.out.below hB.out
          obtain ⟨nb, no, cap, hN1, hN2⟩ := hNr
          have HN2 := Lib.hid hN2
          clear hN2
          have hB6 := hB
          cases hx : idxL [46] s.data.toList with
          | none =>
            have HZ := Lib.hid (idx_none s hs hx)
            have HS := Lib.hid ((idx_short s.data.toList).2 hx).symm
            clear hx
            go_wp2_with (go_at_call 63; refine (HZ.out _).mono ?_; rintro e w6 ⟨rfl, hb6⟩; have hN1' := (hb6.cell (World.block_lt_of_cell? _ _ hN1)).trans hN1)
            have hB7 := Lib.hid (hB.out.trans (hb6.mono hB.out.size))
            have HF := Lib.hid (FoldOK.ascii w s (by rw [HS.out]; exact fun c hc => hlast.out.2 (by decide) c (shortL_sub _ c hc)))
            have hN7 : Hid (∀ j, j < 22 → w6.cell? ⟨nb, no + j, none⟩ = some (.string (nameB j))) := Lib.hid fun j hj => (hb6.cell (World.block_lt_of_cell? _ _ (HN2.out j hj))).trans (HN2.out j hj)
            go_loopw [83] (fun x w8 => ∃ j : Nat, j ≤ 22 ∧ x = .int .i64 j ∧ Hid (Below w6.heap.size w6 w8) ∧ Hid (Names s j)) (fun x _ => 22 - (intOf x).toNat)
            case atStart => exact ⟨0, by omega, rfl, Lib.hid (Below.refl _ _), Lib.hid (Names.nil _)⟩
            case round =>
              obtain ⟨j, hj, rfl, hB8, hnm⟩ := hrel
              by_cases hj2 : j < 22
              · have hc : ∃ a, w6.cell? ⟨nb, no + j, none⟩ = some a ∧ a = .string (nameB j) := ⟨_, hN7.out j hj2, rfl⟩
                have hcw : wr.cell? ⟨nb, no + j, none⟩ = some (.string (nameB j)) := (hB8.out.cell (World.block_lt_of_cell? _ _ (hN7.out j hj2))).trans (hN7.out j hj2)
                clear hc
                have HC := Lib.hid (HF.out wr (hB7.out.trans (hB8.out.mono hB7.out.size)) j hj2)
                have hF8 := below_tape hF (hB7.out.trans (hB8.out.mono hB7.out.size))
                go_wp2_with (first
                  | (go_at_call 77; refine HC.out.mono ?_; rintro e w10 ⟨b, rfl, hb, hb10⟩)
                  | (go_at_call 55; refine (errorf_str F _ s _ _ (by have := below_tape hF8 hb10; exact this) fmtName0 (by go_simp)).mono ?_; rintro e w9 ⟨a9, t9, rfl, hc9, hb9⟩))
                · go_ret
                  have hbt : b = true := by assumption
                  rw [hbt] at hb
                  have hbad : asc s.data.toList → ¬ ElemOK 0 s.data.toList := fun ha h => h.2.2.2.2.2.1 ⟨j, hj2, by rw [← HS.out]; exact (hb (by rw [HS.out]; exact fun c hc => ha c (shortL_sub _ c hc))).symm⟩
                  exact post_no hbad (ErrS.mono ⟨a9, t9, rfl, hc9, hb9⟩ ((hB7.out.trans (hB8.out.mono hB7.out.size)).trans ((hb10.mono (Nat.le_trans hB7.out.size hB8.out.size)).trans ((Below.refl _ _).alloc (Nat.le_trans hB7.out.size (Nat.le_trans hB8.out.size hb10.size)) _))))
                · have hbf : b = false := by first | assumption | simpa using ‹¬ b = true›
                  rw [hbf] at hb
                  go_roundw
                  case rel => exact ⟨j + 1, by omega, by go_num, Lib.hid (hB8.out.trans (hb10.mono hB8.out.size)), Lib.hid (Names.succ hnm.out hb)⟩
                  case measure => simp [intOf]; omega
              · obtain rfl : j = 22 := by omega
                have HM := hnm
                clear hj hj2
                have hB9 := Lib.hid (hB7.out.trans (hB8.out.mono hB7.out.size))
                have hlen : s.size ≤ s.size := by first | exact Nat.le_refl _ | (have := shortL_len s.data.toList; rw [← HS.out, len_size, len_size] at this; exact this)
                have hnb : ¬ badN s.data.toList := fun ⟨i, hi, h⟩ => by have := hnm.out (by rw [HS.out]; exact fun c hc => hlast.out.2 (by decide) c (shortL_sub _ c hc)) i hi; rw [h] at this; cases this
                have HNB := Lib.hid hnb
                have hat : asc s.data.toList := by rw [HS.out]; exact fun c hc => hlast.out.2 (by decide) c (shortL_sub _ c hc)
                have HAT := Lib.hid hat
                have hyes : (¬ tildeBad s.data.toList) → EB 0 s.data.toList true := fun h => ⟨fun ha => ⟨fun _ => ⟨data_ne_nil h0, by rw [len_size]; exact H1.out, fun h => H3.out h.1, by rw [len_size]; exact H2.out, hlast.out.1 ha, by rw [← HS.out]; exact HNB.out, .inr (by rw [← HS.out]; exact h)⟩, fun _ => rfl⟩, fun h => absurd (hlast.out.2 (by decide)) h⟩
                have HYES := Lib.hid hyes
                have hno3 : tildeBad s.data.toList → ElemOK 0 s.data.toList → False := fun h h2 => h2.2.2.2.2.2.2.elim (by decide) fun h3 => h3 (by rw [← HS.out]; exact h)
                have HNO := Lib.hid hno3
                have HT : s.data.toList.length = s.size := len_size s
                clear hnb hat hyes hno3
                obtain ⟨hl0, hl1⟩ := lastI_range 126 s.data.toList
                by_cases q0 : 0 ≤ lastI 126 s.data.toList
                · by_cases q1 : lastI 126 s.data.toList < (s.size : Int) - 1
                  · obtain ⟨m, hm⟩ : ∃ m : Nat, lastI 126 s.data.toList = m := ⟨(lastI 126 s.data.toList).toNat, by omega⟩
                    have HM2 := Lib.hid hm
                    have hq : (m : Int) < (s.size : Int) - 1 := by omega
                    have HLB := Lib.hid fun W => lastByte_at s 126 (m : Int) (by omega) hm W
                    obtain ⟨x, hxe⟩ : ∃ x, s.extract (m + 1) s.size = x := ⟨_, rfl⟩
                    have hxd : x.data.toList = s.data.toList.drop (m + 1) := by rw [← hxe]; exact extract_drop s (m + 1)
                    have hxs : x.size = s.size - (m + 1) := by rw [← len_size, hxd, List.length_drop, HT]
                    have hxa : asc x.data.toList := by rw [hxd]; exact fun c hc => HAT.out c ((List.drop_sublist _ _).subset hc)
                    have HXA := Lib.hid hxa
                    have htb : (∀ c ∈ x.data.toList, digC c) ↔ tildeBad s.data.toList := by
                      unfold tildeBad
                      rw [hxd, hm, HT]
                      exact ⟨fun h => ⟨by omega, by omega, by simpa using h⟩, fun h => by simpa using h.2.2⟩
                    have HTB := Lib.hid htb
                    have hgx := get_gb x
                    clear q0 q1 hl0 hl1 hm hxd hxa htb
                    go_wp2_with (go_at_call 78; refine (HLB.out _).mono ?_; rintro e w11 ⟨rfl, hb11⟩)
                    have hB11 := Lib.hid (hB9.out.trans (hb11.mono hB9.out.size))
                    go_loopw [14] (fun y w12 => y = .bool true ∧ ∃ k : Nat, k ≤ x.size ∧ Hid (w12.heap[w11.heap.size]? = some (.stringIter x k)) ∧ Hid (Below w11.heap.size w11 w12) ∧ Hid (∀ c ∈ x.data.toList.take k, digC c)) (fun _ w12 => x.size - w12.iterPos w11.heap.size)
                    case atStart => exact ⟨rfl, 0, Nat.zero_le _, Lib.hid (World.iter_heap w11 x 0), Lib.hid ((Below.refl _ _).alloc (Nat.le_refl _) _), Lib.hid (fun c hc => by simp at hc)⟩
                    case round =>
                      obtain ⟨rfl, k2, hk2, hit2, hB12, hdg⟩ := hrel
                      by_cases hlt2 : k2 < x.size
                      · have ha1 := gb_ascii HXA.out k2 hlt2
                        have hnx2 : ∀ ty, (Instr.next (.pointer (some ⟨w11.heap.size, 0, none⟩)) true ty).run Tryf.prog wr = _ := fun ty => Lib.run_next_ascii_at wr w11.heap.size x k2 ty hit2.out hlt2 ha1
                        have hB13 := Lib.hid (Lib.below_iterAt hB12.out (k := w11.heap.size) (Nat.le_refl _) x (k2 + 1))
                        have hit3 := Lib.hid (Lib.iterAt_heap wr w11.heap.size x k2 (k2 + 1) hit2.out)
                        obtain ⟨W2, hW2⟩ : ∃ W2, wr.iterAt w11.heap.size x (k2 + 1) = W2 := ⟨_, rfl⟩
                        rw [hW2] at hnx2 hB13 hit3
                        have hg2 : ((x[k2]'hlt2).toNat : Int) = gb x k2 := (hgx k2 hlt2).symm ▸ rfl
                        have HG2 := Lib.hid hg2
                        have HA := Lib.hid ha1
                        have hBW := Lib.hid (hB11.out.trans (hB13.out.mono hB11.out.size))
                        clear hW2 ha1
                        by_cases hd : digC (x[k2]'hlt2)
                        · have hd1 : 48 ≤ gb x k2 := by have := hd.1; omega
                          have hd2 : gb x k2 ≤ 57 := by have := hd.2; omega
                          have hdg2 : Hid (∀ c ∈ x.data.toList.take (k2 + 1), digC c) := Lib.hid (by
                            obtain ⟨c, ht, -, hg, -⟩ := take_succ_gb x hlt2
                            intro d hdm
                            rw [ht, List.mem_append] at hdm
                            rcases hdm with hdm | hdm
                            · exact hdg.out d hdm
                            · obtain rfl := List.mem_singleton.1 hdm
                              exact ⟨by omega, by omega⟩)
                          clear hd hg2
                          go_wp2
                          go_roundw
                          case rel => exact ⟨rfl, k2 + 1, by omega, hit3, hB13, hdg2⟩
                          case measure => simp only [World.iterPos, hit2.out, hit3.out]; omega
                        · have HNT := Lib.hid (HYES.out fun h => hd (HTB.out.2 h _ (byte_mem x k2 hlt2)))
                          by_cases hd1 : 48 ≤ gb x k2
                          · have hd2 : 57 < gb x k2 := by
                              have h9 : ¬ (x[k2]'hlt2).toNat ≤ 57 := fun h => hd ⟨by omega, h⟩
                              omega
                            clear hd hg2
                            go_wp2
                            go_ret
                            exact ⟨true, HNT.out, .inl ⟨rfl, rfl, hBW.out⟩⟩
                          · clear hd hg2
                            go_wp2
                            go_ret
                            exact ⟨true, HNT.out, .inl ⟨rfl, rfl, hBW.out⟩⟩
                      · have hnx2 : ∀ ty, (Instr.next (.pointer (some ⟨w11.heap.size, 0, none⟩)) true ty).run Tryf.prog wr = _ := fun ty => Lib.run_next_end_at wr w11.heap.size x k2 ty hit2.out hlt2
                        have hall := hdg.out
                        rw [List.take_of_length_le (by rw [len_size]; omega)] at hall
                        have HNO2 := Lib.hid (HNO.out (HTB.out.1 hall))
                        have hBW := Lib.hid (hB11.out.trans (hB12.out.mono hB11.out.size))
                        clear hall
                        go_wp2_with (go_at_call 55; refine (errorf_none _ (by simp) _).mono ?_; rintro e w9 ⟨a9, t9, rfl, hc9, hb9⟩)
                        go_ret
                        exact post_no (fun _ h => HNO2.out h) (ErrS.mono ⟨a9, t9, rfl, hc9, hb9⟩ hBW.out)
                  · have q2 : ¬ lastI 126 s.data.toList < (s.size : Int) - 1 := q1
                    have HLB := Lib.hid fun W => lastByte_at s 126 _ (by omega) rfl W
                    have HNT := Lib.hid (HYES.out fun h => q2 (by rw [← HT]; exact h.2.1))
                    obtain ⟨m, hm⟩ : ∃ m : Int, lastI 126 s.data.toList = m := ⟨_, rfl⟩
                    rw [hm] at HLB q0 q1 q2
                    clear hl0 hl1 hm
                    go_wp2_with (go_at_call 78; refine (HLB.out _).mono ?_; rintro e w11 ⟨rfl, hb11⟩)
                    go_ret
                    exact ⟨true, HNT.out, .inl ⟨rfl, rfl, hB9.out.trans (hb11.mono hB9.out.size)⟩⟩
                · have HLB := Lib.hid fun W => lastByte_at s 126 _ (by omega) rfl W
                  have HNT := Lib.hid (HYES.out fun h => q0 h.1)
                  obtain ⟨m, hm⟩ : ∃ m : Int, lastI 126 s.data.toList = m := ⟨_, rfl⟩
                  rw [hm] at HLB q0
                  clear hl0 hl1 hm
                  go_wp2_with (go_at_call 78; refine (HLB.out _).mono ?_; rintro e w11 ⟨rfl, hb11⟩)
                  go_ret
                  exact ⟨true, HNT.out, .inl ⟨rfl, rfl, hB9.out.trans (hb11.mono hB9.out.size)⟩⟩

          | some i =>
            have HZ := Lib.hid (idx_some s hs hx)
            obtain ⟨hx1, hx2⟩ := (idx_short s.data.toList).1 i hx
            obtain ⟨t, hte⟩ : ∃ t, s.extract 0 i = t := ⟨_, rfl⟩
            have HS := Lib.hid (show t.data.toList = shortL s.data.toList by rw [← hte, ← hx1]; exact extract_take s i)
            rw [len_size] at hx2
            clear hx hx1
            go_wp2_with (go_at_call 63; refine (HZ.out _).mono ?_; rintro e w6 ⟨rfl, hb6⟩; have hN1' := (hb6.cell (World.block_lt_of_cell? _ _ hN1)).trans hN1)
            have hB7 := Lib.hid (hB.out.trans (hb6.mono hB.out.size))
            have HF := Lib.hid (FoldOK.ascii w t (by rw [HS.out]; exact fun c hc => hlast.out.2 (by decide) c (shortL_sub _ c hc)))
            have hN7 : Hid (∀ j, j < 22 → w6.cell? ⟨nb, no + j, none⟩ = some (.string (nameB j))) := Lib.hid fun j hj => (hb6.cell (World.block_lt_of_cell? _ _ (HN2.out j hj))).trans (HN2.out j hj)
            go_loopw [83] (fun x w8 => ∃ j : Nat, j ≤ 22 ∧ x = .int .i64 j ∧ Hid (Below w6.heap.size w6 w8) ∧ Hid (Names t j)) (fun x _ => 22 - (intOf x).toNat)
            case atStart => exact ⟨0, by omega, rfl, Lib.hid (Below.refl _ _), Lib.hid (Names.nil _)⟩
            case round =>
              obtain ⟨j, hj, rfl, hB8, hnm⟩ := hrel
              by_cases hj2 : j < 22
              · have hc : ∃ a, w6.cell? ⟨nb, no + j, none⟩ = some a ∧ a = .string (nameB j) := ⟨_, hN7.out j hj2, rfl⟩
                have hcw : wr.cell? ⟨nb, no + j, none⟩ = some (.string (nameB j)) := (hB8.out.cell (World.block_lt_of_cell? _ _ (hN7.out j hj2))).trans (hN7.out j hj2)
                clear hc
                have HC := Lib.hid (HF.out wr (hB7.out.trans (hB8.out.mono hB7.out.size)) j hj2)
                have hF8 := below_tape hF (hB7.out.trans (hB8.out.mono hB7.out.size))
                go_wp2_with (first
                  | (go_at_call 77; refine HC.out.mono ?_; rintro e w10 ⟨b, rfl, hb, hb10⟩)
                  | (go_at_call 55; refine (errorf_str F _ t _ _ (by have := below_tape hF8 hb10; exact this) fmtName0 (by go_simp)).mono ?_; rintro e w9 ⟨a9, t9, rfl, hc9, hb9⟩))
                · go_ret
                  have hbt : b = true := by assumption
                  rw [hbt] at hb
                  have hbad : asc s.data.toList → ¬ ElemOK 0 s.data.toList := fun ha h => h.2.2.2.2.2.1 ⟨j, hj2, by rw [← HS.out]; exact (hb (by rw [HS.out]; exact fun c hc => ha c (shortL_sub _ c hc))).symm⟩
                  exact post_no hbad (ErrS.mono ⟨a9, t9, rfl, hc9, hb9⟩ ((hB7.out.trans (hB8.out.mono hB7.out.size)).trans ((hb10.mono (Nat.le_trans hB7.out.size hB8.out.size)).trans ((Below.refl _ _).alloc (Nat.le_trans hB7.out.size (Nat.le_trans hB8.out.size hb10.size)) _))))
                · have hbf : b = false := by first | assumption | simpa using ‹¬ b = true›
                  rw [hbf] at hb
                  go_roundw
                  case rel => exact ⟨j + 1, by omega, by go_num, Lib.hid (hB8.out.trans (hb10.mono hB8.out.size)), Lib.hid (Names.succ hnm.out hb)⟩
                  case measure => simp [intOf]; omega
              · obtain rfl : j = 22 := by omega
                have HM := hnm
                clear hj hj2
                have hB9 := Lib.hid (hB7.out.trans (hB8.out.mono hB7.out.size))
                have hlen : t.size ≤ s.size := by first | exact Nat.le_refl _ | (have := shortL_len s.data.toList; rw [← HS.out, len_size, len_size] at this; exact this)
                have hnb : ¬ badN t.data.toList := fun ⟨i, hi, h⟩ => by have := hnm.out (by rw [HS.out]; exact fun c hc => hlast.out.2 (by decide) c (shortL_sub _ c hc)) i hi; rw [h] at this; cases this
                have HNB := Lib.hid hnb
                have hat : asc t.data.toList := by rw [HS.out]; exact fun c hc => hlast.out.2 (by decide) c (shortL_sub _ c hc)
                have HAT := Lib.hid hat
                have hyes : (¬ tildeBad t.data.toList) → EB 0 s.data.toList true := fun h => ⟨fun ha => ⟨fun _ => ⟨data_ne_nil h0, by rw [len_size]; exact H1.out, fun h => H3.out h.1, by rw [len_size]; exact H2.out, hlast.out.1 ha, by rw [← HS.out]; exact HNB.out, .inr (by rw [← HS.out]; exact h)⟩, fun _ => rfl⟩, fun h => absurd (hlast.out.2 (by decide)) h⟩
                have HYES := Lib.hid hyes
                have hno3 : tildeBad t.data.toList → ElemOK 0 s.data.toList → False := fun h h2 => h2.2.2.2.2.2.2.elim (by decide) fun h3 => h3 (by rw [← HS.out]; exact h)
                have HNO := Lib.hid hno3
                have HT : t.data.toList.length = t.size := len_size t
                clear hnb hat hyes hno3
                obtain ⟨hl0, hl1⟩ := lastI_range 126 t.data.toList
                by_cases q0 : 0 ≤ lastI 126 t.data.toList
                · by_cases q1 : lastI 126 t.data.toList < (t.size : Int) - 1
                  · obtain ⟨m, hm⟩ : ∃ m : Nat, lastI 126 t.data.toList = m := ⟨(lastI 126 t.data.toList).toNat, by omega⟩
                    have HM2 := Lib.hid hm
                    have hq : (m : Int) < (t.size : Int) - 1 := by omega
                    have HLB := Lib.hid fun W => lastByte_at t 126 (m : Int) (by omega) hm W
                    obtain ⟨x, hxe⟩ : ∃ x, t.extract (m + 1) t.size = x := ⟨_, rfl⟩
                    have hxd : x.data.toList = t.data.toList.drop (m + 1) := by rw [← hxe]; exact extract_drop t (m + 1)
                    have hxs : x.size = t.size - (m + 1) := by rw [← len_size, hxd, List.length_drop, HT]
                    have hxa : asc x.data.toList := by rw [hxd]; exact fun c hc => HAT.out c ((List.drop_sublist _ _).subset hc)
                    have HXA := Lib.hid hxa
                    have htb : (∀ c ∈ x.data.toList, digC c) ↔ tildeBad t.data.toList := by
                      unfold tildeBad
                      rw [hxd, hm, HT]
                      exact ⟨fun h => ⟨by omega, by omega, by simpa using h⟩, fun h => by simpa using h.2.2⟩
                    have HTB := Lib.hid htb
                    have hgx := get_gb x
                    clear q0 q1 hl0 hl1 hm hxd hxa htb
                    go_wp2_with (go_at_call 78; refine (HLB.out _).mono ?_; rintro e w11 ⟨rfl, hb11⟩)
                    have hB11 := Lib.hid (hB9.out.trans (hb11.mono hB9.out.size))
                    go_loopw [14] (fun y w12 => y = .bool true ∧ ∃ k : Nat, k ≤ x.size ∧ Hid (w12.heap[w11.heap.size]? = some (.stringIter x k)) ∧ Hid (Below w11.heap.size w11 w12) ∧ Hid (∀ c ∈ x.data.toList.take k, digC c)) (fun _ w12 => x.size - w12.iterPos w11.heap.size)
                    case atStart => exact ⟨rfl, 0, Nat.zero_le _, Lib.hid (World.iter_heap w11 x 0), Lib.hid ((Below.refl _ _).alloc (Nat.le_refl _) _), Lib.hid (fun c hc => by simp at hc)⟩
                    case round =>
                      obtain ⟨rfl, k2, hk2, hit2, hB12, hdg⟩ := hrel
                      by_cases hlt2 : k2 < x.size
                      · have ha1 := gb_ascii HXA.out k2 hlt2
                        have hnx2 : ∀ ty, (Instr.next (.pointer (some ⟨w11.heap.size, 0, none⟩)) true ty).run Tryf.prog wr = _ := fun ty => Lib.run_next_ascii_at wr w11.heap.size x k2 ty hit2.out hlt2 ha1
                        have hB13 := Lib.hid (Lib.below_iterAt hB12.out (k := w11.heap.size) (Nat.le_refl _) x (k2 + 1))
                        have hit3 := Lib.hid (Lib.iterAt_heap wr w11.heap.size x k2 (k2 + 1) hit2.out)
                        obtain ⟨W2, hW2⟩ : ∃ W2, wr.iterAt w11.heap.size x (k2 + 1) = W2 := ⟨_, rfl⟩
                        rw [hW2] at hnx2 hB13 hit3
                        have hg2 : ((x[k2]'hlt2).toNat : Int) = gb x k2 := (hgx k2 hlt2).symm ▸ rfl
                        have HG2 := Lib.hid hg2
                        have HA := Lib.hid ha1
                        have hBW := Lib.hid (hB11.out.trans (hB13.out.mono hB11.out.size))
                        clear hW2 ha1
                        by_cases hd : digC (x[k2]'hlt2)
                        · have hd1 : 48 ≤ gb x k2 := by have := hd.1; omega
                          have hd2 : gb x k2 ≤ 57 := by have := hd.2; omega
                          have hdg2 : Hid (∀ c ∈ x.data.toList.take (k2 + 1), digC c) := Lib.hid (by
                            obtain ⟨c, ht, -, hg, -⟩ := take_succ_gb x hlt2
                            intro d hdm
                            rw [ht, List.mem_append] at hdm
                            rcases hdm with hdm | hdm
                            · exact hdg.out d hdm
                            · obtain rfl := List.mem_singleton.1 hdm
                              exact ⟨by omega, by omega⟩)
                          clear hd hg2
                          go_wp2
                          go_roundw
                          case rel => exact ⟨rfl, k2 + 1, by omega, hit3, hB13, hdg2⟩
                          case measure => simp only [World.iterPos, hit2.out, hit3.out]; omega
                        · have HNT := Lib.hid (HYES.out fun h => hd (HTB.out.2 h _ (byte_mem x k2 hlt2)))
                          by_cases hd1 : 48 ≤ gb x k2
                          · have hd2 : 57 < gb x k2 := by
                              have h9 : ¬ (x[k2]'hlt2).toNat ≤ 57 := fun h => hd ⟨by omega, h⟩
                              omega
                            clear hd hg2
                            go_wp2
                            go_ret
                            exact ⟨true, HNT.out, .inl ⟨rfl, rfl, hBW.out⟩⟩
                          · clear hd hg2
                            go_wp2
                            go_ret
                            exact ⟨true, HNT.out, .inl ⟨rfl, rfl, hBW.out⟩⟩
                      · have hnx2 : ∀ ty, (Instr.next (.pointer (some ⟨w11.heap.size, 0, none⟩)) true ty).run Tryf.prog wr = _ := fun ty => Lib.run_next_end_at wr w11.heap.size x k2 ty hit2.out hlt2
                        have hall := hdg.out
                        rw [List.take_of_length_le (by rw [len_size]; omega)] at hall
                        have HNO2 := Lib.hid (HNO.out (HTB.out.1 hall))
                        have hBW := Lib.hid (hB11.out.trans (hB12.out.mono hB11.out.size))
                        clear hall
                        go_wp2_with (go_at_call 55; refine (errorf_none _ (by simp) _).mono ?_; rintro e w9 ⟨a9, t9, rfl, hc9, hb9⟩)
                        go_ret
                        exact post_no (fun _ h => HNO2.out h) (ErrS.mono ⟨a9, t9, rfl, hc9, hb9⟩ hBW.out)
                  · have q2 : ¬ lastI 126 t.data.toList < (t.size : Int) - 1 := q1
                    have HLB := Lib.hid fun W => lastByte_at t 126 _ (by omega) rfl W
                    have HNT := Lib.hid (HYES.out fun h => q2 (by rw [← HT]; exact h.2.1))
                    obtain ⟨m, hm⟩ : ∃ m : Int, lastI 126 t.data.toList = m := ⟨_, rfl⟩
                    rw [hm] at HLB q0 q1 q2
                    clear hl0 hl1 hm
                    go_wp2_with (go_at_call 78; refine (HLB.out _).mono ?_; rintro e w11 ⟨rfl, hb11⟩)
                    go_ret
                    exact ⟨true, HNT.out, .inl ⟨rfl, rfl, hB9.out.trans (hb11.mono hB9.out.size)⟩⟩
                · have HLB := Lib.hid fun W => lastByte_at t 126 _ (by omega) rfl W
                  have HNT := Lib.hid (HYES.out fun h => q0 h.1)
                  obtain ⟨m, hm⟩ : ∃ m : Int, lastI 126 t.data.toList = m := ⟨_, rfl⟩
                  rw [hm] at HLB q0
                  clear hl0 hl1 hm
                  go_wp2_with (go_at_call 78; refine (HLB.out _).mono ?_; rintro e w11 ⟨rfl, hb11⟩)
                  go_ret
                  exact ⟨true, HNT.out, .inl ⟨rfl, rfl, hB9.out.trans (hb11.mono hB9.out.size)⟩⟩

)

end Go.Proofs.YtpbebckhemnooaaFmt.PS

namespace Go.Proofs.YtpbebckhemnooaaFmt.PS
open Go.RowKit Go.Proofs.YtpbebckhemnooaaFmtW.PrintWords Go.Proofs.YtpbebckhemnooaaFmtW.PrintLast Go.Proofs.YtpbebckhemnooaaFmtW.PrintMore
set_option linter.unusedVariables false
set_option linter.unusedSimpArgs false

set_option maxHeartbeats 1600000 in
theorem elem1_empty (s : ByteArray) (w : World) (h0 : s.size = 0) :
    Calls Tryf.prog 53 #[.string s, .int .i64 1] w (ElemPost w 1 s.data.toList) := by
  have h1 : s.toList = [] := by rw [Lib.toList_data]; exact data_eq_nil h0
  have HD := Lib.hid (data_eq_nil h0)
  clear h0
  go_enter Tryf.func53, Tryf.ntmps53
  go_wp2_with (go_at_call 55; refine (errorf_none _ (by simp) _).mono ?_; rintro e w9 ⟨a9, t9, rfl, hc9, hb9⟩)
  go_ret
  exact post_no (fun _ h => h.1 HD.out) ⟨a9, t9, rfl, hc9, hb9⟩

theorem fmtElem1 : Fmt1 ⟨#[105, 110, 118, 97, 108, 105, 100, 32, 112, 97, 116, 104, 32, 101, 108, 101, 109, 101, 110, 116, 32, 37, 113]⟩ 113 := fun w => by kernel_rfl
theorem fmtChar1 : Fmt1 ⟨#[105, 110, 118, 97, 108, 105, 100, 32, 99, 104, 97, 114, 32, 37, 113]⟩ 113 := fun w => by kernel_rfl
theorem fmtName1 : Fmt1 ⟨#[37, 113, 32, 100, 105, 115, 97, 108, 108, 111, 119, 101, 100, 32, 97, 115, 32, 112, 97, 116, 104, 32, 101, 108, 101, 109, 101, 110, 116, 32, 99, 111, 109, 112, 111, 110, 101, 110, 116, 32, 111, 110, 32, 87, 105, 110, 100, 111, 119, 115]⟩ 113 := fun w => by kernel_rfl

set_option maxHeartbeats 1600000 in
theorem elem1_dots (F : Stop.Interp) (s : ByteArray) (hs : s.size ≤ 1099511627776) (w : World) (hF : F.answers w.tape) (h0 : 0 < s.size) (h1 : dots s.data.toList = s.size) :
    Calls Tryf.prog 53 #[.string s, .int .i64 1] w (ElemPost w 1 s.data.toList) := by
  have h2 : ¬ s.toList = [] := by rw [Lib.toList_data]; exact data_ne_nil h0
  have h3 : (s.toList == []) = false := by simpa using h2
  have H1 := Lib.hid h1
  have h4 : ((dots s.data.toList : Int) == (s.size : Int)) = true := by rw [h1]; simp
  clear h1
  go_enter Tryf.func53, Tryf.ntmps53
  go_wp2_with (first
    | (go_at_call 72; refine (zzCount_dot s hs _).mono ?_; rintro e w5 ⟨rfl, rfl⟩)
    | (go_at_call 55; refine (errorf_str F _ s _ _ (by exact hF) fmtElem1 (by go_simp)).mono ?_; rintro e w9 ⟨a9, t9, rfl, hc9, hb9⟩))
  go_ret
  exact post_no (fun _ h => h.2.1 (by rw [H1.out, len_size])) (ErrS.mono ⟨a9, t9, rfl, hc9, hb9⟩ ((Below.refl _ _).alloc (Nat.le_refl _) _))

set_option maxHeartbeats 1600000 in
theorem elem1_last (F : Stop.Interp) (s : ByteArray) (hs : s.size ≤ 1099511627776) (w : World) (hF : F.answers w.tape) (h0 : 0 < s.size) (h1 : dots s.data.toList ≠ s.size) (h2 : gb s (s.size - 1) = 46) :
    Calls Tryf.prog 53 #[.string s, .int .i64 1] w (ElemPost w 1 s.data.toList) := by
  have a1 : ¬ s.toList = [] := by rw [Lib.toList_data]; exact data_ne_nil h0
  have a2 : (s.toList == []) = false := by simpa using a1
  have a3 : ((dots s.data.toList : Int) == (s.size : Int)) = false := by simp; omega
  have a4 : (gb s (s.size - 1) == 46) = true := by simpa using h2
  have hgb := get_gb s
  have H2 := Lib.hid h2
  clear h1 h2
  go_enter Tryf.func53, Tryf.ntmps53
  go_wp2_with (first
    | (go_at_call 72; refine (zzCount_dot s hs _).mono ?_; rintro e w5 ⟨rfl, rfl⟩)
    | (go_at_call 55; refine (errorf_none _ (by simp) _).mono ?_; rintro e w9 ⟨a9, t9, rfl, hc9, hb9⟩))
  all_goals (go_ret; exact post_no (fun _ h => h.2.2.2.1 (by rw [len_size]; exact H2.out)) ⟨a9, t9, rfl, hc9, hb9⟩)

set_option maxHeartbeats 6000000 in
set_option maxRecDepth 100000 in
theorem elem1_main (F : Stop.Interp) (s : ByteArray) (hs : s.size ≤ 1099511627776) (w : World) (hF : F.answers w.tape) (hN : NamesIn w)
    (h0 : 0 < s.size) (h1 : dots s.data.toList ≠ s.size) (h2 : gb s (s.size - 1) ≠ 46) :
    Calls Tryf.prog 53 #[.string s, .int .i64 1] w (ElemPost w 1 s.data.toList) := by
  have a1 : ¬ s.toList = [] := by rw [Lib.toList_data]; exact data_ne_nil h0
  have a2 : (s.toList == []) = false := by simpa using a1
  have a3 : ((dots s.data.toList : Int) == (s.size : Int)) = false := by simp; omega
  have a4 : (gb s (s.size - 1) == 46) = false := by simpa using h2
  have hgb := get_gb s
  have H1 := Lib.hid h1
  have H2 := Lib.hid h2
  have HN := Lib.hid hN

  clear h1 h2 hN
  go_enter Tryf.func53, Tryf.ntmps53
  go_wp2_with (go_at_call 72; refine (zzCount_dot s hs _).mono ?_; rintro e w5 ⟨rfl, rfl⟩)
  all_goals (
      go_loopw [] (fun wr => ∃ k : Nat, k ≤ s.size ∧ Hid (wr.heap[w.heap.size]? = some (.stringIter s k)) ∧ Hid (Below w.heap.size w wr) ∧ Hid (CharsTo 1 s.data.toList k)) (fun wr => s.size - wr.iterPos w.heap.size)
      case atStart => exact ⟨0, Nat.zero_le _, Lib.hid (World.iter_heap w s 0), Lib.hid ((Below.refl _ _).alloc (Nat.le_refl _) _), Lib.hid (CharsTo.nil _ _)⟩
      case round =>
        obtain ⟨k, hk, hit, hB, hno⟩ := hrel
        have hFr := Lib.hid (below_tape hF hB.out)
        by_cases hlt : k < s.size
        · by_cases ha1 : (s[k]'hlt).toNat < 128
          · have hnx : ∀ ty, (Instr.next (.pointer (some ⟨w.heap.size, 0, none⟩)) true ty).run Tryf.prog wr = _ := fun ty => Lib.run_next_ascii_at wr w.heap.size s k ty hit.out hlt ha1
            have hB2 := Lib.hid (Lib.below_iterAt hB.out (k := w.heap.size) (Nat.le_refl _) s (k + 1))
            have hit2 := Lib.hid (Lib.iterAt_heap wr w.heap.size s k (k + 1) hit.out)
            have hF2 := below_tape hF hB2.out
            obtain ⟨W1, hW1⟩ : ∃ W1, wr.iterAt w.heap.size s (k + 1) = W1 := ⟨_, rfl⟩
            rw [hW1] at hnx hB2 hit2 hF2
            have hg : ((s[k]'hlt).toNat : Int) = gb s k := (hgb k hlt).symm ▸ rfl
            have HA := Lib.hid ha1
            clear hW1 ha1
            by_cases hc : (modI (gb s k) || gb s k == 43) = true
            · have hno2 := Lib.hid (CharsTo.succ hno.out hlt HA.out (by rw [hg]; exact hc))
              go_wp2_with (go_at_call 74; refine (imp_any _ _).mono ?_; rintro e w5 ⟨rfl, hb5⟩)
              have hit3 : Hid (w5.heap[w.heap.size]? = some (.stringIter s (k + 1))) := Lib.hid (by rw [hb5.block _ ((Array.getElem?_eq_some_iff.1 hit2.out).1)]; exact hit2.out)
              have hB3 := Lib.hid (hB2.out.trans (hb5.mono hB2.out.size))
              go_roundw
              case rel => exact ⟨k + 1, by omega, hit3, hB3, hno2⟩
              case measure => simp only [World.iterPos, hit.out, hit3.out]; omega
            · have hc2 : (modI (gb s k) || gb s k == 43) = false := by simpa using hc
              have HC := Lib.hid (show ¬ (asc s.data.toList → ∀ c ∈ s.data.toList, charI 1 (c.toNat : Int) = true) ∨ True from .inr trivial)
              have HX : Hid (asc s.data.toList → ¬ ElemOK 1 s.data.toList) := Lib.hid fun _ h => by have := h.2.2.2.2.1 _ (byte_mem s k hlt); rw [hg] at this; exact hc this
              clear hc HC
              go_wp2_with (first
                | (go_at_call 74; refine (imp_any _ _).mono ?_; rintro e w5 ⟨rfl, hb5⟩)
                | (go_at_call 55; refine (errorf_rune F _ (gb s k) _ _ (by have := below_tape hF2 hb5; exact this) fmtChar1 (by go_simp)).mono ?_; rintro e w9 ⟨a9, t9, rfl, hc9, hb9⟩))
              go_ret
              exact post_no HX.out (ErrS.mono ⟨a9, t9, rfl, hc9, hb9⟩ (hB2.out.trans ((hb5.mono hB2.out.size).trans ((Below.refl _ _).alloc (Nat.le_trans hB2.out.size hb5.size) _))))
          · have hnx : ∀ ty, (Instr.next (.pointer (some ⟨w.heap.size, 0, none⟩)) true ty).run Tryf.prog wr = _ := fun ty => Lib.run_next_any_at wr w.heap.size s k ty hit.out hlt
            obtain ⟨hr1, hd1⟩ := decode_high s k hlt (by omega)
            obtain ⟨r, hr⟩ : ∃ r, (Utf8.decode s k).1 = r := ⟨_, rfl⟩
            obtain ⟨dd, hdd⟩ : ∃ dd, (Utf8.decode s k).2 = dd := ⟨_, rfl⟩
            have hrm := decode_small s k
            rw [hr] at hr1 hnx hrm
            rw [hdd] at hd1 hnx
            have hB2 := Lib.hid (Lib.below_iterAt hB.out (k := w.heap.size) (Nat.le_refl _) s (k + dd))
            have hit2 := Lib.hid (Lib.iterAt_heap wr w.heap.size s k (k + dd) hit.out)
            have hF2 := below_tape hF hB2.out
            obtain ⟨W1, hW1⟩ : ∃ W1, wr.iterAt w.heap.size s (k + dd) = W1 := ⟨_, rfl⟩
            rw [hW1] at hnx hB2 hit2 hF2
            have HX : Hid (¬ asc s.data.toList) := Lib.hid fun h => ha1 (h _ (byte_mem s k hlt))
            clear hW1 ha1 hr hdd
            have hc2 : (modI ((r : Int)) || (r : Int) == 43) = false := by simp [modI]; omega
            go_wp2_with (first
              | (go_at_call 74; refine (imp_any _ _).mono ?_; rintro e w5 ⟨rfl, hb5⟩)
              | (go_at_call 55; refine (errorf_rune F _ (r : Int) _ _ (by have := below_tape hF2 hb5; exact this) fmtChar1 (by go_simp)).mono ?_; rintro e w9 ⟨a9, t9, rfl, hc9, hb9⟩))
            go_ret
            exact post_no (fun h => absurd h HX.out) (ErrS.mono ⟨a9, t9, rfl, hc9, hb9⟩ (hB2.out.trans ((hb5.mono hB2.out.size).trans ((Below.refl _ _).alloc (Nat.le_trans hB2.out.size hb5.size) _))))
        · have hall := CharsTo.all hno.out (by rw [len_size]; omega)
          have hlast := Lib.hid hall
          clear hall hno
          have hnx : ∀ ty, (Instr.next (.pointer (some ⟨w.heap.size, 0, none⟩)) true ty).run Tryf.prog wr = _ := fun ty => Lib.run_next_end_at wr w.heap.size s k ty hit.out hlt
          have hNr := HN.out.below hB.out
          obtain ⟨nb, no, cap, hN1, hN2⟩ := hNr
          have HN2 := Lib.hid hN2
          clear hN2
          have hB6 := hB
          cases hx : idxL [46] s.data.toList with
          | none =>
            have HZ := Lib.hid (idx_none s hs hx)
            have HS := Lib.hid ((idx_short s.data.toList).2 hx).symm
            clear hx
            go_wp2_with (go_at_call 63; refine (HZ.out _).mono ?_; rintro e w6 ⟨rfl, hb6⟩; have hN1' := (hb6.cell (World.block_lt_of_cell? _ _ hN1)).trans hN1)
            have hB7 := Lib.hid (hB.out.trans (hb6.mono hB.out.size))
            have HF := Lib.hid (FoldOK.ascii w s (by rw [HS.out]; exact fun c hc => hlast.out.2 (by decide) c (shortL_sub _ c hc)))
            have hN7 : Hid (∀ j, j < 22 → w6.cell? ⟨nb, no + j, none⟩ = some (.string (nameB j))) := Lib.hid fun j hj => (hb6.cell (World.block_lt_of_cell? _ _ (HN2.out j hj))).trans (HN2.out j hj)
            go_loopw [83] (fun x w8 => ∃ j : Nat, j ≤ 22 ∧ x = .int .i64 j ∧ Hid (Below w6.heap.size w6 w8) ∧ Hid (Names s j)) (fun x _ => 22 - (intOf x).toNat)
            case atStart => exact ⟨0, by omega, rfl, Lib.hid (Below.refl _ _), Lib.hid (Names.nil _)⟩
            case round =>
              obtain ⟨j, hj, rfl, hB8, hnm⟩ := hrel
              by_cases hj2 : j < 22
              · have hc : ∃ a, w6.cell? ⟨nb, no + j, none⟩ = some a ∧ a = .string (nameB j) := ⟨_, hN7.out j hj2, rfl⟩
                have hcw : wr.cell? ⟨nb, no + j, none⟩ = some (.string (nameB j)) := (hB8.out.cell (World.block_lt_of_cell? _ _ (hN7.out j hj2))).trans (hN7.out j hj2)
                clear hc
                have HC := Lib.hid (HF.out wr (hB7.out.trans (hB8.out.mono hB7.out.size)) j hj2)
                have hF8 := below_tape hF (hB7.out.trans (hB8.out.mono hB7.out.size))
                go_wp2_with (first
                  | (go_at_call 77; refine HC.out.mono ?_; rintro e w10 ⟨b, rfl, hb, hb10⟩)
                  | (go_at_call 55; refine (errorf_str F _ s _ _ (by have := below_tape hF8 hb10; exact this) fmtName1 (by go_simp)).mono ?_; rintro e w9 ⟨a9, t9, rfl, hc9, hb9⟩))
                · go_ret
                  have hbt : b = true := by assumption
                  rw [hbt] at hb
                  have hbad : asc s.data.toList → ¬ ElemOK 1 s.data.toList := fun ha h => h.2.2.2.2.2.1 ⟨j, hj2, by rw [← HS.out]; exact (hb (by rw [HS.out]; exact fun c hc => ha c (shortL_sub _ c hc))).symm⟩
                  exact post_no hbad (ErrS.mono ⟨a9, t9, rfl, hc9, hb9⟩ ((hB7.out.trans (hB8.out.mono hB7.out.size)).trans ((hb10.mono (Nat.le_trans hB7.out.size hB8.out.size)).trans ((Below.refl _ _).alloc (Nat.le_trans hB7.out.size (Nat.le_trans hB8.out.size hb10.size)) _))))
                · have hbf : b = false := by first | assumption | simpa using ‹¬ b = true›
                  rw [hbf] at hb
                  go_roundw
                  case rel => exact ⟨j + 1, by omega, by go_num, Lib.hid (hB8.out.trans (hb10.mono hB8.out.size)), Lib.hid (Names.succ hnm.out hb)⟩
                  case measure => simp [intOf]; omega
              · obtain rfl : j = 22 := by omega
                have HM := hnm
                clear hj hj2
                have hB9 := Lib.hid (hB7.out.trans (hB8.out.mono hB7.out.size))
                have hlen : s.size ≤ s.size := by first | exact Nat.le_refl _ | (have := shortL_len s.data.toList; rw [← HS.out, len_size, len_size] at this; exact this)
                have hnb : ¬ badN s.data.toList := fun ⟨i, hi, h⟩ => by have := hnm.out (by rw [HS.out]; exact fun c hc => hlast.out.2 (by decide) c (shortL_sub _ c hc)) i hi; rw [h] at this; cases this
                have HNB := Lib.hid hnb
                have hat : asc s.data.toList := by rw [HS.out]; exact fun c hc => hlast.out.2 (by decide) c (shortL_sub _ c hc)
                have HAT := Lib.hid hat
                have hyes : (¬ tildeBad s.data.toList) → EB 1 s.data.toList true := fun h => ⟨fun ha => ⟨fun _ => ⟨data_ne_nil h0, by rw [len_size]; exact H1.out, fun h => absurd h.2 (by decide), by rw [len_size]; exact H2.out, hlast.out.1 ha, by rw [← HS.out]; exact HNB.out, .inr (by rw [← HS.out]; exact h)⟩, fun _ => rfl⟩, fun h => absurd (hlast.out.2 (by decide)) h⟩
                have HYES := Lib.hid hyes
                have hno3 : tildeBad s.data.toList → ElemOK 1 s.data.toList → False := fun h h2 => h2.2.2.2.2.2.2.elim (by decide) fun h3 => h3 (by rw [← HS.out]; exact h)
                have HNO := Lib.hid hno3
                have HT : s.data.toList.length = s.size := len_size s
                clear hnb hat hyes hno3
                obtain ⟨hl0, hl1⟩ := lastI_range 126 s.data.toList
                by_cases q0 : 0 ≤ lastI 126 s.data.toList
                · by_cases q1 : lastI 126 s.data.toList < (s.size : Int) - 1
                  · obtain ⟨m, hm⟩ : ∃ m : Nat, lastI 126 s.data.toList = m := ⟨(lastI 126 s.data.toList).toNat, by omega⟩
                    have HM2 := Lib.hid hm
                    have hq : (m : Int) < (s.size : Int) - 1 := by omega
                    have HLB := Lib.hid fun W => lastByte_at s 126 (m : Int) (by omega) hm W
                    obtain ⟨x, hxe⟩ : ∃ x, s.extract (m + 1) s.size = x := ⟨_, rfl⟩
                    have hxd : x.data.toList = s.data.toList.drop (m + 1) := by rw [← hxe]; exact extract_drop s (m + 1)
                    have hxs : x.size = s.size - (m + 1) := by rw [← len_size, hxd, List.length_drop, HT]
                    have hxa : asc x.data.toList := by rw [hxd]; exact fun c hc => HAT.out c ((List.drop_sublist _ _).subset hc)
                    have HXA := Lib.hid hxa
                    have htb : (∀ c ∈ x.data.toList, digC c) ↔ tildeBad s.data.toList := by
                      unfold tildeBad
                      rw [hxd, hm, HT]
                      exact ⟨fun h => ⟨by omega, by omega, by simpa using h⟩, fun h => by simpa using h.2.2⟩
                    have HTB := Lib.hid htb
                    have hgx := get_gb x
                    clear q0 q1 hl0 hl1 hm hxd hxa htb
                    go_wp2_with (go_at_call 78; refine (HLB.out _).mono ?_; rintro e w11 ⟨rfl, hb11⟩)
                    have hB11 := Lib.hid (hB9.out.trans (hb11.mono hB9.out.size))
                    go_loopw [14] (fun y w12 => y = .bool true ∧ ∃ k : Nat, k ≤ x.size ∧ Hid (w12.heap[w11.heap.size]? = some (.stringIter x k)) ∧ Hid (Below w11.heap.size w11 w12) ∧ Hid (∀ c ∈ x.data.toList.take k, digC c)) (fun _ w12 => x.size - w12.iterPos w11.heap.size)
                    case atStart => exact ⟨rfl, 0, Nat.zero_le _, Lib.hid (World.iter_heap w11 x 0), Lib.hid ((Below.refl _ _).alloc (Nat.le_refl _) _), Lib.hid (fun c hc => by simp at hc)⟩
                    case round =>
                      obtain ⟨rfl, k2, hk2, hit2, hB12, hdg⟩ := hrel
                      by_cases hlt2 : k2 < x.size
                      · have ha1 := gb_ascii HXA.out k2 hlt2
                        have hnx2 : ∀ ty, (Instr.next (.pointer (some ⟨w11.heap.size, 0, none⟩)) true ty).run Tryf.prog wr = _ := fun ty => Lib.run_next_ascii_at wr w11.heap.size x k2 ty hit2.out hlt2 ha1
                        have hB13 := Lib.hid (Lib.below_iterAt hB12.out (k := w11.heap.size) (Nat.le_refl _) x (k2 + 1))
                        have hit3 := Lib.hid (Lib.iterAt_heap wr w11.heap.size x k2 (k2 + 1) hit2.out)
                        obtain ⟨W2, hW2⟩ : ∃ W2, wr.iterAt w11.heap.size x (k2 + 1) = W2 := ⟨_, rfl⟩
                        rw [hW2] at hnx2 hB13 hit3
                        have hg2 : ((x[k2]'hlt2).toNat : Int) = gb x k2 := (hgx k2 hlt2).symm ▸ rfl
                        have HG2 := Lib.hid hg2
                        have HA := Lib.hid ha1
                        have hBW := Lib.hid (hB11.out.trans (hB13.out.mono hB11.out.size))
                        clear hW2 ha1
                        by_cases hd : digC (x[k2]'hlt2)
                        · have hd1 : 48 ≤ gb x k2 := by have := hd.1; omega
                          have hd2 : gb x k2 ≤ 57 := by have := hd.2; omega
                          have hdg2 : Hid (∀ c ∈ x.data.toList.take (k2 + 1), digC c) := Lib.hid (by
                            obtain ⟨c, ht, -, hg, -⟩ := take_succ_gb x hlt2
                            intro d hdm
                            rw [ht, List.mem_append] at hdm
                            rcases hdm with hdm | hdm
                            · exact hdg.out d hdm
                            · obtain rfl := List.mem_singleton.1 hdm
                              exact ⟨by omega, by omega⟩)
                          clear hd hg2
                          go_wp2
                          go_roundw
                          case rel => exact ⟨rfl, k2 + 1, by omega, hit3, hB13, hdg2⟩
                          case measure => simp only [World.iterPos, hit2.out, hit3.out]; omega
                        · have HNT := Lib.hid (HYES.out fun h => hd (HTB.out.2 h _ (byte_mem x k2 hlt2)))
                          by_cases hd1 : 48 ≤ gb x k2
                          · have hd2 : 57 < gb x k2 := by
                              have h9 : ¬ (x[k2]'hlt2).toNat ≤ 57 := fun h => hd ⟨by omega, h⟩
                              omega
                            clear hd hg2
                            go_wp2
                            go_ret
                            exact ⟨true, HNT.out, .inl ⟨rfl, rfl, hBW.out⟩⟩
                          · clear hd hg2
                            go_wp2
                            go_ret
                            exact ⟨true, HNT.out, .inl ⟨rfl, rfl, hBW.out⟩⟩
                      · have hnx2 : ∀ ty, (Instr.next (.pointer (some ⟨w11.heap.size, 0, none⟩)) true ty).run Tryf.prog wr = _ := fun ty => Lib.run_next_end_at wr w11.heap.size x k2 ty hit2.out hlt2
                        have hall := hdg.out
                        rw [List.take_of_length_le (by rw [len_size]; omega)] at hall
                        have HNO2 := Lib.hid (HNO.out (HTB.out.1 hall))
                        have hBW := Lib.hid (hB11.out.trans (hB12.out.mono hB11.out.size))
                        clear hall
                        go_wp2_with (go_at_call 55; refine (errorf_none _ (by simp) _).mono ?_; rintro e w9 ⟨a9, t9, rfl, hc9, hb9⟩)
                        go_ret
                        exact post_no (fun _ h => HNO2.out h) (ErrS.mono ⟨a9, t9, rfl, hc9, hb9⟩ hBW.out)
                  · have q2 : ¬ lastI 126 s.data.toList < (s.size : Int) - 1 := q1
                    have HLB := Lib.hid fun W => lastByte_at s 126 _ (by omega) rfl W
                    have HNT := Lib.hid (HYES.out fun h => q2 (by rw [← HT]; exact h.2.1))
                    obtain ⟨m, hm⟩ : ∃ m : Int, lastI 126 s.data.toList = m := ⟨_, rfl⟩
                    rw [hm] at HLB q0 q1 q2
                    clear hl0 hl1 hm
                    go_wp2_with (go_at_call 78; refine (HLB.out _).mono ?_; rintro e w11 ⟨rfl, hb11⟩)
                    go_ret
                    exact ⟨true, HNT.out, .inl ⟨rfl, rfl, hB9.out.trans (hb11.mono hB9.out.size)⟩⟩
                · have HLB := Lib.hid fun W => lastByte_at s 126 _ (by omega) rfl W
                  have HNT := Lib.hid (HYES.out fun h => q0 h.1)
                  obtain ⟨m, hm⟩ : ∃ m : Int, lastI 126 s.data.toList = m := ⟨_, rfl⟩
                  rw [hm] at HLB q0
                  clear hl0 hl1 hm
                  go_wp2_with (go_at_call 78; refine (HLB.out _).mono ?_; rintro e w11 ⟨rfl, hb11⟩)
                  go_ret
                  exact ⟨true, HNT.out, .inl ⟨rfl, rfl, hB9.out.trans (hb11.mono hB9.out.size)⟩⟩

          | some i =>
            have HZ := Lib.hid (idx_some s hs hx)
            obtain ⟨hx1, hx2⟩ := (idx_short s.data.toList).1 i hx
            obtain ⟨t, hte⟩ : ∃ t, s.extract 0 i = t := ⟨_, rfl⟩
            have HS := Lib.hid (show t.data.toList = shortL s.data.toList by rw [← hte, ← hx1]; exact extract_take s i)
            rw [len_size] at hx2
            clear hx hx1
            go_wp2_with (go_at_call 63; refine (HZ.out _).mono ?_; rintro e w6 ⟨rfl, hb6⟩; have hN1' := (hb6.cell (World.block_lt_of_cell? _ _ hN1)).trans hN1)
            have hB7 := Lib.hid (hB.out.trans (hb6.mono hB.out.size))
            have HF := Lib.hid (FoldOK.ascii w t (by rw [HS.out]; exact fun c hc => hlast.out.2 (by decide) c (shortL_sub _ c hc)))
            have hN7 : Hid (∀ j, j < 22 → w6.cell? ⟨nb, no + j, none⟩ = some (.string (nameB j))) := Lib.hid fun j hj => (hb6.cell (World.block_lt_of_cell? _ _ (HN2.out j hj))).trans (HN2.out j hj)
            go_loopw [83] (fun x w8 => ∃ j : Nat, j ≤ 22 ∧ x = .int .i64 j ∧ Hid (Below w6.heap.size w6 w8) ∧ Hid (Names t j)) (fun x _ => 22 - (intOf x).toNat)
            case atStart => exact ⟨0, by omega, rfl, Lib.hid (Below.refl _ _), Lib.hid (Names.nil _)⟩
            case round =>
              obtain ⟨j, hj, rfl, hB8, hnm⟩ := hrel
              by_cases hj2 : j < 22
              · have hc : ∃ a, w6.cell? ⟨nb, no + j, none⟩ = some a ∧ a = .string (nameB j) := ⟨_, hN7.out j hj2, rfl⟩
                have hcw : wr.cell? ⟨nb, no + j, none⟩ = some (.string (nameB j)) := (hB8.out.cell (World.block_lt_of_cell? _ _ (hN7.out j hj2))).trans (hN7.out j hj2)
                clear hc
                have HC := Lib.hid (HF.out wr (hB7.out.trans (hB8.out.mono hB7.out.size)) j hj2)
                have hF8 := below_tape hF (hB7.out.trans (hB8.out.mono hB7.out.size))
                go_wp2_with (first
                  | (go_at_call 77; refine HC.out.mono ?_; rintro e w10 ⟨b, rfl, hb, hb10⟩)
                  | (go_at_call 55; refine (errorf_str F _ t _ _ (by have := below_tape hF8 hb10; exact this) fmtName1 (by go_simp)).mono ?_; rintro e w9 ⟨a9, t9, rfl, hc9, hb9⟩))
                · go_ret
                  have hbt : b = true := by assumption
                  rw [hbt] at hb
                  have hbad : asc s.data.toList → ¬ ElemOK 1 s.data.toList := fun ha h => h.2.2.2.2.2.1 ⟨j, hj2, by rw [← HS.out]; exact (hb (by rw [HS.out]; exact fun c hc => ha c (shortL_sub _ c hc))).symm⟩
                  exact post_no hbad (ErrS.mono ⟨a9, t9, rfl, hc9, hb9⟩ ((hB7.out.trans (hB8.out.mono hB7.out.size)).trans ((hb10.mono (Nat.le_trans hB7.out.size hB8.out.size)).trans ((Below.refl _ _).alloc (Nat.le_trans hB7.out.size (Nat.le_trans hB8.out.size hb10.size)) _))))
                · have hbf : b = false := by first | assumption | simpa using ‹¬ b = true›
                  rw [hbf] at hb
                  go_roundw
                  case rel => exact ⟨j + 1, by omega, by go_num, Lib.hid (hB8.out.trans (hb10.mono hB8.out.size)), Lib.hid (Names.succ hnm.out hb)⟩
                  case measure => simp [intOf]; omega
              · obtain rfl : j = 22 := by omega
                have HM := hnm
                clear hj hj2
                have hB9 := Lib.hid (hB7.out.trans (hB8.out.mono hB7.out.size))
                have hlen : t.size ≤ s.size := by first | exact Nat.le_refl _ | (have := shortL_len s.data.toList; rw [← HS.out, len_size, len_size] at this; exact this)
                have hnb : ¬ badN t.data.toList := fun ⟨i, hi, h⟩ => by have := hnm.out (by rw [HS.out]; exact fun c hc => hlast.out.2 (by decide) c (shortL_sub _ c hc)) i hi; rw [h] at this; cases this
                have HNB := Lib.hid hnb
                have hat : asc t.data.toList := by rw [HS.out]; exact fun c hc => hlast.out.2 (by decide) c (shortL_sub _ c hc)
                have HAT := Lib.hid hat
                have hyes : (¬ tildeBad t.data.toList) → EB 1 s.data.toList true := fun h => ⟨fun ha => ⟨fun _ => ⟨data_ne_nil h0, by rw [len_size]; exact H1.out, fun h => absurd h.2 (by decide), by rw [len_size]; exact H2.out, hlast.out.1 ha, by rw [← HS.out]; exact HNB.out, .inr (by rw [← HS.out]; exact h)⟩, fun _ => rfl⟩, fun h => absurd (hlast.out.2 (by decide)) h⟩
                have HYES := Lib.hid hyes
                have hno3 : tildeBad t.data.toList → ElemOK 1 s.data.toList → False := fun h h2 => h2.2.2.2.2.2.2.elim (by decide) fun h3 => h3 (by rw [← HS.out]; exact h)
                have HNO := Lib.hid hno3
                have HT : t.data.toList.length = t.size := len_size t
                clear hnb hat hyes hno3
                obtain ⟨hl0, hl1⟩ := lastI_range 126 t.data.toList
                by_cases q0 : 0 ≤ lastI 126 t.data.toList
                · by_cases q1 : lastI 126 t.data.toList < (t.size : Int) - 1
                  · obtain ⟨m, hm⟩ : ∃ m : Nat, lastI 126 t.data.toList = m := ⟨(lastI 126 t.data.toList).toNat, by omega⟩
                    have HM2 := Lib.hid hm
                    have hq : (m : Int) < (t.size : Int) - 1 := by omega
                    have HLB := Lib.hid fun W => lastByte_at t 126 (m : Int) (by omega) hm W
                    obtain ⟨x, hxe⟩ : ∃ x, t.extract (m + 1) t.size = x := ⟨_, rfl⟩
                    have hxd : x.data.toList = t.data.toList.drop (m + 1) := by rw [← hxe]; exact extract_drop t (m + 1)
                    have hxs : x.size = t.size - (m + 1) := by rw [← len_size, hxd, List.length_drop, HT]
                    have hxa : asc x.data.toList := by rw [hxd]; exact fun c hc => HAT.out c ((List.drop_sublist _ _).subset hc)
                    have HXA := Lib.hid hxa
                    have htb : (∀ c ∈ x.data.toList, digC c) ↔ tildeBad t.data.toList := by
                      unfold tildeBad
                      rw [hxd, hm, HT]
                      exact ⟨fun h => ⟨by omega, by omega, by simpa using h⟩, fun h => by simpa using h.2.2⟩
                    have HTB := Lib.hid htb
                    have hgx := get_gb x
                    clear q0 q1 hl0 hl1 hm hxd hxa htb
                    go_wp2_with (go_at_call 78; refine (HLB.out _).mono ?_; rintro e w11 ⟨rfl, hb11⟩)
                    have hB11 := Lib.hid (hB9.out.trans (hb11.mono hB9.out.size))
                    go_loopw [14] (fun y w12 => y = .bool true ∧ ∃ k : Nat, k ≤ x.size ∧ Hid (w12.heap[w11.heap.size]? = some (.stringIter x k)) ∧ Hid (Below w11.heap.size w11 w12) ∧ Hid (∀ c ∈ x.data.toList.take k, digC c)) (fun _ w12 => x.size - w12.iterPos w11.heap.size)
                    case atStart => exact ⟨rfl, 0, Nat.zero_le _, Lib.hid (World.iter_heap w11 x 0), Lib.hid ((Below.refl _ _).alloc (Nat.le_refl _) _), Lib.hid (fun c hc => by simp at hc)⟩
                    case round =>
                      obtain ⟨rfl, k2, hk2, hit2, hB12, hdg⟩ := hrel
                      by_cases hlt2 : k2 < x.size
                      · have ha1 := gb_ascii HXA.out k2 hlt2
                        have hnx2 : ∀ ty, (Instr.next (.pointer (some ⟨w11.heap.size, 0, none⟩)) true ty).run Tryf.prog wr = _ := fun ty => Lib.run_next_ascii_at wr w11.heap.size x k2 ty hit2.out hlt2 ha1
                        have hB13 := Lib.hid (Lib.below_iterAt hB12.out (k := w11.heap.size) (Nat.le_refl _) x (k2 + 1))
                        have hit3 := Lib.hid (Lib.iterAt_heap wr w11.heap.size x k2 (k2 + 1) hit2.out)
                        obtain ⟨W2, hW2⟩ : ∃ W2, wr.iterAt w11.heap.size x (k2 + 1) = W2 := ⟨_, rfl⟩
                        rw [hW2] at hnx2 hB13 hit3
                        have hg2 : ((x[k2]'hlt2).toNat : Int) = gb x k2 := (hgx k2 hlt2).symm ▸ rfl
                        have HG2 := Lib.hid hg2
                        have HA := Lib.hid ha1
                        have hBW := Lib.hid (hB11.out.trans (hB13.out.mono hB11.out.size))
                        clear hW2 ha1
                        by_cases hd : digC (x[k2]'hlt2)
                        · have hd1 : 48 ≤ gb x k2 := by have := hd.1; omega
                          have hd2 : gb x k2 ≤ 57 := by have := hd.2; omega
                          have hdg2 : Hid (∀ c ∈ x.data.toList.take (k2 + 1), digC c) := Lib.hid (by
                            obtain ⟨c, ht, -, hg, -⟩ := take_succ_gb x hlt2
                            intro d hdm
                            rw [ht, List.mem_append] at hdm
                            rcases hdm with hdm | hdm
                            · exact hdg.out d hdm
                            · obtain rfl := List.mem_singleton.1 hdm
                              exact ⟨by omega, by omega⟩)
                          clear hd hg2
                          go_wp2
                          go_roundw
                          case rel => exact ⟨rfl, k2 + 1, by omega, hit3, hB13, hdg2⟩
                          case measure => simp only [World.iterPos, hit2.out, hit3.out]; omega
                        · have HNT := Lib.hid (HYES.out fun h => hd (HTB.out.2 h _ (byte_mem x k2 hlt2)))
                          by_cases hd1 : 48 ≤ gb x k2
                          · have hd2 : 57 < gb x k2 := by
                              have h9 : ¬ (x[k2]'hlt2).toNat ≤ 57 := fun h => hd ⟨by omega, h⟩
                              omega
                            clear hd hg2
                            go_wp2
                            go_ret
                            exact ⟨true, HNT.out, .inl ⟨rfl, rfl, hBW.out⟩⟩
                          · clear hd hg2
                            go_wp2
                            go_ret
                            exact ⟨true, HNT.out, .inl ⟨rfl, rfl, hBW.out⟩⟩
                      · have hnx2 : ∀ ty, (Instr.next (.pointer (some ⟨w11.heap.size, 0, none⟩)) true ty).run Tryf.prog wr = _ := fun ty => Lib.run_next_end_at wr w11.heap.size x k2 ty hit2.out hlt2
                        have hall := hdg.out
                        rw [List.take_of_length_le (by rw [len_size]; omega)] at hall
                        have HNO2 := Lib.hid (HNO.out (HTB.out.1 hall))
                        have hBW := Lib.hid (hB11.out.trans (hB12.out.mono hB11.out.size))
                        clear hall
                        go_wp2_with (go_at_call 55; refine (errorf_none _ (by simp) _).mono ?_; rintro e w9 ⟨a9, t9, rfl, hc9, hb9⟩)
                        go_ret
                        exact post_no (fun _ h => HNO2.out h) (ErrS.mono ⟨a9, t9, rfl, hc9, hb9⟩ hBW.out)
                  · have q2 : ¬ lastI 126 t.data.toList < (t.size : Int) - 1 := q1
                    have HLB := Lib.hid fun W => lastByte_at t 126 _ (by omega) rfl W
                    have HNT := Lib.hid (HYES.out fun h => q2 (by rw [← HT]; exact h.2.1))
                    obtain ⟨m, hm⟩ : ∃ m : Int, lastI 126 t.data.toList = m := ⟨_, rfl⟩
                    rw [hm] at HLB q0 q1 q2
                    clear hl0 hl1 hm
                    go_wp2_with (go_at_call 78; refine (HLB.out _).mono ?_; rintro e w11 ⟨rfl, hb11⟩)
                    go_ret
                    exact ⟨true, HNT.out, .inl ⟨rfl, rfl, hB9.out.trans (hb11.mono hB9.out.size)⟩⟩
                · have HLB := Lib.hid fun W => lastByte_at t 126 _ (by omega) rfl W
                  have HNT := Lib.hid (HYES.out fun h => q0 h.1)
                  obtain ⟨m, hm⟩ : ∃ m : Int, lastI 126 t.data.toList = m := ⟨_, rfl⟩
                  rw [hm] at HLB q0
                  clear hl0 hl1 hm
                  go_wp2_with (go_at_call 78; refine (HLB.out _).mono ?_; rintro e w11 ⟨rfl, hb11⟩)
                  go_ret
                  exact ⟨true, HNT.out, .inl ⟨rfl, rfl, hB9.out.trans (hb11.mono hB9.out.size)⟩⟩

)

end Go.Proofs.YtpbebckhemnooaaFmt.PS

namespace Go.Proofs.YtpbebckhemnooaaFmt.PS
open Go.RowKit Go.Proofs.YtpbebckhemnooaaFmtW.PrintWords Go.Proofs.YtpbebckhemnooaaFmtW.PrintLast Go.Proofs.YtpbebckhemnooaaFmtW.PrintMore
set_option linter.unusedVariables false
set_option linter.unusedSimpArgs false

set_option maxHeartbeats 1600000 in
theorem elem2_empty (s : ByteArray) (w : World) (h0 : s.size = 0) :
    Calls Tryf.prog 53 #[.string s, .int .i64 2] w (ElemPost w 2 s.data.toList) := by
  have h1 : s.toList = [] := by rw [Lib.toList_data]; exact data_eq_nil h0
  have HD := Lib.hid (data_eq_nil h0)
  clear h0
  go_enter Tryf.func53, Tryf.ntmps53
  go_wp2_with (go_at_call 55; refine (errorf_none _ (by simp) _).mono ?_; rintro e w9 ⟨a9, t9, rfl, hc9, hb9⟩)
  go_ret
  exact post_no (fun _ h => h.1 HD.out) ⟨a9, t9, rfl, hc9, hb9⟩

theorem fmtElem2 : Fmt1 ⟨#[105, 110, 118, 97, 108, 105, 100, 32, 112, 97, 116, 104, 32, 101, 108, 101, 109, 101, 110, 116, 32, 37, 113]⟩ 113 := fun w => by kernel_rfl
theorem fmtChar2 : Fmt1 ⟨#[105, 110, 118, 97, 108, 105, 100, 32, 99, 104, 97, 114, 32, 37, 113]⟩ 113 := fun w => by kernel_rfl
theorem fmtName2 : Fmt1 ⟨#[37, 113, 32, 100, 105, 115, 97, 108, 108, 111, 119, 101, 100, 32, 97, 115, 32, 112, 97, 116, 104, 32, 101, 108, 101, 109, 101, 110, 116, 32, 99, 111, 109, 112, 111, 110, 101, 110, 116, 32, 111, 110, 32, 87, 105, 110, 100, 111, 119, 115]⟩ 113 := fun w => by kernel_rfl

set_option maxHeartbeats 1600000 in
theorem elem2_dots (F : Stop.Interp) (s : ByteArray) (hs : s.size ≤ 1099511627776) (w : World) (hF : F.answers w.tape) (h0 : 0 < s.size) (h1 : dots s.data.toList = s.size) :
    Calls Tryf.prog 53 #[.string s, .int .i64 2] w (ElemPost w 2 s.data.toList) := by
  have h2 : ¬ s.toList = [] := by rw [Lib.toList_data]; exact data_ne_nil h0
  have h3 : (s.toList == []) = false := by simpa using h2
  have H1 := Lib.hid h1
  have h4 : ((dots s.data.toList : Int) == (s.size : Int)) = true := by rw [h1]; simp
  clear h1
  go_enter Tryf.func53, Tryf.ntmps53
  go_wp2_with (first
    | (go_at_call 72; refine (zzCount_dot s hs _).mono ?_; rintro e w5 ⟨rfl, rfl⟩)
    | (go_at_call 55; refine (errorf_str F _ s _ _ (by exact hF) fmtElem2 (by go_simp)).mono ?_; rintro e w9 ⟨a9, t9, rfl, hc9, hb9⟩))
  go_ret
  exact post_no (fun _ h => h.2.1 (by rw [H1.out, len_size])) (ErrS.mono ⟨a9, t9, rfl, hc9, hb9⟩ ((Below.refl _ _).alloc (Nat.le_refl _) _))

set_option maxHeartbeats 1600000 in
theorem elem2_last (F : Stop.Interp) (s : ByteArray) (hs : s.size ≤ 1099511627776) (w : World) (hF : F.answers w.tape) (h0 : 0 < s.size) (h1 : dots s.data.toList ≠ s.size) (h2 : gb s (s.size - 1) = 46) :
    Calls Tryf.prog 53 #[.string s, .int .i64 2] w (ElemPost w 2 s.data.toList) := by
  have a1 : ¬ s.toList = [] := by rw [Lib.toList_data]; exact data_ne_nil h0
  have a2 : (s.toList == []) = false := by simpa using a1
  have a3 : ((dots s.data.toList : Int) == (s.size : Int)) = false := by simp; omega
  have a4 : (gb s (s.size - 1) == 46) = true := by simpa using h2
  have hgb := get_gb s
  have H2 := Lib.hid h2
  clear h1 h2
  go_enter Tryf.func53, Tryf.ntmps53
  go_wp2_with (first
    | (go_at_call 72; refine (zzCount_dot s hs _).mono ?_; rintro e w5 ⟨rfl, rfl⟩)
    | (go_at_call 55; refine (errorf_none _ (by simp) _).mono ?_; rintro e w9 ⟨a9, t9, rfl, hc9, hb9⟩))
  all_goals (go_ret; exact post_no (fun _ h => h.2.2.2.1 (by rw [len_size]; exact H2.out)) ⟨a9, t9, rfl, hc9, hb9⟩)

set_option maxHeartbeats 6000000 in
set_option maxRecDepth 100000 in
theorem elem2_main (F : Stop.Interp) (s : ByteArray) (hs : s.size ≤ 1099511627776) (w : World) (hF : F.answers w.tape) (hN : NamesIn w) (hE : ∀ t : ByteArray, t.data.toList = shortL s.data.toList → FoldOK w t) (hL : asc s.data.toList ∨ LetterOK w)
    (h0 : 0 < s.size) (h1 : dots s.data.toList ≠ s.size) (h2 : gb s (s.size - 1) ≠ 46) :
    Calls Tryf.prog 53 #[.string s, .int .i64 2] w (ElemPost w 2 s.data.toList) := by
  have a1 : ¬ s.toList = [] := by rw [Lib.toList_data]; exact data_ne_nil h0
  have a2 : (s.toList == []) = false := by simpa using a1
  have a3 : ((dots s.data.toList : Int) == (s.size : Int)) = false := by simp; omega
  have a4 : (gb s (s.size - 1) == 46) = false := by simpa using h2
  have hgb := get_gb s
  have H1 := Lib.hid h1
  have H2 := Lib.hid h2
  have HN := Lib.hid hN

  have HL := Lib.hid hL
  have HE := Lib.hid hE
  clear h1 h2 hN hL hE
  go_enter Tryf.func53, Tryf.ntmps53
  go_wp2_with (go_at_call 72; refine (zzCount_dot s hs _).mono ?_; rintro e w5 ⟨rfl, rfl⟩)
  all_goals (
      go_loopw [] (fun wr => ∃ k : Nat, k ≤ s.size ∧ Hid (wr.heap[w.heap.size]? = some (.stringIter s k)) ∧ Hid (Below w.heap.size w wr) ∧ Hid (CharsTo 2 s.data.toList k)) (fun wr => s.size - wr.iterPos w.heap.size)
      case atStart => exact ⟨0, Nat.zero_le _, Lib.hid (World.iter_heap w s 0), Lib.hid ((Below.refl _ _).alloc (Nat.le_refl _) _), Lib.hid (CharsTo.nil _ _)⟩
      case round =>
        obtain ⟨k, hk, hit, hB, hno⟩ := hrel
        have hFr := Lib.hid (below_tape hF hB.out)
        by_cases hlt : k < s.size
        · by_cases ha1 : (s[k]'hlt).toNat < 128
          · have hnx : ∀ ty, (Instr.next (.pointer (some ⟨w.heap.size, 0, none⟩)) true ty).run Tryf.prog wr = _ := fun ty => Lib.run_next_ascii_at wr w.heap.size s k ty hit.out hlt ha1
            have hB2 := Lib.hid (Lib.below_iterAt hB.out (k := w.heap.size) (Nat.le_refl _) s (k + 1))
            have hit2 := Lib.hid (Lib.iterAt_heap wr w.heap.size s k (k + 1) hit.out)
            have hF2 := below_tape hF hB2.out
            obtain ⟨W1, hW1⟩ : ∃ W1, wr.iterAt w.heap.size s (k + 1) = W1 := ⟨_, rfl⟩
            rw [hW1] at hnx hB2 hit2 hF2
            have hg : ((s[k]'hlt).toNat : Int) = gb s k := (hgb k hlt).symm ▸ rfl
            have HA := Lib.hid ha1
            clear hW1 ha1
            by_cases hc : fileOK (gb s k) = true
            · have hno2 := Lib.hid (CharsTo.succ hno.out hlt HA.out (by rw [hg]; exact hc))
              go_wp2_with (go_at_call 75; refine (fileNameOK_ascii _ (gb_lo s k) (by have := HA.out; omega) _).mono ?_; rintro e w5 ⟨rfl, hb5⟩)
              have hit3 : Hid (w5.heap[w.heap.size]? = some (.stringIter s (k + 1))) := Lib.hid (by rw [hb5.block _ ((Array.getElem?_eq_some_iff.1 hit2.out).1)]; exact hit2.out)
              have hB3 := Lib.hid (hB2.out.trans (hb5.mono hB2.out.size))
              go_roundw
              case rel => exact ⟨k + 1, by omega, hit3, hB3, hno2⟩
              case measure => simp only [World.iterPos, hit.out, hit3.out]; omega
            · have hc2 : fileOK (gb s k) = false := by simpa using hc
              have HC := Lib.hid (show ¬ (asc s.data.toList → ∀ c ∈ s.data.toList, charI 2 (c.toNat : Int) = true) ∨ True from .inr trivial)
              have HX : Hid (asc s.data.toList → ¬ ElemOK 2 s.data.toList) := Lib.hid fun _ h => by have := h.2.2.2.2.1 _ (byte_mem s k hlt); rw [hg] at this; exact hc this
              clear hc HC
              go_wp2_with (first
                | (go_at_call 75; refine (fileNameOK_ascii _ (gb_lo s k) (by have := HA.out; omega) _).mono ?_; rintro e w5 ⟨rfl, hb5⟩)
                | (go_at_call 55; refine (errorf_rune F _ (gb s k) _ _ (by have := below_tape hF2 hb5; exact this) fmtChar2 (by go_simp)).mono ?_; rintro e w9 ⟨a9, t9, rfl, hc9, hb9⟩))
              go_ret
              exact post_no HX.out (ErrS.mono ⟨a9, t9, rfl, hc9, hb9⟩ (hB2.out.trans ((hb5.mono hB2.out.size).trans ((Below.refl _ _).alloc (Nat.le_trans hB2.out.size hb5.size) _))))
          · have hnx : ∀ ty, (Instr.next (.pointer (some ⟨w.heap.size, 0, none⟩)) true ty).run Tryf.prog wr = _ := fun ty => Lib.run_next_any_at wr w.heap.size s k ty hit.out hlt
            obtain ⟨hr1, hd1⟩ := decode_high s k hlt (by omega)
            obtain ⟨r, hr⟩ : ∃ r, (Utf8.decode s k).1 = r := ⟨_, rfl⟩
            obtain ⟨dd, hdd⟩ : ∃ dd, (Utf8.decode s k).2 = dd := ⟨_, rfl⟩
            have hrm := decode_small s k
            rw [hr] at hr1 hnx hrm
            rw [hdd] at hd1 hnx
            have hB2 := Lib.hid (Lib.below_iterAt hB.out (k := w.heap.size) (Nat.le_refl _) s (k + dd))
            have hit2 := Lib.hid (Lib.iterAt_heap wr w.heap.size s k (k + dd) hit.out)
            have hF2 := below_tape hF hB2.out
            obtain ⟨W1, hW1⟩ : ∃ W1, wr.iterAt w.heap.size s (k + dd) = W1 := ⟨_, rfl⟩
            rw [hW1] at hnx hB2 hit2 hF2
            have HX : Hid (¬ asc s.data.toList) := Lib.hid fun h => ha1 (h _ (byte_mem s k hlt))
            have hle : k + dd ≤ s.size := by rw [← hdd]; exact decode_le s k hlt
            clear hW1 ha1 hr hdd
            have HLO := Lib.hid (HL.out.elim (fun h => absurd h HX.out) id)
            have HLC := Lib.hid (fileName_high HLO.out W1 hB2.out (r : Int) (by omega) (by omega))
            go_wp2_with (first
              | (go_at_call 75; refine HLC.out.mono ?_; rintro e w5 ⟨b, rfl, hb5⟩)
              | (go_at_call 55; refine (errorf_rune F _ (r : Int) _ _ (by have := below_tape hF2 hb5; exact this) fmtChar2 (by go_simp)).mono ?_; rintro e w9 ⟨a9, t9, rfl, hc9, hb9⟩))
            · go_ret
              exact post_no (fun h => absurd h HX.out) (ErrS.mono ⟨a9, t9, rfl, hc9, hb9⟩ (hB2.out.trans ((hb5.mono hB2.out.size).trans ((Below.refl _ _).alloc (Nat.le_trans hB2.out.size hb5.size) _))))
            · have hit3 : Hid (w5.heap[w.heap.size]? = some (.stringIter s (k + dd))) := Lib.hid (by rw [hb5.block _ (Array.getElem?_eq_some_iff.1 hit2.out).1]; exact hit2.out)
              have hB3 := Lib.hid (hB2.out.trans (hb5.mono hB2.out.size))
              go_roundw
              case rel => exact ⟨k + dd, hle, hit3, hB3, Lib.hid ⟨fun h => absurd h HX.out, fun h => absurd rfl h⟩⟩
              case measure => simp only [World.iterPos, hit.out, hit3.out]; omega
        · have hall := CharsTo.all hno.out (by rw [len_size]; omega)
          have hlast := Lib.hid hall
          clear hall hno
          have hnx : ∀ ty, (Instr.next (.pointer (some ⟨w.heap.size, 0, none⟩)) true ty).run Tryf.prog wr = _ := fun ty => Lib.run_next_end_at wr w.heap.size s k ty hit.out hlt
          have hNr := HN.out.below hB.out
          obtain ⟨nb, no, cap, hN1, hN2⟩ := hNr
          have HN2 := Lib.hid hN2
          clear hN2
          have hB6 := hB
          cases hx : idxL [46] s.data.toList with
          | none =>
            have HZ := Lib.hid (idx_none s hs hx)
            have HS := Lib.hid ((idx_short s.data.toList).2 hx).symm
            clear hx
            go_wp2_with (go_at_call 63; refine (HZ.out _).mono ?_; rintro e w6 ⟨rfl, hb6⟩; have hN1' := (hb6.cell (World.block_lt_of_cell? _ _ hN1)).trans hN1)
            have hB7 := Lib.hid (hB.out.trans (hb6.mono hB.out.size))
            have HF := Lib.hid (HE.out s HS.out)
            have hN7 : Hid (∀ j, j < 22 → w6.cell? ⟨nb, no + j, none⟩ = some (.string (nameB j))) := Lib.hid fun j hj => (hb6.cell (World.block_lt_of_cell? _ _ (HN2.out j hj))).trans (HN2.out j hj)
            go_loopw [83] (fun x w8 => ∃ j : Nat, j ≤ 22 ∧ x = .int .i64 j ∧ Hid (Below w6.heap.size w6 w8) ∧ Hid (Names s j)) (fun x _ => 22 - (intOf x).toNat)
            case atStart => exact ⟨0, by omega, rfl, Lib.hid (Below.refl _ _), Lib.hid (Names.nil _)⟩
            case round =>
              obtain ⟨j, hj, rfl, hB8, hnm⟩ := hrel
              by_cases hj2 : j < 22
              · have hc : ∃ a, w6.cell? ⟨nb, no + j, none⟩ = some a ∧ a = .string (nameB j) := ⟨_, hN7.out j hj2, rfl⟩
                have hcw : wr.cell? ⟨nb, no + j, none⟩ = some (.string (nameB j)) := (hB8.out.cell (World.block_lt_of_cell? _ _ (hN7.out j hj2))).trans (hN7.out j hj2)
                clear hc
                have HC := Lib.hid (HF.out wr (hB7.out.trans (hB8.out.mono hB7.out.size)) j hj2)
                have hF8 := below_tape hF (hB7.out.trans (hB8.out.mono hB7.out.size))
                go_wp2_with (first
                  | (go_at_call 77; refine HC.out.mono ?_; rintro e w10 ⟨b, rfl, hb, hb10⟩)
                  | (go_at_call 55; refine (errorf_str F _ s _ _ (by have := below_tape hF8 hb10; exact this) fmtName2 (by go_simp)).mono ?_; rintro e w9 ⟨a9, t9, rfl, hc9, hb9⟩))
                · go_ret
                  have hbt : b = true := by assumption
                  rw [hbt] at hb
                  have hbad : asc s.data.toList → ¬ ElemOK 2 s.data.toList := fun ha h => h.2.2.2.2.2.1 ⟨j, hj2, by rw [← HS.out]; exact (hb (by rw [HS.out]; exact fun c hc => ha c (shortL_sub _ c hc))).symm⟩
                  exact post_no hbad (ErrS.mono ⟨a9, t9, rfl, hc9, hb9⟩ ((hB7.out.trans (hB8.out.mono hB7.out.size)).trans ((hb10.mono (Nat.le_trans hB7.out.size hB8.out.size)).trans ((Below.refl _ _).alloc (Nat.le_trans hB7.out.size (Nat.le_trans hB8.out.size hb10.size)) _))))
                · have hbf : b = false := by first | assumption | simpa using ‹¬ b = true›
                  rw [hbf] at hb
                  go_roundw
                  case rel => exact ⟨j + 1, by omega, by go_num, Lib.hid (hB8.out.trans (hb10.mono hB8.out.size)), Lib.hid (Names.succ hnm.out hb)⟩
                  case measure => simp [intOf]; omega
              · obtain rfl : j = 22 := by omega
                have HM := hnm
                clear hj hj2
                have hB9 := Lib.hid (hB7.out.trans (hB8.out.mono hB7.out.size))
                have hbn : badN s.data.toList → False := fun ⟨i, hi, h⟩ => by have := hnm.out (fold_asc i hi h) i hi; rw [h] at this; cases this
                have HNB := Lib.hid hbn
                have hyes : EB 2 s.data.toList true := ⟨fun ha => ⟨fun _ => ⟨data_ne_nil h0, by rw [len_size]; exact H1.out, fun h => absurd h.2 (by decide), by rw [len_size]; exact H2.out, hlast.out.1 ha, by rw [← HS.out]; exact HNB.out, .inl rfl⟩, fun _ => rfl⟩, fun _ => ⟨fun h => absurd rfl h, fun h => by
                  rcases h with h | h | h
                  · exact absurd h (data_ne_nil h0)
                  · exact absurd (by rw [len_size] at h; exact h) H2.out
                  · exact absurd (by rw [HS.out]; exact h) HNB.out⟩⟩
                have HYES := Lib.hid hyes
                clear hbn hyes
                go_wp2
                go_ret
                exact ⟨true, HYES.out, .inl ⟨rfl, rfl, hB9.out⟩⟩

          | some i =>
            have HZ := Lib.hid (idx_some s hs hx)
            obtain ⟨hx1, hx2⟩ := (idx_short s.data.toList).1 i hx
            obtain ⟨t, hte⟩ : ∃ t, s.extract 0 i = t := ⟨_, rfl⟩
            have HS := Lib.hid (show t.data.toList = shortL s.data.toList by rw [← hte, ← hx1]; exact extract_take s i)
            rw [len_size] at hx2
            clear hx hx1
            go_wp2_with (go_at_call 63; refine (HZ.out _).mono ?_; rintro e w6 ⟨rfl, hb6⟩; have hN1' := (hb6.cell (World.block_lt_of_cell? _ _ hN1)).trans hN1)
            have hB7 := Lib.hid (hB.out.trans (hb6.mono hB.out.size))
            have HF := Lib.hid (HE.out t HS.out)
            have hN7 : Hid (∀ j, j < 22 → w6.cell? ⟨nb, no + j, none⟩ = some (.string (nameB j))) := Lib.hid fun j hj => (hb6.cell (World.block_lt_of_cell? _ _ (HN2.out j hj))).trans (HN2.out j hj)
            go_loopw [83] (fun x w8 => ∃ j : Nat, j ≤ 22 ∧ x = .int .i64 j ∧ Hid (Below w6.heap.size w6 w8) ∧ Hid (Names t j)) (fun x _ => 22 - (intOf x).toNat)
            case atStart => exact ⟨0, by omega, rfl, Lib.hid (Below.refl _ _), Lib.hid (Names.nil _)⟩
            case round =>
              obtain ⟨j, hj, rfl, hB8, hnm⟩ := hrel
              by_cases hj2 : j < 22
              · have hc : ∃ a, w6.cell? ⟨nb, no + j, none⟩ = some a ∧ a = .string (nameB j) := ⟨_, hN7.out j hj2, rfl⟩
                have hcw : wr.cell? ⟨nb, no + j, none⟩ = some (.string (nameB j)) := (hB8.out.cell (World.block_lt_of_cell? _ _ (hN7.out j hj2))).trans (hN7.out j hj2)
                clear hc
                have HC := Lib.hid (HF.out wr (hB7.out.trans (hB8.out.mono hB7.out.size)) j hj2)
                have hF8 := below_tape hF (hB7.out.trans (hB8.out.mono hB7.out.size))
                go_wp2_with (first
                  | (go_at_call 77; refine HC.out.mono ?_; rintro e w10 ⟨b, rfl, hb, hb10⟩)
                  | (go_at_call 55; refine (errorf_str F _ t _ _ (by have := below_tape hF8 hb10; exact this) fmtName2 (by go_simp)).mono ?_; rintro e w9 ⟨a9, t9, rfl, hc9, hb9⟩))
                · go_ret
                  have hbt : b = true := by assumption
                  rw [hbt] at hb
                  have hbad : asc s.data.toList → ¬ ElemOK 2 s.data.toList := fun ha h => h.2.2.2.2.2.1 ⟨j, hj2, by rw [← HS.out]; exact (hb (by rw [HS.out]; exact fun c hc => ha c (shortL_sub _ c hc))).symm⟩
                  exact post_no hbad (ErrS.mono ⟨a9, t9, rfl, hc9, hb9⟩ ((hB7.out.trans (hB8.out.mono hB7.out.size)).trans ((hb10.mono (Nat.le_trans hB7.out.size hB8.out.size)).trans ((Below.refl _ _).alloc (Nat.le_trans hB7.out.size (Nat.le_trans hB8.out.size hb10.size)) _))))
                · have hbf : b = false := by first | assumption | simpa using ‹¬ b = true›
                  rw [hbf] at hb
                  go_roundw
                  case rel => exact ⟨j + 1, by omega, by go_num, Lib.hid (hB8.out.trans (hb10.mono hB8.out.size)), Lib.hid (Names.succ hnm.out hb)⟩
                  case measure => simp [intOf]; omega
              · obtain rfl : j = 22 := by omega
                have HM := hnm
                clear hj hj2
                have hB9 := Lib.hid (hB7.out.trans (hB8.out.mono hB7.out.size))
                have hbn : badN t.data.toList → False := fun ⟨i, hi, h⟩ => by have := hnm.out (fold_asc i hi h) i hi; rw [h] at this; cases this
                have HNB := Lib.hid hbn
                have hyes : EB 2 s.data.toList true := ⟨fun ha => ⟨fun _ => ⟨data_ne_nil h0, by rw [len_size]; exact H1.out, fun h => absurd h.2 (by decide), by rw [len_size]; exact H2.out, hlast.out.1 ha, by rw [← HS.out]; exact HNB.out, .inl rfl⟩, fun _ => rfl⟩, fun _ => ⟨fun h => absurd rfl h, fun h => by
                  rcases h with h | h | h
                  · exact absurd h (data_ne_nil h0)
                  · exact absurd (by rw [len_size] at h; exact h) H2.out
                  · exact absurd (by rw [HS.out]; exact h) HNB.out⟩⟩
                have HYES := Lib.hid hyes
                clear hbn hyes
                go_wp2
                go_ret
                exact ⟨true, HYES.out, .inl ⟨rfl, rfl, hB9.out⟩⟩

)

end Go.Proofs.YtpbebckhemnooaaFmt.PS

namespace Go.Proofs.YtpbebckhemnooaaFmt.PS
open Go.RowKit Go.Proofs.YtpbebckhemnooaaFmtW.PrintWords Go.Proofs.YtpbebckhemnooaaFmtW.PrintLast Go.Proofs.YtpbebckhemnooaaFmtW.PrintMore
set_option linter.unusedVariables false
set_option linter.unusedSimpArgs false

/-- strings.EqualFold of the names and any text. -/
def FoldAll (w : World) : Prop := ∀ t : ByteArray, t.size ≤ 1099511627776 → FoldOK w t

set_option maxHeartbeats 1600000 in
theorem elem0_lead (s : ByteArray) (hs : s.size ≤ 1099511627776) (w : World) (h0 : 0 < s.size) (h1 : dots s.data.toList ≠ s.size) (h2 : gb s 0 = 46) :
    Calls Tryf.prog 53 #[.string s, .int .i64 0] w (ElemPost w 0 s.data.toList) := by
  have a1 : ¬ s.toList = [] := by rw [Lib.toList_data]; exact data_ne_nil h0
  have a2 : (s.toList == []) = false := by simpa using a1
  have a3 : ((dots s.data.toList : Int) == (s.size : Int)) = false := by simp; omega
  have a4 : (gb s 0 == 46) = true := by simpa using h2
  have hgb := get_gb s
  have H2 := Lib.hid h2
  clear h1 h2
  go_enter Tryf.func53, Tryf.ntmps53
  go_wp2_with (first
    | (go_at_call 72; refine (zzCount_dot s hs _).mono ?_; rintro e w5 ⟨rfl, rfl⟩)
    | (go_at_call 55; refine (errorf_none _ (by simp) _).mono ?_; rintro e w9 ⟨a9, t9, rfl, hc9, hb9⟩))
  all_goals (go_ret; exact post_no (fun _ h => h.2.2.1 ⟨H2.out, rfl⟩) ⟨a9, t9, rfl, hc9, hb9⟩)

theorem elem_any (K : Int) (hK : K = 0 ∨ K = 1 ∨ K = 2) (F : Stop.Interp) (s : ByteArray) (hs : s.size ≤ 1099511627776) (w : World) (hF : F.answers w.tape) (hN : NamesIn w)
    (hX : K = 2 → asc s.data.toList ∨ (LetterOK w ∧ FoldAll w)) :
    Calls Tryf.prog 53 #[.string s, .int .i64 K] w (ElemPost w K s.data.toList) := by
  by_cases h0 : s.size = 0
  · rcases hK with rfl | rfl | rfl
    · exact elem0_empty s w h0
    · exact elem1_empty s w h0
    · exact elem2_empty s w h0
  have h0' : 0 < s.size := by omega
  by_cases h1 : dots s.data.toList = s.size
  · rcases hK with rfl | rfl | rfl
    · exact elem0_dots F s hs w hF h0' h1
    · exact elem1_dots F s hs w hF h0' h1
    · exact elem2_dots F s hs w hF h0' h1
  by_cases h2 : gb s (s.size - 1) = 46
  · rcases hK with rfl | rfl | rfl
    · exact elem0_last F s hs w hF h0' h1 h2
    · exact elem1_last F s hs w hF h0' h1 h2
    · exact elem2_last F s hs w hF h0' h1 h2
  rcases hK with rfl | rfl | rfl
  · by_cases h3 : gb s 0 = 46
    · exact elem0_lead s hs w h0' h1 h3
    · exact elem0_main F s hs w hF hN h0' h1 h2 h3
  · exact elem1_main F s hs w hF hN h0' h1 h2
  · rcases hX rfl with h | h
    · exact elem2_main F s hs w hF hN (fun t ht => FoldOK.ascii w t (by rw [ht]; exact fun c hc => h c (shortL_sub _ c hc))) (.inl h) h0' h1 h2
    · exact elem2_main F s hs w hF hN (fun t ht => h.2 t (by have := shortL_len s.data.toList; rw [← ht, len_size, len_size] at this; omega)) (.inr h.1) h0' h1 h2

end Go.Proofs.YtpbebckhemnooaaFmt.PS
