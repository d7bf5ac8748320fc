/- module.checkPath at each kind; the conditions: the path's size, that the tape answers fmt's stop, where the names of Windows lie, that utf8.ValidString answers, and, of a file's path beyond ASCII, unicode.IsLetter and strings.EqualFold. -/
import Derived.Test.YtpbebckhemnooaaFmtPathDefs
import Derived.Outline
import Derived.Handy
namespace Go.Proofs.YtpbebckhemnooaaFmt.PS
open Go.RowKit Go.Proofs.YtpbebckhemnooaaFmtW.PrintWords Go.Proofs.YtpbebckhemnooaaFmtW.PrintLast Go.Proofs.YtpbebckhemnooaaFmtW.PrintMore
set_option linter.unusedVariables false
set_option linter.unusedSimpArgs false

/-- utf8.ValidString of a text. -/
def ValidOK (w : World) (s : ByteArray) : Prop := Calls Tryf.prog 81 #[.string s] w fun e w' => ∃ b : Bool, e = .returned (.bool b) ∧ (asc s.data.toList → b = true) ∧ Below w.heap.size w w'

def HighOK (w : World) : Prop := LetterOK w ∧ FoldAll w
theorem LetterOK.below {w w' : World} (h : LetterOK w) (hb : Below w.heap.size w w') : LetterOK w' := fun W hW r h0 h1 => h W (hb.trans (hW.mono hb.size)) r h0 h1
theorem FoldOK.below {w w' : World} {t : ByteArray} (h : FoldOK w t) (hb : Below w.heap.size w w') : FoldOK w' t := fun W hW j hj => h W (hb.trans (hW.mono hb.size)) j hj
theorem HighOK.below {w w' : World} (h : HighOK w) (hb : Below w.heap.size w w') : HighOK w' := ⟨h.1.below hb, fun t ht => (h.2 t ht).below hb⟩

theorem elem_at {K : Int} (hK : K = 0 ∨ K = 1 ∨ K = 2) {F : Stop.Interp} {w : World} (hF : F.answers w.tape) (hN : NamesIn w) {l : List UInt8} (hX : K = 2 → asc l ∨ HighOK w)
    {W : World} (hb : Below w.heap.size w W) (t : ByteArray) (ht : t.size ≤ 1099511627776) (hl : t.data.toList ∈ cutL 47 l) :
    Calls Tryf.prog 53 #[.string t, .int .i64 K] W (ElemPost W K t.data.toList) :=
  elem_any K hK F t ht W (below_tape hF hb) (hN.below hb) fun hk => (hX hk).elim (fun h => .inl (asc_cut h hl)) fun h => .inr (h.below hb)

theorem zzContains_at (s : ByteArray) (hs : s.size ≤ 1099511627776) {b : Bool} (h : (idxL [47, 47] s.data.toList).isSome = b) (w : World) :
    Calls Tryf.prog 54 #[.string s, .string ⟨#[47, 47]⟩] w fun e w' => e = .returned (.bool b) ∧ Below w.heap.size w w' := by
  rw [← h]
  exact zzContains_any s ⟨#[47, 47]⟩ hs (by decide) (by decide) w
theorem get_list (s : ByteArray) (j : Nat) (hj : j < s.size) : s.data.toList[j]? = some (s.get! j) := by
  have hj' : j < s.data.toList.length := by rw [len_size]; exact hj
  rw [List.getElem?_eq_getElem hj']
  simp [ByteArray.get!, getElem!_pos, hj]
theorem decodeN_rest (n b0 b1 b2 b3 : Nat) (h : 128 ≤ b0) : ∀ j, j < (Lib.decodeN n b0 b1 b2 b3).2 → (j = 0 ∨ (j = 1 ∧ 128 ≤ b1) ∨ (j = 2 ∧ 128 ≤ b2) ∨ (j = 3 ∧ 128 ≤ b3)) := by
  intro j hj
  unfold Lib.decodeN at hj
  repeat' split at hj
  all_goals (simp only at hj; omega)
theorem decode_rest (s : ByteArray) (i : Nat) (h : i < s.size) (ha : ¬ (s[i]'h).toNat < 128) : ∀ j, i ≤ j → j < i + (Utf8.decode s i).2 → s.data.toList[j]? ≠ some 47 := by
  intro j h1 h2
  have hle := decode_le s i h
  rw [Lib.decode_at] at h2
  have h0 : s.get! i = s[i]'h := by
    simp [ByteArray.get!, getElem!_pos, h]
    rfl
  have h3 := decodeN_rest (s.size - i) (s.get! i).toNat (s.get! (i + 1)).toNat (s.get! (i + 2)).toNat (s.get! (i + 3)).toNat (by rw [h0]; omega) (j - i) (by omega)
  rw [Lib.decode_at] at hle
  rw [get_list s j (by omega)]
  intro e
  have e2 : (s.get! j).toNat = 47 := by rw [Option.some.inj e]; rfl
  have hb : 128 ≤ (s.get! j).toNat := by
    rcases h3 with h3 | ⟨h3, h4⟩ | ⟨h3, h4⟩ | ⟨h3, h4⟩
    · rw [show j = i by omega, h0]; omega
    · rw [show j = i + 1 by omega]; exact h4
    · rw [show j = i + 2 by omega]; exact h4
    · rw [show j = i + 3 by omega]; exact h4
  omega


set_option maxHeartbeats 1600000 in
theorem path_empty (K : Int) (s : ByteArray) (w : World) (hv : ValidOK w s) (h0 : s.size = 0) :
    Calls Tryf.prog 61 #[.string s, .int .i64 K] w (PathPost w K s.data.toList) := by
  have h1 : s.toList = [] := by rw [Lib.toList_data]; exact data_eq_nil h0
  have HV := Lib.hid hv
  have HD := Lib.hid (data_eq_nil h0)
  clear h0 hv
  go_enter Tryf.func61, Tryf.ntmps61
  go_wp2_with (first
    | (go_at_call 81; refine HV.out.mono ?_; rintro e w5 ⟨b, rfl, hb, hb5⟩)
    | (go_at_call 55; refine (errorf_none _ (by simp) _).mono ?_; rintro e w9 ⟨a9, t9, rfl, hc9, hb9⟩))
  all_goals (go_ret; exact path_no (fun _ h => h.1 HD.out) (ErrS.mono ⟨a9, t9, rfl, hc9, hb9⟩ hb5))

set_option maxHeartbeats 1600000 in
theorem path_dash (K : Int) (s : ByteArray) (hs : s.size ≤ 1099511627776) (w : World) (hv : ValidOK w s) (h0 : 0 < s.size) (h1 : gb s 0 = 45) (hk : K ≠ 2) :
    Calls Tryf.prog 61 #[.string s, .int .i64 K] w (PathPost w K s.data.toList) := by
  have a1 : ¬ s.toList = [] := by rw [Lib.toList_data]; exact data_ne_nil h0
  have a2 : (s.toList == []) = false := by simpa using a1
  have HV := Lib.hid hv
  have hgb := get_gb s
  have a3 : (gb s 0 == 45) = true := by simpa using h1
  have a4 : (K == 2) = false := by simpa using hk
  have HX := Lib.hid (show ¬ PathOK K s.data.toList from fun h => h.2.1 ⟨h1, hk⟩)
  clear hv h1
  go_enter Tryf.func61, Tryf.ntmps61
  have HC := HX
  go_wp2_with (first
    | (go_at_call 81; refine HV.out.mono ?_; rintro e w5 ⟨b, rfl, hb, hb5⟩; have HB5 := Lib.hid hb; clear hb)
    | (go_at_call 55; refine (errorf_none _ (by simp) _).mono ?_; rintro e w9 ⟨a9, t9, rfl, hc9, hb9⟩))
  all_goals (go_ret; exact path_no (fun _ h => HX.out h) (ErrS.mono ⟨a9, t9, rfl, hc9, hb9⟩ hb5))

set_option maxHeartbeats 1600000 in
theorem path_twice (K : Int) (s : ByteArray) (hs : s.size ≤ 1099511627776) (w : World) (hv : ValidOK w s) (h0 : 0 < s.size) (h1 : ¬ (gb s 0 = 45 ∧ K ≠ 2)) (h2 : (idxL [47, 47] s.data.toList).isSome = true) :
    Calls Tryf.prog 61 #[.string s, .int .i64 K] w (PathPost w K s.data.toList) := by
  have a1 : ¬ s.toList = [] := by rw [Lib.toList_data]; exact data_ne_nil h0
  have a2 : (s.toList == []) = false := by simpa using a1
  have HV := Lib.hid hv
  have hgb := get_gb s
  have HX := Lib.hid (show ¬ PathOK K s.data.toList from fun h => h.ne (List.mem_of_mem_tail (cut_twice h2)))
  have HC := Lib.hid fun W => zzContains_at s hs h2 W
  have H1 := Lib.hid h1
  clear hv h1 h2
  go_enter Tryf.func61, Tryf.ntmps61
  go_wp2_with (first
    | (go_at_call 81; refine HV.out.mono ?_; rintro e w5 ⟨b, rfl, hb, hb5⟩; have HB5 := Lib.hid hb; clear hb)
    | (go_at_call 54; refine (HC.out _).mono ?_; rintro e w6 ⟨rfl, hb6⟩)
    | (go_at_call 55; refine (errorf_none _ (by simp) _).mono ?_; rintro e w9 ⟨a9, t9, rfl, hc9, hb9⟩))
  all_goals first
    | (go_ret; exact path_no (fun _ h => HX.out h) (ErrS.mono ⟨a9, t9, rfl, hc9, hb9⟩ hb5))
    | (go_ret; exact path_no (fun _ h => HX.out h) (ErrS.mono ⟨a9, t9, rfl, hc9, hb9⟩ (hb5.trans (hb6.mono hb5.size))))

set_option maxHeartbeats 1600000 in
theorem path_last (K : Int) (s : ByteArray) (hs : s.size ≤ 1099511627776) (w : World) (hv : ValidOK w s) (h0 : 0 < s.size) (h1 : ¬ (gb s 0 = 45 ∧ K ≠ 2)) (h2 : (idxL [47, 47] s.data.toList).isSome = false) (h3 : gb s (s.size - 1) = 47) :
    Calls Tryf.prog 61 #[.string s, .int .i64 K] w (PathPost w K s.data.toList) := by
  have a1 : ¬ s.toList = [] := by rw [Lib.toList_data]; exact data_ne_nil h0
  have a2 : (s.toList == []) = false := by simpa using a1
  have HV := Lib.hid hv
  have hgb := get_gb s
  have HX := Lib.hid (show ¬ PathOK K s.data.toList from fun h => h.ne (cut_last (data_ne_nil h0) (by rw [len_size]; exact h3)))
  have HC := Lib.hid fun W => zzContains_at s hs h2 W
  have H1 := Lib.hid h1
  have a4 : (gb s (s.size - 1) == 47) = true := by simpa using h3
  clear hv h1 h2 h3
  go_enter Tryf.func61, Tryf.ntmps61
  go_wp2_with (first
    | (go_at_call 81; refine HV.out.mono ?_; rintro e w5 ⟨b, rfl, hb, hb5⟩; have HB5 := Lib.hid hb; clear hb)
    | (go_at_call 54; refine (HC.out _).mono ?_; rintro e w6 ⟨rfl, hb6⟩)
    | (go_at_call 55; refine (errorf_none _ (by simp) _).mono ?_; rintro e w9 ⟨a9, t9, rfl, hc9, hb9⟩))
  all_goals first
    | (go_ret; exact path_no (fun _ h => HX.out h) (ErrS.mono ⟨a9, t9, rfl, hc9, hb9⟩ hb5))
    | (go_ret; exact path_no (fun _ h => HX.out h) (ErrS.mono ⟨a9, t9, rfl, hc9, hb9⟩ (hb5.trans (hb6.mono hb5.size))))

set_option maxHeartbeats 6000000 in
theorem path_mainA (K : Int) (hK : K = 0 ∨ K = 1 ∨ K = 2) (F : Stop.Interp) (s : ByteArray) (hs : s.size ≤ 1099511627776) (w : World) (hF : F.answers w.tape) (hN : NamesIn w) (hX : K = 2 → asc s.data.toList ∨ HighOK w) (hv : ValidOK w s) (h0 : 0 < s.size) (h1 : gb s 0 ≠ 45) (h2 : (idxL [47, 47] s.data.toList).isSome = false) (h3 : gb s (s.size - 1) ≠ 47) :
    Calls Tryf.prog 61 #[.string s, .int .i64 K] w (PathPost w K s.data.toList) := by
  have a1 : ¬ s.toList = [] := by rw [Lib.toList_data]; exact data_ne_nil h0
  have a2 : (s.toList == []) = false := by simpa using a1
  have a4 : (gb s (s.size - 1) == 47) = false := by simpa using h3
  have a5 : (gb s 0 == 45) = false := by simpa using h1
  have HD := Lib.hid (show ¬ (lb s.data.toList 0 = 45 ∧ K ≠ 2) from fun h => h1 h.1)
  have hgb := get_gb s
  have HV := Lib.hid hv
  have HC := Lib.hid fun W => zzContains_at s hs h2 W
  have HE := Lib.hid fun (W : World) (hb : Below w.heap.size w W) (t : ByteArray) (ht : t.size ≤ 1099511627776) (hl : t.data.toList ∈ cutL 47 s.data.toList) => elem_at hK hF hN hX hb t ht hl
  clear h1 h2 h3 hv hX hN
  go_enter Tryf.func61, Tryf.ntmps61
  go_wp2_with (first
    | (go_at_call 81; refine HV.out.mono ?_; rintro e w5 ⟨b, rfl, hb, hb5⟩; have HB5 := Lib.hid hb; clear hb)
    | (go_at_call 54; refine (HC.out _).mono ?_; rintro e w6 ⟨rfl, hb6⟩)
    | (go_at_call 55; refine (errorf_none _ (by simp) _).mono ?_; rintro e w9 ⟨a9, t9, rfl, hc9, hb9⟩))
  · go_ret
    exact path_no (fun ha _ => absurd (HB5.out ha) (by simp_all)) (ErrS.mono ⟨a9, t9, rfl, hc9, hb9⟩ hb5)
  have hB6 := Lib.hid (hb5.trans (hb6.mono hb5.size))
  go_loopw [5] (fun x wr => ∃ st k : Nat, x = .int .i64 st ∧ k ≤ s.size ∧ st ≤ k ∧ Hid (wr.heap[w6.heap.size]? = some (.stringIter s k)) ∧ Hid (Below w6.heap.size w6 wr) ∧ Hid (Done K s.data.toList st k)) (fun _ wr => s.size - wr.iterPos w6.heap.size)
  case atStart => exact ⟨0, 0, rfl, Nat.zero_le _, Nat.le_refl _, Lib.hid (World.iter_heap w6 s 0), Lib.hid ((Below.refl _ _).alloc (Nat.le_refl _) _), Lib.hid (Done.nil _ _)⟩
  case round =>
    obtain ⟨st, k, rfl, hk, hst, hit, hB, hdone⟩ := hrel
    by_cases hlt : k < s.size
    · by_cases ha1 : (s[k]'hlt).toNat < 128
      · have hnx : ∀ ty, (Instr.next (.pointer (some ⟨w6.heap.size, 0, none⟩)) true ty).run Tryf.prog wr = _ := fun ty => Lib.run_next_ascii_at wr w6.heap.size s k ty hit.out hlt ha1
        have hB2 := Lib.hid (Lib.below_iterAt hB.out (k := w6.heap.size) (Nat.le_refl _) s (k + 1))
        have hit2 := Lib.hid (Lib.iterAt_heap wr w6.heap.size s k (k + 1) hit.out)
        obtain ⟨W1, hW1⟩ : ∃ W1, wr.iterAt w6.heap.size s (k + 1) = W1 := ⟨_, rfl⟩
        rw [hW1] at hnx hB2 hit2
        have hBW := Lib.hid (hB6.out.trans (hB2.out.mono hB6.out.size))
        have hg : ((s[k]'hlt).toNat : Int) = gb s k := (hgb k hlt).symm ▸ rfl
        have HA := Lib.hid ha1
        clear hW1 ha1
        by_cases hc : gb s k = 47
        · have hc2 : (gb s k == 47) = true := by simpa using hc
          have hk47 : s.data.toList[k]? = some 47 := by
            have hk' : k < s.data.toList.length := by rw [len_size]; exact hlt
            rw [List.getElem?_eq_getElem hk']
            congr 1
            apply UInt8.toNat_inj.1
            have e : (s.data.toList[k]'hk').toNat = (s[k]'hlt).toNat := rfl
            rw [e]
            have : (47 : UInt8).toNat = 47 := rfl
            omega
          obtain ⟨t, hte⟩ : ∃ t, s.extract st k = t := ⟨_, rfl⟩
          have htd : t.data.toList = (s.data.toList.drop st).take (k - st) := by rw [← hte]; exact extract_mid s st k
          have hts : t.size ≤ 1099511627776 := by rw [← len_size, htd, List.length_take, List.length_drop, len_size]; omega
          have htm : t.data.toList ∈ cutL 47 s.data.toList := by rw [htd]; exact (piece_at hdone.out hk47).1
          have HEC := Lib.hid (HE.out W1 hBW.out t hts htm)
          have HTM := Lib.hid htm
          have HNX : Hid (EB K t.data.toList true → Done K s.data.toList (k + 1) (k + 1)) := Lib.hid fun h => hdone.out.stroke hk47 (by rw [← htd]; exact h)
          clear htd htm hk47 hc hg
          go_wp2_with (go_at_call 53; refine HEC.out.mono ?_; rintro e w7 ⟨b7, hEB, ⟨rfl, rfl, hb7⟩ | ⟨rfl, a7, t7, rfl, hc7, hb7⟩⟩)
          · have hit3 : Hid (w7.heap[w6.heap.size]? = some (.stringIter s (k + 1))) := Lib.hid (by rw [hb7.block _ (Array.getElem?_eq_some_iff.1 hit2.out).1]; exact hit2.out)
            have hB3 := Lib.hid (hB2.out.trans (hb7.mono hB2.out.size))
            go_roundw
            case rel => exact ⟨k + 1, k + 1, by go_num, by omega, Nat.le_refl _, hit3, hB3, Lib.hid (HNX.out hEB)⟩
            case measure => simp only [World.iterPos, hit.out, hit3.out]; omega
          · go_ret
            exact path_no (PB.elem HTM.out hEB) (ErrS.mono ⟨a7, t7, rfl, hc7, hb7⟩ hBW.out)
        · have hc2 : (gb s k == 47) = false := by simpa using hc
          have hd2 : Hid (Done K s.data.toList st (k + 1)) := Lib.hid (hdone.out.more fun j h1 h2 h3 => hc (by
            have e : j = k := by omega
            subst e
            rw [gb_lb]
            unfold lb
            rw [List.getD_eq_getElem?_getD, h3]
            rfl))
          clear hc hg
          go_wp2
          go_roundw
          case rel => exact ⟨st, k + 1, rfl, by omega, by omega, hit2, hB2, hd2⟩
          case measure => simp only [World.iterPos, hit.out, hit2.out]; omega
      · have hnx : ∀ ty, (Instr.next (.pointer (some ⟨w6.heap.size, 0, none⟩)) true ty).run Tryf.prog wr = _ := fun ty => Lib.run_next_any_at wr w6.heap.size s k ty hit.out hlt
        obtain ⟨hr1, hd1⟩ := decode_high s k hlt (by omega)
        have hle := decode_le s k hlt
        have hd2 := Lib.hid (hdone.out.more (decode_rest s k hlt ha1))
        obtain ⟨r, hr⟩ : ∃ r, (Utf8.decode s k).1 = r := ⟨_, rfl⟩
        obtain ⟨dd, hdd⟩ : ∃ dd, (Utf8.decode s k).2 = dd := ⟨_, rfl⟩
        rw [hr] at hr1 hnx
        rw [hdd] at hd1 hnx hle hd2
        have hB2 := Lib.hid (Lib.below_iterAt hB.out (k := w6.heap.size) (Nat.le_refl _) s (k + dd))
        have hit2 := Lib.hid (Lib.iterAt_heap wr w6.heap.size s k (k + dd) hit.out)
        obtain ⟨W1, hW1⟩ : ∃ W1, wr.iterAt w6.heap.size s (k + dd) = W1 := ⟨_, rfl⟩
        rw [hW1] at hnx hB2 hit2
        have hc2 : ((r : Int) == 47) = false := by simp; omega
        clear hW1 ha1 hr hdd
        go_wp2
        go_roundw
        case rel => exact ⟨st, k + dd, rfl, hle, by omega, hit2, hB2, hd2⟩
        case measure => simp only [World.iterPos, hit.out, hit2.out]; omega
    · have hnx : ∀ ty, (Instr.next (.pointer (some ⟨w6.heap.size, 0, none⟩)) true ty).run Tryf.prog wr = _ := fun ty => Lib.run_next_end_at wr w6.heap.size s k ty hit.out hlt
      have hBW := Lib.hid (hB6.out.trans (hB.out.mono hB6.out.size))
      obtain ⟨hl1, hl2⟩ := hdone.out.last (by rw [len_size]; omega)
      obtain ⟨t, hte⟩ : ∃ t, s.extract st s.size = t := ⟨_, rfl⟩
      have htd : t.data.toList = s.data.toList.drop st := by rw [← hte]; exact extract_drop s st
      have hts : t.size ≤ 1099511627776 := by rw [← len_size, htd, List.length_drop, len_size]; omega
      rw [← htd] at hl1 hl2
      have HEC := Lib.hid (HE.out wr hBW.out t hts hl1)
      have HTM := Lib.hid hl1
      have HL := Lib.hid hl2
      have hst2 : st ≤ s.size := by omega
      clear htd hl1 hl2
      go_wp2_with (go_at_call 53; refine HEC.out.mono ?_; rintro e w7 ⟨b7, hEB, ⟨rfl, rfl, hb7⟩ | ⟨rfl, a7, t7, rfl, hc7, hb7⟩⟩)
      · go_ret
        exact ⟨true, PB.yes (data_ne_nil h0) HD.out (HL.out hEB), .inl ⟨rfl, rfl, hBW.out.trans (hb7.mono hBW.out.size)⟩⟩
      · go_ret
        exact path_no (PB.elem HTM.out hEB) (ErrS.mono ⟨a7, t7, rfl, hc7, hb7⟩ hBW.out)

set_option maxHeartbeats 6000000 in
theorem path_mainB (F : Stop.Interp) (s : ByteArray) (hs : s.size ≤ 1099511627776) (w : World) (hF : F.answers w.tape) (hN : NamesIn w) (hX : (2 : Int) = 2 → asc s.data.toList ∨ HighOK w) (hv : ValidOK w s) (h0 : 0 < s.size) (h1 : gb s 0 = 45) (h2 : (idxL [47, 47] s.data.toList).isSome = false) (h3 : gb s (s.size - 1) ≠ 47) :
    Calls Tryf.prog 61 #[.string s, .int .i64 2] w (PathPost w 2 s.data.toList) := by
  have a1 : ¬ s.toList = [] := by rw [Lib.toList_data]; exact data_ne_nil h0
  have a2 : (s.toList == []) = false := by simpa using a1
  have a4 : (gb s (s.size - 1) == 47) = false := by simpa using h3
  have a5 : (gb s 0 == 45) = true := by simpa using h1
  have HD := Lib.hid (show ¬ (lb s.data.toList 0 = 45 ∧ (2 : Int) ≠ 2) from fun h => h.2 rfl)
  have hgb := get_gb s
  have HV := Lib.hid hv
  have HC := Lib.hid fun W => zzContains_at s hs h2 W
  have HE := Lib.hid fun (W : World) (hb : Below w.heap.size w W) (t : ByteArray) (ht : t.size ≤ 1099511627776) (hl : t.data.toList ∈ cutL 47 s.data.toList) => elem_at (.inr (.inr rfl)) hF hN hX hb t ht hl
  clear h1 h2 h3 hv hX hN
  go_enter Tryf.func61, Tryf.ntmps61
  go_wp2_with (first
    | (go_at_call 81; refine HV.out.mono ?_; rintro e w5 ⟨b, rfl, hb, hb5⟩; have HB5 := Lib.hid hb; clear hb)
    | (go_at_call 54; refine (HC.out _).mono ?_; rintro e w6 ⟨rfl, hb6⟩)
    | (go_at_call 55; refine (errorf_none _ (by simp) _).mono ?_; rintro e w9 ⟨a9, t9, rfl, hc9, hb9⟩))
  · go_ret
    exact path_no (fun ha _ => absurd (HB5.out ha) (by simp_all)) (ErrS.mono ⟨a9, t9, rfl, hc9, hb9⟩ hb5)
  have hB6 := Lib.hid (hb5.trans (hb6.mono hb5.size))
  go_loopw [5] (fun x wr => ∃ st k : Nat, x = .int .i64 st ∧ k ≤ s.size ∧ st ≤ k ∧ Hid (wr.heap[w6.heap.size]? = some (.stringIter s k)) ∧ Hid (Below w6.heap.size w6 wr) ∧ Hid (Done 2 s.data.toList st k)) (fun _ wr => s.size - wr.iterPos w6.heap.size)
  case atStart => exact ⟨0, 0, rfl, Nat.zero_le _, Nat.le_refl _, Lib.hid (World.iter_heap w6 s 0), Lib.hid ((Below.refl _ _).alloc (Nat.le_refl _) _), Lib.hid (Done.nil _ _)⟩
  case round =>
    obtain ⟨st, k, rfl, hk, hst, hit, hB, hdone⟩ := hrel
    by_cases hlt : k < s.size
    · by_cases ha1 : (s[k]'hlt).toNat < 128
      · have hnx : ∀ ty, (Instr.next (.pointer (some ⟨w6.heap.size, 0, none⟩)) true ty).run Tryf.prog wr = _ := fun ty => Lib.run_next_ascii_at wr w6.heap.size s k ty hit.out hlt ha1
        have hB2 := Lib.hid (Lib.below_iterAt hB.out (k := w6.heap.size) (Nat.le_refl _) s (k + 1))
        have hit2 := Lib.hid (Lib.iterAt_heap wr w6.heap.size s k (k + 1) hit.out)
        obtain ⟨W1, hW1⟩ : ∃ W1, wr.iterAt w6.heap.size s (k + 1) = W1 := ⟨_, rfl⟩
        rw [hW1] at hnx hB2 hit2
        have hBW := Lib.hid (hB6.out.trans (hB2.out.mono hB6.out.size))
        have hg : ((s[k]'hlt).toNat : Int) = gb s k := (hgb k hlt).symm ▸ rfl
        have HA := Lib.hid ha1
        clear hW1 ha1
        by_cases hc : gb s k = 47
        · have hc2 : (gb s k == 47) = true := by simpa using hc
          have hk47 : s.data.toList[k]? = some 47 := by
            have hk' : k < s.data.toList.length := by rw [len_size]; exact hlt
            rw [List.getElem?_eq_getElem hk']
            congr 1
            apply UInt8.toNat_inj.1
            have e : (s.data.toList[k]'hk').toNat = (s[k]'hlt).toNat := rfl
            rw [e]
            have : (47 : UInt8).toNat = 47 := rfl
            omega
          obtain ⟨t, hte⟩ : ∃ t, s.extract st k = t := ⟨_, rfl⟩
          have htd : t.data.toList = (s.data.toList.drop st).take (k - st) := by rw [← hte]; exact extract_mid s st k
          have hts : t.size ≤ 1099511627776 := by rw [← len_size, htd, List.length_take, List.length_drop, len_size]; omega
          have htm : t.data.toList ∈ cutL 47 s.data.toList := by rw [htd]; exact (piece_at hdone.out hk47).1
          have HEC := Lib.hid (HE.out W1 hBW.out t hts htm)
          have HTM := Lib.hid htm
          have HNX : Hid (EB 2 t.data.toList true → Done 2 s.data.toList (k + 1) (k + 1)) := Lib.hid fun h => hdone.out.stroke hk47 (by rw [← htd]; exact h)
          clear htd htm hk47 hc hg
          go_wp2_with (go_at_call 53; refine HEC.out.mono ?_; rintro e w7 ⟨b7, hEB, ⟨rfl, rfl, hb7⟩ | ⟨rfl, a7, t7, rfl, hc7, hb7⟩⟩)
          · have hit3 : Hid (w7.heap[w6.heap.size]? = some (.stringIter s (k + 1))) := Lib.hid (by rw [hb7.block _ (Array.getElem?_eq_some_iff.1 hit2.out).1]; exact hit2.out)
            have hB3 := Lib.hid (hB2.out.trans (hb7.mono hB2.out.size))
            go_roundw
            case rel => exact ⟨k + 1, k + 1, by go_num, by omega, Nat.le_refl _, hit3, hB3, Lib.hid (HNX.out hEB)⟩
            case measure => simp only [World.iterPos, hit.out, hit3.out]; omega
          · go_ret
            exact path_no (PB.elem HTM.out hEB) (ErrS.mono ⟨a7, t7, rfl, hc7, hb7⟩ hBW.out)
        · have hc2 : (gb s k == 47) = false := by simpa using hc
          have hd2 : Hid (Done 2 s.data.toList st (k + 1)) := Lib.hid (hdone.out.more fun j h1 h2 h3 => hc (by
            have e : j = k := by omega
            subst e
            rw [gb_lb]
            unfold lb
            rw [List.getD_eq_getElem?_getD, h3]
            rfl))
          clear hc hg
          go_wp2
          go_roundw
          case rel => exact ⟨st, k + 1, rfl, by omega, by omega, hit2, hB2, hd2⟩
          case measure => simp only [World.iterPos, hit.out, hit2.out]; omega
      · have hnx : ∀ ty, (Instr.next (.pointer (some ⟨w6.heap.size, 0, none⟩)) true ty).run Tryf.prog wr = _ := fun ty => Lib.run_next_any_at wr w6.heap.size s k ty hit.out hlt
        obtain ⟨hr1, hd1⟩ := decode_high s k hlt (by omega)
        have hle := decode_le s k hlt
        have hd2 := Lib.hid (hdone.out.more (decode_rest s k hlt ha1))
        obtain ⟨r, hr⟩ : ∃ r, (Utf8.decode s k).1 = r := ⟨_, rfl⟩
        obtain ⟨dd, hdd⟩ : ∃ dd, (Utf8.decode s k).2 = dd := ⟨_, rfl⟩
        rw [hr] at hr1 hnx
        rw [hdd] at hd1 hnx hle hd2
        have hB2 := Lib.hid (Lib.below_iterAt hB.out (k := w6.heap.size) (Nat.le_refl _) s (k + dd))
        have hit2 := Lib.hid (Lib.iterAt_heap wr w6.heap.size s k (k + dd) hit.out)
        obtain ⟨W1, hW1⟩ : ∃ W1, wr.iterAt w6.heap.size s (k + dd) = W1 := ⟨_, rfl⟩
        rw [hW1] at hnx hB2 hit2
        have hc2 : ((r : Int) == 47) = false := by simp; omega
        clear hW1 ha1 hr hdd
        go_wp2
        go_roundw
        case rel => exact ⟨st, k + dd, rfl, hle, by omega, hit2, hB2, hd2⟩
        case measure => simp only [World.iterPos, hit.out, hit2.out]; omega
    · have hnx : ∀ ty, (Instr.next (.pointer (some ⟨w6.heap.size, 0, none⟩)) true ty).run Tryf.prog wr = _ := fun ty => Lib.run_next_end_at wr w6.heap.size s k ty hit.out hlt
      have hBW := Lib.hid (hB6.out.trans (hB.out.mono hB6.out.size))
      obtain ⟨hl1, hl2⟩ := hdone.out.last (by rw [len_size]; omega)
      obtain ⟨t, hte⟩ : ∃ t, s.extract st s.size = t := ⟨_, rfl⟩
      have htd : t.data.toList = s.data.toList.drop st := by rw [← hte]; exact extract_drop s st
      have hts : t.size ≤ 1099511627776 := by rw [← len_size, htd, List.length_drop, len_size]; omega
      rw [← htd] at hl1 hl2
      have HEC := Lib.hid (HE.out wr hBW.out t hts hl1)
      have HTM := Lib.hid hl1
      have HL := Lib.hid hl2
      have hst2 : st ≤ s.size := by omega
      clear htd hl1 hl2
      go_wp2_with (go_at_call 53; refine HEC.out.mono ?_; rintro e w7 ⟨b7, hEB, ⟨rfl, rfl, hb7⟩ | ⟨rfl, a7, t7, rfl, hc7, hb7⟩⟩)
      · go_ret
        exact ⟨true, PB.yes (data_ne_nil h0) HD.out (HL.out hEB), .inl ⟨rfl, rfl, hBW.out.trans (hb7.mono hBW.out.size)⟩⟩
      · go_ret
        exact path_no (PB.elem HTM.out hEB) (ErrS.mono ⟨a7, t7, rfl, hc7, hb7⟩ hBW.out)

theorem path_any (K : Int) (hK : K = 0 ∨ K = 1 ∨ K = 2) (F : Stop.Interp) (s : ByteArray) (hs : s.size ≤ 1099511627776) (w : World) (hF : F.answers w.tape) (hN : NamesIn w) (hX : K = 2 → asc s.data.toList ∨ HighOK w) (hv : ValidOK w s) :
    Calls Tryf.prog 61 #[.string s, .int .i64 K] w (PathPost w K s.data.toList) := by
  by_cases h0 : s.size = 0
  · exact path_empty K s w hv h0
  have h0' : 0 < s.size := by omega
  by_cases h1 : gb s 0 = 45 ∧ K ≠ 2
  · exact path_dash K s hs w hv h0' h1.1 h1.2
  cases h2 : (idxL [47, 47] s.data.toList).isSome with
  | true => exact path_twice K s hs w hv h0' h1 h2
  | false =>
    by_cases h3 : gb s (s.size - 1) = 47
    · exact path_last K s hs w hv h0' h1 h2 h3
    by_cases h4 : gb s 0 = 45
    · have hk : K = 2 := Classical.byContradiction fun h => h1 ⟨h4, h⟩
      subst hk
      exact path_mainB F s hs w hF hN hX hv h0' h4 h2 h3
    · exact path_mainA K hK F s hs w hF hN hX hv h0' h4 h2 h3

end Go.Proofs.YtpbebckhemnooaaFmt.PS
