/- Searches in texts: zzCount of a dot, zzContainsRune in the letters of files' names, fileNameOK below 128; the conditions are bounds on sizes and runes. What the printed searches of package module come to, as plain functions on lists of bytes, and their contracts in that form; the conditions are bounds on sizes. strings.EqualFold of two texts of ASCII alone; the walk is turned from the shelf's. -/
import Derived.Test.YtpbebckhemnooaaFmtReserved
import Derived.Lib.OthersKept
import Derived.Lib.RuneCount
import Derived.Lib.DecodeN
import Derived.Lib.Strings
import Derived.Test.YtpbebckhemnooaaFmtPSx6
import Derived.Test.YtpbebckhemnooaaFmtPSx7
import Derived.Test.YtpbebckhemnooaaFmtProg
import Derived.WalkKit
import Derived.Lib.Walk
import Derived.Laws.Strings3
import Derived.Deep.LoopGhost
import Derived.Lib.Fold

namespace Go.Proofs.YtpbebckhemnooaaFmt.PS
open Go.RowKit Go.Proofs.YtpbebckhemnooaaFmtW.PrintWords Go.Proofs.YtpbebckhemnooaaFmtW.PrintLast Go.Proofs.YtpbebckhemnooaaFmtW.PrintMore
set_option linter.unusedVariables false
set_option linter.unusedSimpArgs false

theorem ret_int {k : IntKind} {a b : Int} (h : a = b) : Ending.returned (.int k a) = .returned (.int k b) := by rw [h]
theorem ret_bool {a b : Bool} (h : a = b) : Ending.returned (.bool a) = .returned (.bool b) := by rw [h]

/-- How many dots. -/
def dots (l : List UInt8) : Nat := (l.filter (· == 46)).length
theorem dots_le (l : List UInt8) : dots l ≤ l.length := List.length_filter_le _ _

theorem take_succ_gb (s : ByteArray) {k : Nat} (h : k < s.size) : ∃ c : UInt8, s.data.toList.take (k + 1) = s.data.toList.take k ++ [c] ∧ s.data.toList.drop k = c :: s.data.toList.drop (k + 1) ∧ gb s k = (c.toNat : Int) ∧ s.data.toList[k]? = some c := by
  have h' : k < s.data.toList.length := by rw [len_size]; exact h
  refine ⟨s.data.toList[k], List.take_succ_eq_append_getElem h', List.drop_eq_getElem_cons h', ?_, List.getElem?_eq_getElem h'⟩
  unfold gb
  rw [List.getD, List.getElem?_eq_getElem h']
  rfl

theorem cut_one (s : ByteArray) {k : Nat} {c : UInt8} (hd : s.data.toList.drop k = c :: s.data.toList.drop (k + 1)) : (s.extract k (k + 1)).toList = [c] := by
  rw [Lib.extract_toList, hd]
  have : k + 1 - k = 1 := by omega
  rw [this]
  rfl

theorem dots_snoc (l : List UInt8) (c : UInt8) : dots (l ++ [c]) = dots l + if c = 46 then 1 else 0 := by
  unfold dots
  rw [List.filter_append, List.length_append]
  by_cases h : c = 46 <;> simp [List.filter_cons, h]

set_option maxHeartbeats 1600000 in
theorem zzCount_dot (s : ByteArray) (hs : s.size ≤ 1099511627776) (w : World) :
    Calls Tryf.prog 72 #[.string s, .string ⟨#[46]⟩] w fun e w' => e = .returned (.int .i64 (dots s.data.toList : Int)) ∧ w = w' := by
  go_enter Tryf.func72, Tryf.ntmps72
  go_wp2
  go_loop [5, 6] (fun n i => ∃ k : Nat, k ≤ s.size ∧ i = .int .i64 k ∧ n = .int .i64 (dots (s.data.toList.take k) : Int)) (fun _ i => s.size - (intOf i).toNat)
  case atStart => exact ⟨0, Nat.zero_le _, rfl, rfl⟩
  case round =>
    obtain ⟨k, hk, rfl, rfl⟩ := hrel
    have hd0 := dots_le (s.data.toList.take k)
    have hl0 : (s.data.toList.take k).length ≤ k := List.length_take_le _ _
    by_cases hlt : k < s.size
    · obtain ⟨c, ht, hdr, -, -⟩ := take_succ_gb s hlt
      have hx := cut_one s hdr
      have HT := Lib.hid ht
      clear ht hdr
      by_cases hc : c = 46
      · subst hc
        have hx1 : ((s.extract k (k + 1)).toList == [46]) = true := by rw [hx]; rfl
        clear hx
        go_wp2
        go_round
        case rel => exact ⟨k + 1, by omega, by go_num, by rw [HT.out, dots_snoc]; simp⟩
        case measure => simp [intOf]; omega
      · have hx1 : ((s.extract k (k + 1)).toList == [46]) = false := by rw [hx]; simp [hc]
        clear hx
        go_wp2
        go_round
        case rel => exact ⟨k + 1, by omega, by go_num, by rw [HT.out, dots_snoc]; simp [hc]⟩
        case measure => simp [intOf]; omega
    · go_wp2
      go_ret
      exact ⟨ret_int (by rw [List.take_of_length_le (by rw [len_size]; omega)]), rfl⟩

/-- Is a byte among the bytes of a text? -/
def hasB (l : List UInt8) (r : Int) : Bool := l.any fun c => decide ((c.toNat : Int) = r)

def IdxRune (l : List UInt8) (r : Int) (w : World) (e : Ending) (w' : World) : Prop := ∃ i : Int, e = .returned (.int .i64 i) ∧ (0 ≤ i ↔ hasB l r = true) ∧ Below w.heap.size w w'

theorem gb_ascii {s : ByteArray} (ha : ∀ c ∈ s.data.toList, c.toNat < 128) (k : Nat) (h : k < s.size) : (s[k]'h).toNat < 128 := by
  have h' : k < s.data.toList.length := by rw [len_size]; exact h
  exact ha _ (List.getElem_mem h')

set_option maxHeartbeats 1600000 in
theorem zzIndexRune_ascii (s : ByteArray) (r : Int) (hs : s.size ≤ 1099511627776) (ha : ∀ c ∈ s.data.toList, c.toNat < 128) (h0 : 0 ≤ r) (h1 : r < 128) (w : World) :
    Calls Tryf.prog 102 #[.string s, .int .i32 r] w (IdxRune s.data.toList r w) := by
  have HA := Lib.hid ha
  clear ha
  have hgb := get_gb s
  go_enter Tryf.func102, Tryf.ntmps102
  go_wp2
  go_loopw [] (fun wr => ∃ k : Nat, k ≤ s.size ∧ Hid (wr.heap[w.heap.size]? = some (.stringIter s k)) ∧ Hid (Below w.heap.size w wr) ∧ Hid (hasB (s.data.toList.take k) r = false)) (fun wr => s.size - wr.iterPos w.heap.size)
  case atStart => exact ⟨0, Nat.zero_le _, Lib.hid (World.iter_heap w s 0), Lib.hid ((Below.refl _ _).alloc (Nat.le_refl _) _), Lib.hid rfl⟩
  case round =>
    obtain ⟨k, hk, hit, hB, hno⟩ := hrel
    by_cases hlt : k < s.size
    · obtain ⟨c, ht, hdr, hg, -⟩ := take_succ_gb s hlt
      have ha1 := gb_ascii HA.out k hlt
      have hnx : ∀ ty, (Instr.next (.pointer (some ⟨w.heap.size, 0, none⟩)) true ty).run Tryf.prog wr = _ := fun ty => Lib.run_next_ascii_at wr w.heap.size s k ty hit.out hlt ha1
      have hB2 := Lib.hid (Lib.below_iterAt hB.out (k := w.heap.size) (Nat.le_refl _) s (k + 1))
      have hit2 := Lib.hid (Lib.iterAt_heap wr w.heap.size s k (k + 1) hit.out)
      obtain ⟨W1, hW1⟩ : ∃ W1, wr.iterAt w.heap.size s (k + 1) = W1 := ⟨_, rfl⟩
      rw [hW1] at hnx hB2 hit2
      have HT := Lib.hid ht
      have HG := Lib.hid hg
      clear ht hdr hg ha1 hW1
      have hlo := gb_lo s k
      have hhi := gb_hi s k
      by_cases hr : gb s k = r
      · have hb : (gb s k == r) = true := by simpa using hr
        have hmem : hasB s.data.toList r = true := by
          unfold hasB
          rw [← List.take_append_drop (k + 1) s.data.toList, HT.out]
          simp [← HG.out, hr]
        have HM := Lib.hid hmem
        clear hmem hr
        go_wp2
        go_ret
        exact ⟨_, rfl, ⟨fun _ => HM.out, fun _ => by omega⟩, hB2.out⟩
      · have hb : (gb s k == r) = false := by simpa using hr
        have hno2 : Hid (hasB (s.data.toList.take (k + 1)) r = false) := Lib.hid (by
          have := hno.out
          unfold hasB at this ⊢
          rw [HT.out, List.any_append, this]
          simp [← HG.out, hr])
        clear hr
        go_wp2
        go_roundw
        case rel => exact ⟨k + 1, by omega, hit2, hB2, hno2⟩
        case measure => simp only [World.iterPos, hit.out, hit2.out]; omega
    · have hnx : ∀ ty, (Instr.next (.pointer (some ⟨w.heap.size, 0, none⟩)) true ty).run Tryf.prog wr = _ := fun ty => Lib.run_next_end_at wr w.heap.size s k ty hit.out hlt
      have hno2 := hno.out
      rw [List.take_of_length_le (by rw [len_size]; omega)] at hno2
      have HN := Lib.hid hno2
      clear hno2
      go_wp2
      go_ret
      exact ⟨_, rfl, ⟨fun h => by omega, fun h => by rw [HN.out] at h; cases h⟩, hB.out⟩

def othersF : List UInt8 := [33, 35, 36, 37, 38, 40, 41, 43, 44, 45, 46, 61, 64, 91, 93, 94, 95, 123, 125, 126, 32]

set_option maxHeartbeats 800000 in
theorem zzContainsRune_any (r : Int) (h0 : 0 ≤ r) (h1 : r < 128) (w : World) :
    Calls Tryf.prog 90 #[.string ⟨#[33, 35, 36, 37, 38, 40, 41, 43, 44, 45, 46, 61, 64, 91, 93, 94, 95, 123, 125, 126, 32]⟩, .int .i32 r] w fun e w' => e = .returned (.bool (hasB othersF r)) ∧ Below w.heap.size w w' := by
  have hc := fun W => zzIndexRune_ascii ⟨#[33, 35, 36, 37, 38, 40, 41, 43, 44, 45, 46, 61, 64, 91, 93, 94, 95, 123, 125, 126, 32]⟩ r (by decide) (by decide) h0 h1 W
  have HC := Lib.hid hc
  clear hc
  go_enter Tryf.func90, Tryf.ntmps90
  go_wp2_with fail
  refine (HC.out _).mono ?_
  rintro e w' ⟨i, rfl, hi, hb⟩
  have HI := Lib.hid hi
  clear hi
  by_cases h : 0 ≤ i
  · go_wp2
    go_ret
    exact ⟨ret_bool (by rw [show othersF = (⟨#[33, 35, 36, 37, 38, 40, 41, 43, 44, 45, 46, 61, 64, 91, 93, 94, 95, 123, 125, 126, 32]⟩ : ByteArray).data.toList from rfl, HI.out.1 h]), hb⟩
  · go_wp2
    go_ret
    refine ⟨ret_bool ?_, hb⟩
    cases hh : hasB othersF r with
    | true => have := HI.out.2 hh; omega
    | false => exact decide_eq_false (by omega)

/-- A rune below 128 that may stand in a file's name. -/
def fileOK (r : Int) : Bool := decide (48 ≤ r ∧ r ≤ 57) || decide (65 ≤ r ∧ r ≤ 90) || decide (97 ≤ r ∧ r ≤ 122) || hasB othersF r

set_option maxHeartbeats 1600000 in
theorem fileNameOK_ascii (r : Int) (h0 : 0 ≤ r) (h1 : r < 128) (w : World) :
    Calls Tryf.prog 75 #[.int .i32 r] w fun e w' => e = .returned (.bool (fileOK r)) ∧ Below w.heap.size w w' := by
  by_cases c1 : 48 ≤ r ∧ r ≤ 57
  · have e1 : fileOK r = true := by simp [fileOK, c1]
    obtain ⟨c1, c2⟩ := c1
    have E1 := Lib.hid e1
    clear e1
    go_enter Tryf.func75, Tryf.ntmps75
    go_wp2_with fail
    go_ret
    exact ⟨ret_bool E1.out.symm, Below.refl _ _⟩
  by_cases c2 : 65 ≤ r ∧ r ≤ 90
  · have e1 : fileOK r = true := by simp [fileOK, c2]
    obtain ⟨c2, c3⟩ := c2
    have E1 := Lib.hid e1
    clear e1 c1
    go_enter Tryf.func75, Tryf.ntmps75
    go_wp2_with fail
    go_ret
    exact ⟨ret_bool E1.out.symm, Below.refl _ _⟩
  by_cases c3 : 97 ≤ r ∧ r ≤ 122
  · have e1 : fileOK r = true := by simp [fileOK, c3]
    obtain ⟨c3, c4⟩ := c3
    have E1 := Lib.hid e1
    clear e1 c1 c2
    go_enter Tryf.func75, Tryf.ntmps75
    go_wp2_with fail
    go_ret
    exact ⟨ret_bool E1.out.symm, Below.refl _ _⟩
  have e1 : fileOK r = hasB othersF r := by simp [fileOK, c1, c2, c3]
  have E1 := Lib.hid e1
  have C1 := Lib.hid c1
  have C2 := Lib.hid c2
  have C3 := Lib.hid c3
  clear e1 c1 c2 c3
  by_cases d1 : 48 ≤ r
  · by_cases d2 : 65 ≤ r
    · by_cases d3 : 97 ≤ r
      · have x1 : 122 < r := by have := C3.out; omega
        go_enter Tryf.func75, Tryf.ntmps75
        go_wp2_with (go_at_call 90; refine (zzContainsRune_any r h0 h1 _).mono ?_; rintro e w' ⟨rfl, hb⟩)
        go_ret
        exact ⟨ret_bool E1.out.symm, hb⟩
      · have x1 : 90 < r := by have := C2.out; omega
        go_enter Tryf.func75, Tryf.ntmps75
        go_wp2_with (go_at_call 90; refine (zzContainsRune_any r h0 h1 _).mono ?_; rintro e w' ⟨rfl, hb⟩)
        go_ret
        exact ⟨ret_bool E1.out.symm, hb⟩
    · have x1 : 57 < r := by have := C1.out; omega
      go_enter Tryf.func75, Tryf.ntmps75
      go_wp2_with (go_at_call 90; refine (zzContainsRune_any r h0 h1 _).mono ?_; rintro e w' ⟨rfl, hb⟩)
      go_ret
      exact ⟨ret_bool E1.out.symm, hb⟩
  · go_enter Tryf.func75, Tryf.ntmps75
    go_wp2_with (go_at_call 90; refine (zzContainsRune_any r h0 h1 _).mono ?_; rintro e w' ⟨rfl, hb⟩)
    go_ret
    exact ⟨ret_bool E1.out.symm, hb⟩

end Go.Proofs.YtpbebckhemnooaaFmt.PS

namespace Go.Proofs.YtpbebckhemnooaaFmt.PS
open Go.RowKit Go.Proofs.YtpbebckhemnooaaFmtW.PrintWords Go.Proofs.YtpbebckhemnooaaFmtW.PrintLast Go.Proofs.YtpbebckhemnooaaFmtW.PrintMore
set_option linter.unusedVariables false
set_option linter.unusedSimpArgs false

theorem w64 {x : Int} (h0 : -9223372036854775808 ≤ x) (h1 : x ≤ 9223372036854775807) : wrap64 x = x := by unfold wrap64; omega

theorem drawn_below {w w' : World} (h : Drawn0 w w') : Below w.heap.size w w' := h.below

/-! ### the first place of a piece -/
def idxL (p : List UInt8) : List UInt8 → Option Nat
  | [] => none
  | c :: l => if (c :: l).take p.length = p then some 0 else (idxL p l).map (· + 1)
def idxI (p l : List UInt8) : Int := match idxL p l with | some i => (i : Int) | none => -1

theorem idxL_short (p : List UInt8) : ∀ l : List UInt8, l.length < p.length → idxL p l = none
  | [], _ => rfl
  | c :: l, h => by
    have h1 : (c :: l).take p.length ≠ p := fun e => by
      have := congrArg List.length e
      simp at this h
      omega
    have h2 := idxL_short p l (by simp at h; omega)
    simp [idxL, h1, h2]

theorem zzIndex_from (s sub : ByteArray) (hs : s.size ≤ 1099511627776) (hm : 1 ≤ sub.size) (hm2 : sub.size ≤ 1000) (d : Nat) : ∀ (k i : Nat), i ≤ s.size → s.size - i ≤ d → d < k →
    module_zzIndex.l0 k s sub (i : Int) = some (match idxL sub.data.toList (s.data.toList.drop i) with | some j => ((i + j : Nat) : Int) | none => -1) := by
  have hpl : sub.data.toList.length = sub.size := len_size sub
  have hsl : s.data.toList.length = s.size := len_size s
  induction d with
  | zero =>
    intro k i hi hd hk
    obtain ⟨k, rfl⟩ : ∃ m, k = m + 1 := ⟨k - 1, by omega⟩
    have he : i = s.size := by omega
    have h1 : idxL sub.data.toList (s.data.toList.drop i) = none := idxL_short _ _ (by rw [List.length_drop, hsl, hpl]; omega)
    rw [h1]
    simp only [module_zzIndex.l0]
    rw [w64 (by omega) (by omega), if_neg (by omega)]
  | succ d ih =>
    intro k i hi hd hk
    obtain ⟨k, rfl⟩ : ∃ m, k = m + 1 := ⟨k - 1, by omega⟩
    simp only [module_zzIndex.l0]
    rw [w64 (by omega) (by omega)]
    by_cases hlt : (i : Int) + (sub.size : Int) ≤ (s.size : Int)
    · rw [if_pos hlt, if_pos (by omega), if_pos (by omega)]
      have hil : i < s.data.toList.length := by rw [hsl]; omega
      have e1 : (s.extract ((i : Int)).toNat ((i : Int) + (sub.size : Int)).toNat).toList = (s.data.toList.drop i).take sub.data.toList.length := by
        rw [Lib.extract_toList, hpl]
        have a1 : ((i : Int)).toNat = i := by omega
        have a2 : ((i : Int) + (sub.size : Int)).toNat - ((i : Int)).toNat = sub.size := by omega
        rw [a2, a1]
      rw [e1, Lib.toList_data sub]
      have hd1 : s.data.toList.drop i = s.data.toList[i] :: s.data.toList.drop (i + 1) := List.drop_eq_getElem_cons hil
      by_cases hx : (s.data.toList.drop i).take sub.data.toList.length = sub.data.toList
      · rw [if_pos hx, hd1]
        rw [hd1] at hx
        simp only [idxL, if_pos hx]
        simp
      · rw [if_neg hx, w64 (by omega) (by omega)]
        have := ih k (i + 1) (by omega) (by omega) (by omega)
        rw [show ((i : Int) + 1) = ((i + 1 : Nat) : Int) from by omega, this, hd1]
        rw [hd1] at hx
        simp only [idxL, if_neg hx]
        cases idxL sub.data.toList (s.data.toList.drop (i + 1)) with
        | none => rfl
        | some j =>
          show some ((i + 1 + j : Nat) : Int) = some ((i + (j + 1) : Nat) : Int)
          rw [show i + 1 + j = i + (j + 1) by omega]
    · rw [if_neg hlt]
      have h1 : idxL sub.data.toList (s.data.toList.drop i) = none := idxL_short _ _ (by rw [List.length_drop, hsl, hpl]; omega)
      rw [h1]

theorem zzIndex_eq (s sub : ByteArray) (hs : s.size ≤ 1099511627776) (hm : 1 ≤ sub.size) (hm2 : sub.size ≤ 1000) :
    module_zzIndex.f (s.size + 1) s sub = some (idxI sub.data.toList s.data.toList) := by
  have := zzIndex_from s sub hs hm hm2 s.size (s.size + 1) 0 (by omega) (by omega) (by omega)
  unfold module_zzIndex.f idxI
  rw [show (0 : Int) = ((0 : Nat) : Int) from rfl, this]
  simp only [List.drop_zero]
  cases idxL sub.data.toList s.data.toList <;> simp

theorem zzIndex_any (s sub : ByteArray) (hs : s.size ≤ 1099511627776) (hm : 1 ≤ sub.size) (hm2 : sub.size ≤ 1000) (w : World) :
    Calls Tryf.prog 63 #[.string s, .string sub] w fun e w' => e = .returned (.int .i64 (idxI sub.data.toList s.data.toList)) ∧ Below w.heap.size w w' :=
  (module_zzIndex.calls _ s sub _ w (zzIndex_eq s sub hs hm hm2)).mono fun _ _ ⟨he, hd⟩ => ⟨he, drawn_below hd⟩

theorem zzContains_any (s sub : ByteArray) (hs : s.size ≤ 1099511627776) (hm : 1 ≤ sub.size) (hm2 : sub.size ≤ 1000) (w : World) :
    Calls Tryf.prog 54 #[.string s, .string sub] w fun e w' => e = .returned (.bool (idxL sub.data.toList s.data.toList).isSome) ∧ Below w.heap.size w w' := by
  refine (module_zzContains.calls (s.size + 1) s sub _ w ?_).mono fun _ _ ⟨he, hd⟩ => ⟨he, drawn_below hd⟩
  unfold module_zzContains.f
  rw [zzIndex_eq s sub hs hm hm2, Option.bind_some]
  unfold idxI
  cases idxL sub.data.toList s.data.toList <;> simp

/-! ### the last place of a byte -/
/-- The place of the last byte c, -1 if there is none. -/
def lastI (c : Int) : List UInt8 → Int
  | [] => -1
  | x :: l => if 0 ≤ lastI c l then lastI c l + 1 else if (x.toNat : Int) = c then 0 else -1

theorem lastI_range (c : Int) : ∀ l : List UInt8, -1 ≤ lastI c l ∧ lastI c l < l.length
  | [] => by simp [lastI]
  | x :: l => by
    have := lastI_range c l
    simp only [lastI, List.length_cons]
    split <;> (try split) <;> omega

theorem lastI_snoc (c : Int) (x : UInt8) : ∀ l : List UInt8, lastI c (l ++ [x]) = if (x.toNat : Int) = c then (l.length : Int) else lastI c l
  | [] => by simp [lastI]
  | y :: l => by
    have h := lastI_snoc c x l
    have hr := lastI_range c l
    simp only [List.cons_append, lastI, h, List.length_cons]
    by_cases e : (x.toNat : Int) = c
    · simp only [e, if_true]
      rw [if_pos (by omega)]
      omega
    · simp only [e, if_false]

theorem gb_take (s : ByteArray) {k : Nat} (h : k < s.size) : ∃ c : UInt8, s.data.toList.take (k + 1) = s.data.toList.take k ++ [c] ∧ bt s (k : Int) = (c.toNat : Int) := by
  obtain ⟨c, h1, _, h2, _⟩ := take_succ_gb s h
  refine ⟨c, h1, ?_⟩
  rw [← h2]
  have := get_gb s k h
  unfold bt
  have e : ((k : Int)).toNat = k := by omega
  simp only [e, h, dif_pos]
  exact this

theorem last_from (s : ByteArray) (c : Int) (hs : s.size ≤ 1099511627776) (d : Nat) : ∀ (k : Nat), d ≤ s.size → d < k →
    bytealg_LastIndexByteString.l0 k s c ((d : Int) - 1) = some (lastI c (s.data.toList.take d)) := by
  induction d with
  | zero =>
    intro k _ hk
    obtain ⟨k, rfl⟩ : ∃ m, k = m + 1 := ⟨k - 1, by omega⟩
    simp only [bytealg_LastIndexByteString.l0]
    rw [if_neg (by omega)]
    rfl
  | succ d ih =>
    intro k hd hk
    obtain ⟨k, rfl⟩ : ∃ m, k = m + 1 := ⟨k - 1, by omega⟩
    simp only [bytealg_LastIndexByteString.l0]
    have e : ((d + 1 : Nat) : Int) - 1 = (d : Int) := by omega
    rw [e, if_pos (by omega), if_pos (by omega), if_pos (by omega)]
    obtain ⟨x, h1, h2⟩ := gb_take s (k := d) (by omega)
    rw [h2, h1, lastI_snoc]
    by_cases hx : (x.toNat : Int) = c
    · rw [if_pos hx, if_pos hx]
      have : (s.data.toList.take d).length = d := by rw [List.length_take, len_size]; omega
      rw [this]
    · rw [if_neg hx, if_neg hx, w64 (by omega) (by omega)]
      exact ih k (by omega) (by omega)

theorem lastByte_any (s : ByteArray) (c : Int) (hs : s.size ≤ 1099511627776) (w : World) :
    Calls Tryf.prog 78 #[.string s, .int .u8 c] w fun e w' => e = .returned (.int .i64 (lastI c s.data.toList)) ∧ Below w.heap.size w w' := by
  refine (strings_LastIndexByte.calls (s.size + 1) s c _ w ?_).mono fun _ _ ⟨he, hd⟩ => ⟨he, drawn_below hd⟩
  unfold strings_LastIndexByte.f bytealg_LastIndexByteString.f
  rw [w64 (by omega) (by omega), last_from s c hs s.size (s.size + 1) (by omega) (by omega), Option.bind_some]
  rw [List.take_of_length_le (by rw [len_size]; exact Nat.le_refl _)]

/-! ### runes of paths -/
def modI (r : Int) : Bool := decide (r < 128) && (r == 45 || r == 46 || r == 95 || r == 126 || decide (48 ≤ r ∧ r ≤ 57) || decide (65 ≤ r ∧ r ≤ 90) || decide (97 ≤ r ∧ r ≤ 122))
theorem modI_eq (r : Int) : module_modPathOK.f r = some (modI r) := by
  unfold module_modPathOK.f modI
  repeat' split
  all_goals (congr 1; rw [Bool.eq_iff_iff]; simp only [Bool.and_eq_true, Bool.or_eq_true, decide_eq_true_eq, beq_iff_eq, true_iff, false_iff, reduceCtorEq]; omega)
theorem mod_any (r : Int) (w : World) : Calls Tryf.prog 73 #[.int .i32 r] w fun e w' => e = .returned (.bool (modI r)) ∧ Below w.heap.size w w' :=
  (module_modPathOK.calls r _ w (modI_eq r)).mono fun _ _ ⟨he, hd⟩ => ⟨he, drawn_below hd⟩
theorem imp_any (r : Int) (w : World) : Calls Tryf.prog 74 #[.int .i32 r] w fun e w' => e = .returned (.bool (modI r || r == 43)) ∧ Below w.heap.size w w' := by
  refine (module_importPathOK.calls r _ w ?_).mono fun _ _ ⟨he, hd⟩ => ⟨he, drawn_below hd⟩
  unfold module_importPathOK.f
  rw [modI_eq, Option.bind_some]
  cases modI r <;> simp
def firstI (r : Int) : Bool := r == 45 || r == 46 || decide (48 ≤ r ∧ r ≤ 57) || decide (97 ≤ r ∧ r ≤ 122)
theorem first_any (r : Int) (w : World) : Calls Tryf.prog 64 #[.int .i32 r] w fun e w' => e = .returned (.bool (firstI r)) ∧ Below w.heap.size w w' := by
  refine (module_firstPathOK.calls r _ w ?_).mono fun _ _ ⟨he, hd⟩ => ⟨he, drawn_below hd⟩
  unfold module_firstPathOK.f firstI
  repeat' split
  all_goals (congr 1; rw [Bool.eq_iff_iff]; simp only [Bool.and_eq_true, Bool.or_eq_true, decide_eq_true_eq, beq_iff_eq, true_iff, false_iff, reduceCtorEq]; omega)

end Go.Proofs.YtpbebckhemnooaaFmt.PS

namespace Go.Proofs.YtpbebckhemnooaaFmt
open Go.RowKit Go.Lib
set_option linter.unusedVariables false
set_option linter.unusedSimpArgs false

set_option maxHeartbeats 8000000 in
set_option maxRecDepth 1000000 in
theorem fold_ascii (s t : ByteArray) (w : World) (hs : s.size < 4294967281)
    (has : ∀ (j : Nat) b, s.data.toList[j]? = some b → b.toNat < 128) (hat : ∀ (j : Nat) b, t.data.toList[j]? = some b → b.toNat < 128) :
    Calls Tryf.prog 77 #[.string s, .string t] w fun e w' => e = .returned (.bool (Lib.equalFold s.data.toList t.data.toList)) ∧ w' = w := by
  have HS : Aside (∀ (j : Nat) b, s.data.toList[j]? = some b → b.toNat < 128) := has
  have HT : Aside (∀ (j : Nat) b, t.data.toList[j]? = some b → b.toNat < 128) := hat
  clear has hat
  obtain ⟨M, hM⟩ : ∃ M : Nat, min (s.size : Int) (t.size : Int) = (M : Int) := ⟨min s.size t.size, by omega⟩
  have hMs : M ≤ s.size := by omega
  have hMt : M ≤ t.size := by omega
  have hMe : M = s.size ∨ M = t.size := by omega
  go_enter Tryf.func77, Tryf.ntmps77
  go_wp2
  go_step3
  go_wp2
  go_loopg [5] M (fun g s5 wx => w = wx ∧ ∃ i : Nat, i + g = M ∧ s5 = .int .i64 i ∧ Lib.equalFold (s.data.toList.drop i) (t.data.toList.drop i) = Lib.equalFold s.data.toList t.data.toList)
  case atStart => exact ⟨rfl, 0, by omega, rfl, rfl⟩
  case round =>
    obtain ⟨rfl, i, hig, rfl, hinv⟩ := hrel
    have HI : Aside (Lib.equalFold (s.data.toList.drop i) (t.data.toList.drop i) = Lib.equalFold s.data.toList t.data.toList) := hinv
    clear hinv hM
    cases gk with
    | zero =>
      -- the shorter one has come to its end: 'return len(s) == len(t)'
      have hiM : ¬ ((i : Int) < (M : Int)) := by omega
      obtain rfl : i = M := by omega
      have hE : Lib.equalFold s.data.toList t.data.toList = decide (s.size = t.size) := by
        rw [← HI.out, Lib.equalFold_end _ _ (by
          rcases hMe with h | h
          · exact Or.inl (List.drop_eq_nil_of_le (by rw [← Lib.size_eq]; omega))
          · exact Or.inr (List.drop_eq_nil_of_le (by rw [← Lib.size_eq]; omega))), List.length_drop, List.length_drop, ← Lib.size_eq, ← Lib.size_eq]
        exact decide_eq_decide.2 (by omega)
      by_cases hst : s.size = t.size
      · have hb : ((s.size : Int) == (t.size : Int)) = true := beq_iff_eq.2 (by omega)
        go_wp2
        go_ret
        exact ⟨by rw [hE]; simp [hst], rfl⟩
      · have hb : ((s.size : Int) == (t.size : Int)) = false := beq_eq_false_iff_ne.2 (by omega)
        go_wp2
        go_ret
        exact ⟨by rw [hE]; simp [hst], rfl⟩
    | succ g =>
      have hiM : (i : Int) < (M : Int) := by omega
      have hisz : (i : Int) < (s.size : Int) := by omega
      have hitz : (i : Int) < (t.size : Int) := by omega
      obtain ⟨x, hx⟩ : ∃ x : UInt8, s[i]'(by omega) = x := ⟨_, rfl⟩
      obtain ⟨y, hy⟩ : ∃ y : UInt8, t[i]'(by omega) = y := ⟨_, rfl⟩
      have hxl : s.data.toList[i]? = some x := by rw [← hx]; exact Lib.data_getElem? s i (by omega)
      have hyl : t.data.toList[i]? = some y := by rw [← hy]; exact Lib.data_getElem? t i (by omega)
      have hx128 : x.toNat < 128 := HS.out i x hxl
      have hy128 : y.toNat < 128 := HT.out i y hyl
      have hor : bits .or .u8 (x.toNat : Int) (y.toNat : Int) = ((x.toNat ||| y.toNat : Nat) : Int) := u8_or_nat _ _ (by omega) (by omega)
      have hor128 : ¬ ((128 : Int) ≤ ((x.toNat ||| y.toNat : Nat) : Int)) := by have := Nat.or_lt_two_pow (n := 7) hx128 hy128; omega
      have Hx : Aside (s.data.toList[i]? = some x ∧ t.data.toList[i]? = some y) := ⟨hxl, hyl⟩
      clear hxl hyl
      go_wp2
      -- (the walk parts by itself: nine ways: three go on, six hand back false)
      all_goals (try simp only [beq_iff_eq, beq_eq_false_iff_ne, ne_eq] at *)
      all_goals first
        | (go_roundg g
           case measure => omega
           case rel => exact ⟨rfl, i + 1, by omega, by first | rfl | simp, by rw [← HI.out, Lib.drop_at Hx.out.1, Lib.drop_at Hx.out.2, Lib.equalFold_yes _ _ _ _ (decide_eq_true (by omega))]⟩)
        | (go_ret
           refine ⟨?_, rfl⟩
           rw [← HI.out, Lib.drop_at Hx.out.1, Lib.drop_at Hx.out.2, Lib.equalFold_no _ _ _ _ (decide_eq_false (by omega))]
           rfl)

end Go.Proofs.YtpbebckhemnooaaFmt
