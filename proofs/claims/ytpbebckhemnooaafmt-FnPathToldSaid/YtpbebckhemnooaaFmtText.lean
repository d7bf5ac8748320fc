/- Searches in texts: zzCount of a dot, zzContainsRune in the letters of files' names, fileNameOK below 128; the conditions are bounds on sizes and runes. -/
import Derived.Test.YtpbebckhemnooaaFmtReserved
import Derived.Lib.OthersKept
import Derived.Lib.RuneCount
import Derived.Lib.DecodeN
import Derived.Lib.Strings
namespace Go.Proofs.YtpbebckhemnooaaFmt.PS
open Go.RowKit Go.Proofs.YtpbebckhemnooaaFmtW.PrintWords Go.Proofs.YtpbebckhemnooaaFmtW.PrintLast Go.Proofs.YtpbebckhemnooaaFmtW.PrintMore
set_option linter.unusedVariables false
set_option linter.unusedSimpArgs false

theorem ret_int {k : IntKind} {a b : Int} (h : a = b) : Ending.returned (.int k a) = .returned (.int k b) := by rw [h]
theorem ret_bool {a b : Bool} (h : a = b) : Ending.returned (.bool a) = .returned (.bool b) := by rw [h]

/-- How many dots. -/
def dots (l : List UInt8) : Nat := (l.filter (· == 46)).length
theorem dots_le (l : List UInt8) : dots l ≤ l.length := List.length_filter_le _ _

theorem take_succ_gb (s : ByteArray) {k : Nat} (h : k < s.size) : ∃ c : UInt8, s.data.toList.take (k + 1) = s.data.toList.take k ++ [c] ∧ s.data.toList.drop k = c :: s.data.toList.drop (k + 1) ∧ gb s k = (c.toNat : Int) ∧ s.data.toList[k]? = some c := by
  have h' : k < s.data.toList.length := by rw [len_size]; exact h
  refine ⟨s.data.toList[k], List.take_succ_eq_append_getElem h', List.drop_eq_getElem_cons h', ?_, List.getElem?_eq_getElem h'⟩
  unfold gb
  rw [List.getD, List.getElem?_eq_getElem h']
  rfl

theorem cut_one (s : ByteArray) {k : Nat} {c : UInt8} (hd : s.data.toList.drop k = c :: s.data.toList.drop (k + 1)) : (s.extract k (k + 1)).toList = [c] := by
  rw [Lib.extract_toList, hd]
  have : k + 1 - k = 1 := by omega
  rw [this]
  rfl

theorem dots_snoc (l : List UInt8) (c : UInt8) : dots (l ++ [c]) = dots l + if c = 46 then 1 else 0 := by
  unfold dots
  rw [List.filter_append, List.length_append]
  by_cases h : c = 46 <;> simp [List.filter_cons, h]

set_option maxHeartbeats 1600000 in
theorem zzCount_dot (s : ByteArray) (hs : s.size ≤ 1099511627776) (w : World) :
    Calls Tryf.prog 72 #[.string s, .string ⟨#[46]⟩] w fun e w' => e = .returned (.int .i64 (dots s.data.toList : Int)) ∧ w = w' := by
  go_enter Tryf.func72, Tryf.ntmps72
  go_wp2
  go_loop [5, 6] (fun n i => ∃ k : Nat, k ≤ s.size ∧ i = .int .i64 k ∧ n = .int .i64 (dots (s.data.toList.take k) : Int)) (fun _ i => s.size - (intOf i).toNat)
  case atStart => exact ⟨0, Nat.zero_le _, rfl, rfl⟩
  case round =>
    obtain ⟨k, hk, rfl, rfl⟩ := hrel
    have hd0 := dots_le (s.data.toList.take k)
    have hl0 : (s.data.toList.take k).length ≤ k := List.length_take_le _ _
    by_cases hlt : k < s.size
    · obtain ⟨c, ht, hdr, -, -⟩ := take_succ_gb s hlt
      have hx := cut_one s hdr
      have HT := Lib.hid ht
      clear ht hdr
      by_cases hc : c = 46
      · subst hc
        have hx1 : ((s.extract k (k + 1)).toList == [46]) = true := by rw [hx]; rfl
        clear hx
        go_wp2
        go_round
        case rel => exact ⟨k + 1, by omega, by go_num, by rw [HT.out, dots_snoc]; simp⟩
        case measure => simp [intOf]; omega
      · have hx1 : ((s.extract k (k + 1)).toList == [46]) = false := by rw [hx]; simp [hc]
        clear hx
        go_wp2
        go_round
        case rel => exact ⟨k + 1, by omega, by go_num, by rw [HT.out, dots_snoc]; simp [hc]⟩
        case measure => simp [intOf]; omega
    · go_wp2
      go_ret
      exact ⟨ret_int (by rw [List.take_of_length_le (by rw [len_size]; omega)]), rfl⟩

/-- Is a byte among the bytes of a text? -/
def hasB (l : List UInt8) (r : Int) : Bool := l.any fun c => decide ((c.toNat : Int) = r)

def IdxRune (l : List UInt8) (r : Int) (w : World) (e : Ending) (w' : World) : Prop := ∃ i : Int, e = .returned (.int .i64 i) ∧ (0 ≤ i ↔ hasB l r = true) ∧ Below w.heap.size w w'

theorem gb_ascii {s : ByteArray} (ha : ∀ c ∈ s.data.toList, c.toNat < 128) (k : Nat) (h : k < s.size) : (s[k]'h).toNat < 128 := by
  have h' : k < s.data.toList.length := by rw [len_size]; exact h
  exact ha _ (List.getElem_mem h')

set_option maxHeartbeats 1600000 in
theorem zzIndexRune_ascii (s : ByteArray) (r : Int) (hs : s.size ≤ 1099511627776) (ha : ∀ c ∈ s.data.toList, c.toNat < 128) (h0 : 0 ≤ r) (h1 : r < 128) (w : World) :
    Calls Tryf.prog 102 #[.string s, .int .i32 r] w (IdxRune s.data.toList r w) := by
  have HA := Lib.hid ha
  clear ha
  have hgb := get_gb s
  go_enter Tryf.func102, Tryf.ntmps102
  go_wp2
  go_loopw [] (fun wr => ∃ k : Nat, k ≤ s.size ∧ Hid (wr.heap[w.heap.size]? = some (.stringIter s k)) ∧ Hid (Below w.heap.size w wr) ∧ Hid (hasB (s.data.toList.take k) r = false)) (fun wr => s.size - wr.iterPos w.heap.size)
  case atStart => exact ⟨0, Nat.zero_le _, Lib.hid (World.iter_heap w s 0), Lib.hid ((Below.refl _ _).alloc (Nat.le_refl _) _), Lib.hid rfl⟩
  case round =>
    obtain ⟨k, hk, hit, hB, hno⟩ := hrel
    by_cases hlt : k < s.size
    · obtain ⟨c, ht, hdr, hg, -⟩ := take_succ_gb s hlt
      have ha1 := gb_ascii HA.out k hlt
      have hnx : ∀ ty, (Instr.next (.pointer (some ⟨w.heap.size, 0, none⟩)) true ty).run Tryf.prog wr = _ := fun ty => Lib.run_next_ascii_at wr w.heap.size s k ty hit.out hlt ha1
      have hB2 := Lib.hid (Lib.below_iterAt hB.out (k := w.heap.size) (Nat.le_refl _) s (k + 1))
      have hit2 := Lib.hid (Lib.iterAt_heap wr w.heap.size s k (k + 1) hit.out)
      obtain ⟨W1, hW1⟩ : ∃ W1, wr.iterAt w.heap.size s (k + 1) = W1 := ⟨_, rfl⟩
      rw [hW1] at hnx hB2 hit2
      have HT := Lib.hid ht
      have HG := Lib.hid hg
      clear ht hdr hg ha1 hW1
      have hlo := gb_lo s k
      have hhi := gb_hi s k
      by_cases hr : gb s k = r
      · have hb : (gb s k == r) = true := by simpa using hr
        have hmem : hasB s.data.toList r = true := by
          unfold hasB
          rw [← List.take_append_drop (k + 1) s.data.toList, HT.out]
          simp [← HG.out, hr]
        have HM := Lib.hid hmem
        clear hmem hr
        go_wp2
        go_ret
        exact ⟨_, rfl, ⟨fun _ => HM.out, fun _ => by omega⟩, hB2.out⟩
      · have hb : (gb s k == r) = false := by simpa using hr
        have hno2 : Hid (hasB (s.data.toList.take (k + 1)) r = false) := Lib.hid (by
          have := hno.out
          unfold hasB at this ⊢
          rw [HT.out, List.any_append, this]
          simp [← HG.out, hr])
        clear hr
        go_wp2
        go_roundw
        case rel => exact ⟨k + 1, by omega, hit2, hB2, hno2⟩
        case measure => simp only [World.iterPos, hit.out, hit2.out]; omega
    · have hnx : ∀ ty, (Instr.next (.pointer (some ⟨w.heap.size, 0, none⟩)) true ty).run Tryf.prog wr = _ := fun ty => Lib.run_next_end_at wr w.heap.size s k ty hit.out hlt
      have hno2 := hno.out
      rw [List.take_of_length_le (by rw [len_size]; omega)] at hno2
      have HN := Lib.hid hno2
      clear hno2
      go_wp2
      go_ret
      exact ⟨_, rfl, ⟨fun h => by omega, fun h => by rw [HN.out] at h; cases h⟩, hB.out⟩

def othersF : List UInt8 := [33, 35, 36, 37, 38, 40, 41, 43, 44, 45, 46, 61, 64, 91, 93, 94, 95, 123, 125, 126, 32]

set_option maxHeartbeats 800000 in
theorem zzContainsRune_any (r : Int) (h0 : 0 ≤ r) (h1 : r < 128) (w : World) :
    Calls Tryf.prog 90 #[.string ⟨#[33, 35, 36, 37, 38, 40, 41, 43, 44, 45, 46, 61, 64, 91, 93, 94, 95, 123, 125, 126, 32]⟩, .int .i32 r] w fun e w' => e = .returned (.bool (hasB othersF r)) ∧ Below w.heap.size w w' := by
  have hc := fun W => zzIndexRune_ascii ⟨#[33, 35, 36, 37, 38, 40, 41, 43, 44, 45, 46, 61, 64, 91, 93, 94, 95, 123, 125, 126, 32]⟩ r (by decide) (by decide) h0 h1 W
  have HC := Lib.hid hc
  clear hc
  go_enter Tryf.func90, Tryf.ntmps90
  go_wp2_with fail
  refine (HC.out _).mono ?_
  rintro e w' ⟨i, rfl, hi, hb⟩
  have HI := Lib.hid hi
  clear hi
  by_cases h : 0 ≤ i
  · go_wp2
    go_ret
    exact ⟨ret_bool (by rw [show othersF = (⟨#[33, 35, 36, 37, 38, 40, 41, 43, 44, 45, 46, 61, 64, 91, 93, 94, 95, 123, 125, 126, 32]⟩ : ByteArray).data.toList from rfl, HI.out.1 h]), hb⟩
  · go_wp2
    go_ret
    refine ⟨ret_bool ?_, hb⟩
    cases hh : hasB othersF r with
    | true => have := HI.out.2 hh; omega
    | false => exact decide_eq_false (by omega)

/-- A rune below 128 that may stand in a file's name. -/
def fileOK (r : Int) : Bool := decide (48 ≤ r ∧ r ≤ 57) || decide (65 ≤ r ∧ r ≤ 90) || decide (97 ≤ r ∧ r ≤ 122) || hasB othersF r

set_option maxHeartbeats 1600000 in
theorem fileNameOK_ascii (r : Int) (h0 : 0 ≤ r) (h1 : r < 128) (w : World) :
    Calls Tryf.prog 75 #[.int .i32 r] w fun e w' => e = .returned (.bool (fileOK r)) ∧ Below w.heap.size w w' := by
  by_cases c1 : 48 ≤ r ∧ r ≤ 57
  · have e1 : fileOK r = true := by simp [fileOK, c1]
    obtain ⟨c1, c2⟩ := c1
    have E1 := Lib.hid e1
    clear e1
    go_enter Tryf.func75, Tryf.ntmps75
    go_wp2_with fail
    go_ret
    exact ⟨ret_bool E1.out.symm, Below.refl _ _⟩
  by_cases c2 : 65 ≤ r ∧ r ≤ 90
  · have e1 : fileOK r = true := by simp [fileOK, c2]
    obtain ⟨c2, c3⟩ := c2
    have E1 := Lib.hid e1
    clear e1 c1
    go_enter Tryf.func75, Tryf.ntmps75
    go_wp2_with fail
    go_ret
    exact ⟨ret_bool E1.out.symm, Below.refl _ _⟩
  by_cases c3 : 97 ≤ r ∧ r ≤ 122
  · have e1 : fileOK r = true := by simp [fileOK, c3]
    obtain ⟨c3, c4⟩ := c3
    have E1 := Lib.hid e1
    clear e1 c1 c2
    go_enter Tryf.func75, Tryf.ntmps75
    go_wp2_with fail
    go_ret
    exact ⟨ret_bool E1.out.symm, Below.refl _ _⟩
  have e1 : fileOK r = hasB othersF r := by simp [fileOK, c1, c2, c3]
  have E1 := Lib.hid e1
  have C1 := Lib.hid c1
  have C2 := Lib.hid c2
  have C3 := Lib.hid c3
  clear e1 c1 c2 c3
  by_cases d1 : 48 ≤ r
  · by_cases d2 : 65 ≤ r
    · by_cases d3 : 97 ≤ r
      · have x1 : 122 < r := by have := C3.out; omega
        go_enter Tryf.func75, Tryf.ntmps75
        go_wp2_with (go_at_call 90; refine (zzContainsRune_any r h0 h1 _).mono ?_; rintro e w' ⟨rfl, hb⟩)
        go_ret
        exact ⟨ret_bool E1.out.symm, hb⟩
      · have x1 : 90 < r := by have := C2.out; omega
        go_enter Tryf.func75, Tryf.ntmps75
        go_wp2_with (go_at_call 90; refine (zzContainsRune_any r h0 h1 _).mono ?_; rintro e w' ⟨rfl, hb⟩)
        go_ret
        exact ⟨ret_bool E1.out.symm, hb⟩
    · have x1 : 57 < r := by have := C1.out; omega
      go_enter Tryf.func75, Tryf.ntmps75
      go_wp2_with (go_at_call 90; refine (zzContainsRune_any r h0 h1 _).mono ?_; rintro e w' ⟨rfl, hb⟩)
      go_ret
      exact ⟨ret_bool E1.out.symm, hb⟩
  · go_enter Tryf.func75, Tryf.ntmps75
    go_wp2_with (go_at_call 90; refine (zzContainsRune_any r h0 h1 _).mono ?_; rintro e w' ⟨rfl, hb⟩)
    go_ret
    exact ⟨ret_bool E1.out.symm, hb⟩

end Go.Proofs.YtpbebckhemnooaaFmt.PS
