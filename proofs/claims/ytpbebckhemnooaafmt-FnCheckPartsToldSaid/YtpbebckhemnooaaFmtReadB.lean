/- What spec.Read answers, on lists of bytes; the condition is the text's size. -/
import Derived.Test.YtpbebckhemnooaaFmtReadR
import Derived.Deep.DeepCutAuto
import Derived.Deep.CutBlock
namespace Go.Proofs.YtpbebckhemnooaaFmt.PS
open Go.RowKit Go.Proofs.YtpbebckhemnooaaFmtW.PrintWords Go.Proofs.YtpbebckhemnooaaFmtW.PrintLast Go.Proofs.YtpbebckhemnooaaFmtW.PrintMore
set_option linter.unusedVariables false
set_option linter.unusedSimpArgs false

/-- The two variables: the result's, and v. -/
def SemAt (w W : World) (a b c p q : ByteArray) (n : Int) : Prop := W.heap[w.heap.size]? = some (.cells #[.string ⟨#[]⟩, .string ⟨#[]⟩, .string ⟨#[]⟩, .string ⟨#[]⟩, .string ⟨#[]⟩, .int .i64 0] 38 (0, 0)) ∧
  W.heap[w.heap.size + 1]? = some (.cells #[.string a, .string b, .string c, .string p, .string q, .int .i64 n] 38 (0, 0)) ∧ Below w.heap.size w W
def zeroB : ByteArray := ⟨#[48]⟩
theorem SemAt.start (w : World) : SemAt w ((w.alloc (.cells #[.string ⟨#[]⟩, .string ⟨#[]⟩, .string ⟨#[]⟩, .string ⟨#[]⟩, .string ⟨#[]⟩, .int .i64 0] 38)).alloc (.cells #[.string ⟨#[48]⟩, .string ⟨#[48]⟩, .string ⟨#[48]⟩, .string ⟨#[]⟩, .string ⟨#[]⟩, .int .i64 0] 38)) zeroB zeroB zeroB ⟨#[]⟩ ⟨#[]⟩ 0 := by
  refine ⟨blk_alloc (blk_new w _) _, ?_, ((Below.refl _ _).alloc (Nat.le_refl _) _).alloc (by go_simp) _⟩
  have := blk_new (w.alloc (.cells #[.string ⟨#[]⟩, .string ⟨#[]⟩, .string ⟨#[]⟩, .string ⟨#[]⟩, .string ⟨#[]⟩, .int .i64 0] 38)) (.cells #[.string ⟨#[48]⟩, .string ⟨#[48]⟩, .string ⟨#[48]⟩, .string ⟨#[]⟩, .string ⟨#[]⟩, .int .i64 0] 38)
  rw [show (w.alloc (.cells #[.string ⟨#[]⟩, .string ⟨#[]⟩, .string ⟨#[]⟩, .string ⟨#[]⟩, .string ⟨#[]⟩, .int .i64 0] 38)).heap.size = w.heap.size + 1 by go_simp] at this
  exact this

section
variable {w W W' : World} {a b c p q : ByteArray} {n : Int}
theorem SemAt.drew (h : SemAt w W a b c p q n) : SemAt w W.drew a b c p q n := ⟨h.1, h.2.1, h.2.2.drew⟩
theorem SemAt.put4 (h : SemAt w W a b c p q n) (x : ByteArray) : SemAt w (W.setCell ⟨w.heap.size + 1, 4, none⟩ (.string x)) a b c p x n := ⟨blk_far h.1 (by simp) _, blk_put h.2.1 4 _ rfl, below_set h.2.2 (by omega)⟩
theorem SemAt.put3 (h : SemAt w W a b c p q n) (x : ByteArray) : SemAt w (W.setCell ⟨w.heap.size + 1, 3, none⟩ (.string x)) a b c x q n := ⟨blk_far h.1 (by simp) _, blk_put h.2.1 3 _ rfl, below_set h.2.2 (by omega)⟩
theorem SemAt.put5 (h : SemAt w W a b c p q n) (x : Int) : SemAt w (W.setCell ⟨w.heap.size + 1, 5, none⟩ (.int .i64 x)) a b c p q x := ⟨blk_far h.1 (by simp) _, blk_put h.2.1 5 _ rfl, below_set h.2.2 (by omega)⟩
theorem SemAt.later (h : SemAt w W a b c p q n) (hb : Below W.heap.size W W') : SemAt w W' a b c p q n := ⟨blk_below h.1 hb, blk_below h.2.1 hb, h.2.2.trans (hb.mono h.2.2.size)⟩
theorem SemAt.four (h : SemAt w W a b c p q n) : W.cell? ⟨w.heap.size + 1, 4, none⟩ = some (.string q) ∧ W.frozen? ⟨w.heap.size + 1, 4, none⟩ = false := ⟨(blk_cell h.2.1 4).trans rfl, blk_frozen h.2.1 4⟩
theorem SemAt.three (h : SemAt w W a b c p q n) : W.cell? ⟨w.heap.size + 1, 3, none⟩ = some (.string p) ∧ W.frozen? ⟨w.heap.size + 1, 3, none⟩ = false := ⟨(blk_cell h.2.1 3).trans rfl, blk_frozen h.2.1 3⟩
theorem SemAt.five (h : SemAt w W a b c p q n) : W.cell? ⟨w.heap.size + 1, 5, none⟩ = some (.int .i64 n) ∧ W.frozen? ⟨w.heap.size + 1, 5, none⟩ = false := ⟨(blk_cell h.2.1 5).trans rfl, blk_frozen h.2.1 5⟩
end
section
variable {w W : World} {a b c p q : ByteArray} {n : Int}
theorem SemAt.cells (h : SemAt w W a b c p q n) : W.cell? ⟨w.heap.size + 1, 0, none⟩ = some (.string a) ∧ W.cell? ⟨w.heap.size + 1, 1, none⟩ = some (.string b) ∧ W.cell? ⟨w.heap.size + 1, 2, none⟩ = some (.string c) ∧ W.cell? ⟨w.heap.size + 1, 3, none⟩ = some (.string p) ∧ W.cell? ⟨w.heap.size + 1, 4, none⟩ = some (.string q) ∧ W.cell? ⟨w.heap.size + 1, 5, none⟩ = some (.int .i64 n) :=
  ⟨(blk_cell h.2.1 0).trans rfl, (blk_cell h.2.1 1).trans rfl, (blk_cell h.2.1 2).trans rfl, (blk_cell h.2.1 3).trans rfl, (blk_cell h.2.1 4).trans rfl, (blk_cell h.2.1 5).trans rfl⟩
theorem SemAt.out0 (h : SemAt w W a b c p q n) : W.cell? ⟨w.heap.size, 0, none⟩ = some (.string ⟨#[]⟩) ∧ W.cell? ⟨w.heap.size, 1, none⟩ = some (.string ⟨#[]⟩) ∧ W.cell? ⟨w.heap.size, 2, none⟩ = some (.string ⟨#[]⟩) ∧ W.cell? ⟨w.heap.size, 3, none⟩ = some (.string ⟨#[]⟩) ∧ W.cell? ⟨w.heap.size, 4, none⟩ = some (.string ⟨#[]⟩) ∧ W.cell? ⟨w.heap.size, 5, none⟩ = some (.int .i64 0) :=
  ⟨(blk_cell h.1 0).trans rfl, (blk_cell h.1 1).trans rfl, (blk_cell h.1 2).trans rfl, (blk_cell h.1 3).trans rfl, (blk_cell h.1 4).trans rfl, (blk_cell h.1 5).trans rfl⟩
theorem SemAt.free0 (h : SemAt w W a b c p q n) : W.frozen? ⟨w.heap.size, 0, none⟩ = false ∧ W.frozen? ⟨w.heap.size, 1, none⟩ = false ∧ W.frozen? ⟨w.heap.size, 2, none⟩ = false ∧ W.frozen? ⟨w.heap.size, 3, none⟩ = false ∧ W.frozen? ⟨w.heap.size, 4, none⟩ = false ∧ W.frozen? ⟨w.heap.size, 5, none⟩ = false :=
  ⟨blk_frozen h.1 0, blk_frozen h.1 1, blk_frozen h.1 2, blk_frozen h.1 3, blk_frozen h.1 4, blk_frozen h.1 5⟩
theorem SemAt.put0 (h : SemAt w W a b c p q n) (x : ByteArray) : SemAt w (W.setCell ⟨w.heap.size + 1, 0, none⟩ (.string x)) x b c p q n := ⟨blk_far h.1 (by simp) _, blk_put h.2.1 0 _ rfl, below_set h.2.2 (by omega)⟩
theorem SemAt.put1 (h : SemAt w W a b c p q n) (x : ByteArray) : SemAt w (W.setCell ⟨w.heap.size + 1, 1, none⟩ (.string x)) a x c p q n := ⟨blk_far h.1 (by simp) _, blk_put h.2.1 1 _ rfl, below_set h.2.2 (by omega)⟩
theorem SemAt.put2 (h : SemAt w W a b c p q n) (x : ByteArray) : SemAt w (W.setCell ⟨w.heap.size + 1, 2, none⟩ (.string x)) a b x p q n := ⟨blk_far h.1 (by simp) _, blk_put h.2.1 2 _ rfl, below_set h.2.2 (by omega)⟩
theorem SemAt.free (h : SemAt w W a b c p q n) (k : Nat) : W.frozen? ⟨w.heap.size + 1, k, none⟩ = false := blk_frozen h.2.1 k
/-- The whole variable laid into the result. -/
def semOut (w W : World) (a b c p q : ByteArray) (n : Int) : World := (((((W.setCell ⟨w.heap.size, 0, none⟩ (.string a)).setCell ⟨w.heap.size, 1, none⟩ (.string b)).setCell ⟨w.heap.size, 2, none⟩ (.string c)).setCell ⟨w.heap.size, 3, none⟩ (.string p)).setCell ⟨w.heap.size, 4, none⟩ (.string q)).setCell ⟨w.heap.size, 5, none⟩ (.int .i64 n)
theorem SemAt.out (h : SemAt w W a b c p q n) : (semOut w W a b c p q n).heap[w.heap.size]? = some (.cells #[.string a, .string b, .string c, .string p, .string q, .int .i64 n] 38 (0, 0)) ∧ Below w.heap.size w (semOut w W a b c p q n) :=
  ⟨blk_put (blk_put (blk_put (blk_put (blk_put (blk_put h.1 0 _ rfl) 1 _ rfl) 2 _ rfl) 3 _ rfl) 4 _ rfl) 5 _ rfl, below_set (below_set (below_set (below_set (below_set (below_set h.2.2 (Nat.le_refl _)) (Nat.le_refl _)) (Nat.le_refl _)) (Nat.le_refl _)) (Nat.le_refl _)) (Nat.le_refl _)⟩
end
/-- What spec.Read answers. -/
def ReadPost (o : Option (List UInt8 × List UInt8 × Nat)) (w : World) (e : Ending) (w' : World) : Prop :=
  ∃ (a b c p q : ByteArray) (n : Int) (ok : Bool), e = .returned (.tuple #[.agg #[.string a, .string b, .string c, .string p, .string q, .int .i64 n], .bool ok]) ∧ Below w.heap.size w w' ∧ ok = o.isSome ∧ ∀ x, o = some x → a.data.toList = x.1 ∧ q.data.toList = x.2.1 ∧ n = (x.2.2 : Int)
theorem read_none {w W : World} {a b c p q : ByteArray} {n : Int} {o : Option (List UInt8 × List UInt8 × Nat)} (h : SemAt w W a b c p q n) (ho : o = none) :
    ReadPost o w (.returned (.tuple #[.agg #[.string a, .string b, .string c, .string p, .string q, .int .i64 n], .bool false])) (semOut w W a b c p q n) := ⟨a, b, c, p, q, n, false, rfl, h.out.2, by rw [ho]; rfl, fun x hx => by rw [ho] at hx; cases hx⟩
theorem read_some {w W : World} {a b c p q : ByteArray} {n : Nat} {o : Option (List UInt8 × List UInt8 × Nat)} (h : SemAt w W a b c p q (n : Int)) (ho : o = some (a.data.toList, q.data.toList, n)) :
    ReadPost o w (.returned (.tuple #[.agg #[.string a, .string b, .string c, .string p, .string q, .int .i64 (n : Int)], .bool true])) (semOut w W a b c p q n) := ⟨a, b, c, p, q, n, true, rfl, h.out.2, by rw [ho]; rfl, fun x hx => by rw [ho] at hx; obtain rfl := Option.some.inj hx; exact ⟨rfl, rfl, rfl⟩⟩
theorem split_at {f : UInt8 → Bool} {l : List UInt8} {k : Nat} {c : UInt8} {r : List UInt8} (h : (l.take k).all f = true) (hd : l.drop k = c :: r) (hc : f c = false) : l.take k = l.takeWhile f ∧ l.drop k = l.dropWhile f := by
  have e : l = l.take k ++ l.drop k := (List.take_append_drop k l).symm
  have h' := List.all_eq_true.1 h
  constructor
  · conv => rhs; rw [e, List.takeWhile_append_of_pos h', hd, List.takeWhile_cons, hc]
    simp
  · conv => rhs; rw [e, List.dropWhile_append_of_pos h', hd, List.dropWhile_cons, hc]
    rw [hd]; simp
theorem split_none {f : UInt8 → Bool} {l : List UInt8} (h : l.all f = true) : l = l.takeWhile f ∧ [] = l.dropWhile f := by
  have h' := List.all_eq_true.1 h
  have a := List.takeWhile_append_of_pos (p := f) (l₁ := l) (l₂ := []) h'
  have b := List.dropWhile_append_of_pos (p := f) (l₁ := l) (l₂ := []) h'
  simp only [List.append_nil, List.takeWhile_nil, List.dropWhile_nil] at a b
  exact ⟨a.symm, b.symm⟩

def okHead (n : Nat) (p q : List UInt8) : Bool := decide (n ≤ 3) && (decide (3 ≤ n) || (p.isEmpty && q.isEmpty)) && (p.isEmpty || partsS true (p.drop 1)) && (q.isEmpty || partsS false (q.drop 1))
theorem isE_no {s : ByteArray} (h : s.size ≠ 0) : s.data.toList.isEmpty = false := Bool.eq_false_iff.2 fun h2 => h (by rw [← len_size, List.isEmpty_iff.1 h2]; rfl)
theorem okRd_head (M : List (List UInt8)) (p q : List UInt8) : okRd 0 M p q = (okHead M.length p q && M.all svNumB) := by
  unfold okRd okHead
  rw [Nat.zero_add]
set_option maxRecDepth 100000 in
set_option maxHeartbeats 1600000 in
theorem read_cut (s : ByteArray) (hs : s.size ≤ 1099511627776) (hne : (s.toList == []) = false) (h0 : 0 < s.size) (h1 : 1 ≤ s.size) (n1 : (gb s 0 != 118) = false) (hv : lb s.data.toList 0 = 118) (w : World) : Calls Tryf.prog 35 #[.string s] w (ReadPost (rdL s.data.toList) w) := by
  have hgb := get_gb s
  have hu := Tryf.underlying38
  obtain ⟨t, ht⟩ : ∃ t, s.extract 1 s.size = t := ⟨_, rfl⟩
  go_enter Tryf.func35, Tryf.ntmps35
  go_upto_block 0 with (fail)
  go_cut [0] (fun v0 wc => ∃ (x q : ByteArray), v0 = .string x ∧ Hid (x.data.toList = t.data.toList.takeWhile (· != 43) ∧ q.data.toList = t.data.toList.dropWhile (· != 43)) ∧ Hid (SemAt w wc zeroB zeroB zeroB ⟨#[]⟩ q 0))
  case first =>
    have hgt := get_gb t
    have S0 := Lib.hid (SemAt.start w)
    have hts : t.size ≤ 1099511627776 := by rw [← ht]; exact Nat.le_trans (extract_size_le _ _ _) hs
    go_wp2_with (fail)
    go_loopw [0, 5, 24] (fun x r i wr => ∃ k : Nat, k ≤ t.size ∧ x = .string t ∧ i = .int .i64 k ∧ Hid ((t.data.toList.take k).all (· != 43) = true) ∧ Hid (SemAt w wr zeroB zeroB zeroB ⟨#[]⟩ ⟨#[]⟩ 0)) (fun x r i _ => t.size - (intOf i).toNat)
    case atStart => exact ⟨0, Nat.zero_le _, rfl, rfl, Lib.hid rfl, S0⟩
    case round =>
      obtain ⟨k, hk, rfl, rfl, hA, hS⟩ := hrel
      have hki : (k : Int) ≤ (t.size : Int) := by omega
      have hk0 : (0 : Int) ≤ (k : Int) := by omega
      by_cases hlt : k < t.size
      · obtain ⟨c, ht1, hd1, hg1, -⟩ := take_succ_gb t hlt
        by_cases h43 : gb t k = 43
        · have q43 : (gb t k == 43) = true := by simpa using h43
          have HL := Lib.hid (show t.data.toList.take k = t.data.toList.takeWhile (· != 43) ∧ t.data.toList.drop k = t.data.toList.dropWhile (· != 43) from split_at hA.out hd1 (by
            have : c = 43 := (nat_eq (n := 43) (by omega)).1 (by rw [← hg1, h43]; rfl)
            rw [this]; rfl))
          obtain ⟨c4, f4⟩ := hS.out.four
          clear ht1 hd1 hg1 h43
          go_wp2
          go_region
          all_goals (try go_wp2)
          all_goals go_meet
          case rel => exact ⟨_, _, rfl, Lib.hid ⟨(extract_take t k).trans HL.out.1, (extract_drop t k).trans HL.out.2⟩, Lib.hid (hS.out.put4 _).drew⟩
        · have q43 : (gb t k == 43) = false := by simpa using h43
          have hA2 := Lib.hid (show (t.data.toList.take (k + 1)).all (· != 43) = true by
            rw [ht1, List.all_append, hA.out]
            have : c ≠ 43 := fun e => h43 (by rw [hg1, e]; rfl)
            simp [this])
          clear ht1 hd1 hg1 h43
          go_wp2
          go_roundw
          case rel => exact ⟨k + 1, by omega, rfl, by go_num, hA2, hS⟩
          case measure => simp [intOf]; omega
      · have HL := Lib.hid (show t.data.toList = t.data.toList.takeWhile (· != 43) ∧ [] = t.data.toList.dropWhile (· != 43) from split_none (by
          have := hA.out
          rw [List.take_of_length_le (by rw [len_size]; omega)] at this
          exact this))
        go_wp2
        go_meet
        case rel => exact ⟨_, ⟨#[]⟩, rfl, HL, hS⟩
  case rest =>
    obtain ⟨x, q, rfl, hXQ, hS⟩ := hcut
    have hxs : x.size ≤ 1099511627776 := by
      have := (List.takeWhile_prefix (· != 43) (l := t.data.toList)).length_le
      rw [← hXQ.out.1, len_size, len_size, ← ht] at this
      have h2 := extract_size_le s 1 s.size
      omega
    go_upto_block 2 with (fail)
    go_cut [0] (fun v0 wd => ∃ (y p : ByteArray), v0 = .string y ∧ Hid (y.data.toList = x.data.toList.takeWhile (· != 45) ∧ p.data.toList = x.data.toList.dropWhile (· != 45)) ∧ Hid (SemAt w wd zeroB zeroB zeroB p q 0))
    case first =>
      have hgx := get_gb x
      go_wp2_with (fail)
      go_loopw [0, 6, 41] (fun z r i wr => ∃ k : Nat, k ≤ x.size ∧ z = .string x ∧ i = .int .i64 k ∧ Hid ((x.data.toList.take k).all (· != 45) = true) ∧ Hid (SemAt w wr zeroB zeroB zeroB ⟨#[]⟩ q 0)) (fun z r i _ => x.size - (intOf i).toNat)
      case atStart => exact ⟨0, Nat.zero_le _, rfl, rfl, Lib.hid rfl, hS⟩
      case round =>
        obtain ⟨k, hk, rfl, rfl, hA, hS⟩ := hrel
        have hki : (k : Int) ≤ (x.size : Int) := by omega
        have hk0 : (0 : Int) ≤ (k : Int) := by omega
        by_cases hlt : k < x.size
        · obtain ⟨c, ht1, hd1, hg1, -⟩ := take_succ_gb x hlt
          by_cases h45 : gb x k = 45
          · have q45 : (gb x k == 45) = true := by simpa using h45
            have HL := Lib.hid (show x.data.toList.take k = x.data.toList.takeWhile (· != 45) ∧ x.data.toList.drop k = x.data.toList.dropWhile (· != 45) from split_at hA.out hd1 (by
              have : c = 45 := (nat_eq (n := 45) (by omega)).1 (by rw [← hg1, h45]; rfl)
              rw [this]; rfl))
            obtain ⟨c3, f3⟩ := hS.out.three
            clear ht1 hd1 hg1 h45
            go_wp2
            go_region
            all_goals (try go_wp2)
            all_goals go_meet
            case rel => exact ⟨_, _, rfl, Lib.hid ⟨(extract_take x k).trans HL.out.1, (extract_drop x k).trans HL.out.2⟩, Lib.hid (hS.out.put3 _).drew⟩
          · have q45 : (gb x k == 45) = false := by simpa using h45
            have hA2 := Lib.hid (show (x.data.toList.take (k + 1)).all (· != 45) = true by
              rw [ht1, List.all_append, hA.out]
              have : c ≠ 45 := fun e => h45 (by rw [hg1, e]; rfl)
              simp [this])
            clear ht1 hd1 hg1 h45
            go_wp2
            go_roundw
            case rel => exact ⟨k + 1, by omega, rfl, by go_num, hA2, hS⟩
            case measure => simp [intOf]; omega
        · have HL := Lib.hid (show x.data.toList = x.data.toList.takeWhile (· != 45) ∧ [] = x.data.toList.dropWhile (· != 45) from split_none (by
            have := hA.out
            rw [List.take_of_length_le (by rw [len_size]; omega)] at this
            exact this))
          go_wp2
          go_meet
          case rel => exact ⟨_, ⟨#[]⟩, rfl, HL, hS⟩
    case rest =>
      obtain ⟨y, p, rfl, hYP, hS⟩ := hcut
      have hys : y.size ≤ 1099511627776 := by
        have := (List.takeWhile_prefix (· != 45) (l := x.data.toList)).length_le
        rw [← hYP.out.1, len_size, len_size] at this
        omega
      obtain ⟨L, hL, hn, hx, HC⟩ := cut_named y hys 46
      have HC := Lib.hid HC
      have HX := Lib.hid hx
      have HLL := Lib.hid hL
      clear hL hx
      go_upto_region 19 with (go_at_call 44; refine (HC.out _).mono ?_; rintro e w1 ⟨A, c, rfl, hR1, hb1⟩; have HR := Lib.hid (Kd.R_lower hR1 hS.out.2.2.size); have hS := Lib.hid (hS.out.later hb1); obtain ⟨c5, f5⟩ := hS.out.five)
      have HR := Lib.hid (Kd.R_set HR.out hS.out.2.1 (fun q hq => (List.mem_singleton.1 hq).symm ▸ (by decide)) 5 (.int .i64 (L.length : Int)))
      have hS := Lib.hid (hS.out.put5 (L.length : Int))
      clear c5 f5 hR1 hb1
      have hpq : p.size ≤ 1099511627776 ∧ q.size ≤ 1099511627776 := by
        have h2 := congrArg List.length hYP.out.2
        have h3 := congrArg List.length hXQ.out.2
        have h4 := (List.dropWhile_suffix (· != 45) (l := x.data.toList)).length_le
        have h5 := (List.dropWhile_suffix (· != 43) (l := t.data.toList)).length_le
        have h6 := extract_size_le s 1 s.size
        rw [ht] at h6
        rw [len_size] at h2 h3 h4 h5
        omega
      have hLy : cutL 46 y.data.toList = cutL 46 (coreL (s.data.toList.drop 1)) ∧ p.data.toList = preS (s.data.toList.drop 1) ∧ q.data.toList = plusS (s.data.toList.drop 1) := by
        have e1 : t.data.toList = s.data.toList.drop 1 := by rw [← ht]; exact extract_drop s 1
        rw [← e1]
        have e2 : x.data.toList = t.data.toList.takeWhile q43 := hXQ.out.1
        have e3 : q.data.toList = t.data.toList.dropWhile q43 := hXQ.out.2
        have e4 : y.data.toList = x.data.toList.takeWhile q45 := hYP.out.1
        have e5 : p.data.toList = x.data.toList.dropWhile q45 := hYP.out.2
        exact ⟨by rw [e4, e2]; rfl, by rw [e5, e2]; rfl, e3⟩
      have hLen : L.length = (cutL 46 y.data.toList).length := by rw [← HLL.out, List.length_map]
      have hL1 : 1 ≤ L.length := by rw [hLen]; exact (cut_len_le 46 y.data.toList).2
      obtain ⟨bad, hbad⟩ : ∃ b, (!okHead L.length p.data.toList q.data.toList) = b := ⟨_, rfl⟩
      have HO := Lib.hid (show rdL s.data.toList = if (!bad && (cutL 46 y.data.toList).all svNumB) = true then some ((cutL 46 y.data.toList).headD [], q.data.toList, L.length) else none by
        unfold rdL rdP
        rw [if_pos hv, ← hLy.1, ← hLy.2.1, ← hLy.2.2, okRd_head, ← hLen, ← hbad, Bool.not_not]
        split <;> rfl)
      have HLEN := Lib.hid hLen
      have HOK := Lib.hid (show bad = false → okHead L.length p.data.toList q.data.toList = true from fun h => by rw [h] at hbad; simpa using hbad)
      clear hLy hLen hXQ hYP
      go_cut [100] (fun v100 we => v100 = .bool bad ∧ Hid (SemAt w we zeroB zeroB zeroB p q (L.length : Int)) ∧ Hid (Kd.R Kd.string 9 we w.heap.size (fun _ => True) (.slice A L.length c) L))
      case first =>
        clear HO HLEN HX HLL HOK
        have HBAD := Lib.hid hbad
        clear hbad
        obtain ⟨-, -, -, k3, k4, -⟩ := hS.out.cells
        by_cases n3 : L.length > 3
        · have n3' : (L.length : Int) > 3 := by omega
          have hb : bad = true := by rw [← HBAD.out]; unfold okHead; rw [decide_eq_false (by omega : ¬ L.length ≤ 3)]; rfl
          subst hb
          clear n3 k3 k4
          go_wp2
          go_meet
          case rel => exact ⟨rfl, hS, HR⟩
        have n3' : ¬ (L.length : Int) > 3 := by omega
        by_cases n2 : L.length < 3
        · have n2' : (L.length : Int) < 3 := by omega
          obtain ⟨z, hz, hzl, hzs⟩ := cat_at (a := p) (b := q) (by omega)
          by_cases e0 : z.size = 0
          · obtain rfl : z = ⟨#[]⟩ := empty_of_size e0
            obtain rfl : p = ⟨#[]⟩ := empty_of_size (by omega)
            obtain rfl : q = ⟨#[]⟩ := empty_of_size (by omega)
            have hb : bad = false := by rw [← HBAD.out]; unfold okHead; rw [decide_eq_true (by omega : L.length ≤ 3)]; simp
            subst hb
            clear n3 n2 e0 hzl hzs
            go_wp2
            go_meet
            case rel => exact ⟨rfl, hS, HR⟩
          · have q1 : (z.toList == []) = false := nonempty_ne e0
            have q2 : ¬ z.toList = [] := by simpa using q1
            have hb : bad = true := by
              rw [← HBAD.out]
              unfold okHead
              have : (p.data.toList.isEmpty && q.data.toList.isEmpty) = false := Bool.eq_false_iff.2 fun h => e0 (by
                rw [Bool.and_eq_true, List.isEmpty_iff, List.isEmpty_iff] at h
                rw [← len_size, hzl, h.1, h.2]; rfl)
              rw [this, decide_eq_false (by omega : ¬ 3 ≤ L.length)]
              simp
            subst hb
            clear n3 n2 e0 hzl hzs
            go_wp2
            go_meet
            case rel => exact ⟨rfl, hS, HR⟩
        have n2' : ¬ (L.length : Int) < 3 := by omega
        have HH := Lib.hid (show bad = !((p.data.toList.isEmpty || partsS true (p.data.toList.drop 1)) && (q.data.toList.isEmpty || partsS false (q.data.toList.drop 1))) by
          rw [← HBAD.out]
          unfold okHead
          rw [decide_eq_true (by omega : L.length ≤ 3), decide_eq_true (by omega : 3 ≤ L.length)]
          simp)
        clear n3 n2 HBAD
        obtain ⟨p', hp'⟩ : ∃ z, p.extract 1 p.size = z := ⟨_, rfl⟩
        obtain ⟨q', hq'⟩ : ∃ z, q.extract 1 q.size = z := ⟨_, rfl⟩
        have hpd : p'.data.toList = p.data.toList.drop 1 := by rw [← hp']; exact extract_drop p 1
        have hqd : q'.data.toList = q.data.toList.drop 1 := by rw [← hq']; exact extract_drop q 1
        have HP1 := Lib.hid fun W => parts_any p' (by rw [← hp']; exact Nat.le_trans (extract_size_le _ _ _) hpq.1) true W
        have HP2 := Lib.hid fun W => parts_any q' (by rw [← hq']; exact Nat.le_trans (extract_size_le _ _ _) hpq.2) false W
        rw [← hpd, ← hqd] at HH
        obtain ⟨b1, hb1⟩ : ∃ b, partsS true p'.data.toList = b := ⟨_, rfl⟩
        obtain ⟨b2, hb2⟩ : ∃ b, partsS false q'.data.toList = b := ⟨_, rfl⟩
        rw [hb1] at HP1 HH
        rw [hb2] at HP2 HH
        clear hb1 hb2 hpd hqd
        by_cases e1 : p.size = 0
        · obtain rfl : p = ⟨#[]⟩ := empty_of_size e1
          by_cases e2 : q.size = 0
          · obtain rfl : q = ⟨#[]⟩ := empty_of_size e2
            obtain rfl : bad = false := HH.out
            clear e1 e2 hp' hq' HH
            go_wp2
            go_meet
            case rel => exact ⟨rfl, hS, HR⟩
          · have hq1 : 1 ≤ q.size := by omega
            have q1 : (q.toList == []) = false := nonempty_ne e2
            have q2 : ¬ q.toList = [] := by simpa using q1
            obtain rfl : bad = !b2 := by rw [HH.out, isE_no e2]; simp
            clear e1 e2 hp' HH
            cases b2 <;>
            · go_wp2_with (go_at_call 50; refine (HP2.out _).mono ?_; rintro e w6 ⟨rfl, hb6⟩; have hS := Lib.hid (hS.out.later hb6); have HR := Lib.hid (Kd.R_below HR.out hb6))
              go_meet
              case rel => exact ⟨rfl, hS, HR⟩
        have hp1 : 1 ≤ p.size := by omega
        have q3 : (p.toList == []) = false := nonempty_ne e1
        have q4 : ¬ p.toList = [] := by simpa using q3
        have HH := Lib.hid (show bad = !(b1 && (q.data.toList.isEmpty || b2)) by rw [HH.out, isE_no e1]; rfl)
        cases b1 with
        | false =>
          obtain rfl : bad = true := HH.out
          clear e1 hq' HH
          go_wp2_with (go_at_call 50; refine (HP1.out _).mono ?_; rintro e w6 ⟨rfl, hb6⟩; have hS := Lib.hid (hS.out.later hb6); have HR := Lib.hid (Kd.R_below HR.out hb6))
          go_meet
          case rel => exact ⟨rfl, hS, HR⟩
        | true =>
          by_cases e2 : q.size = 0
          · obtain rfl : q = ⟨#[]⟩ := empty_of_size e2
            obtain rfl : bad = false := HH.out
            clear e1 e2 hq' HH
            go_wp2_with (go_at_call 50; refine (HP1.out _).mono ?_; rintro e w6 ⟨rfl, hb6⟩; have hS := Lib.hid (hS.out.later hb6); have HR := Lib.hid (Kd.R_below HR.out hb6); obtain ⟨-, -, -, -, k4', -⟩ := hS.out.cells)
            go_meet
            case rel => exact ⟨rfl, hS, HR⟩
          · have hq1 : 1 ≤ q.size := by omega
            have q1 : (q.toList == []) = false := nonempty_ne e2
            have q2 : ¬ q.toList = [] := by simpa using q1
            obtain rfl : bad = !b2 := by rw [HH.out, isE_no e2]; simp
            clear e1 e2 HH
            cases b2 <;>
            · go_wp2_with (first
                | (go_at_call 50; have := hb6; refine (HP2.out _).mono ?_; rintro e w7 ⟨rfl, hb7⟩; have hS := Lib.hid (hS.out.later hb7); have HR := Lib.hid (Kd.R_below HR.out hb7))
                | (go_at_call 50; refine (HP1.out _).mono ?_; rintro e w6 ⟨rfl, hb6⟩; have hS := Lib.hid (hS.out.later hb6); have HR := Lib.hid (Kd.R_below HR.out hb6); obtain ⟨-, -, -, -, k4', -⟩ := hS.out.cells))
              go_meet
              case rel => exact ⟨rfl, hS, HR⟩
      case rest =>
        clear hS HR
        obtain ⟨rfl, hS, HR⟩ := hcut
        clear hbad
        cases bad with
        | true =>
          have HO := Lib.hid (show rdL s.data.toList = none from HO.out)
          obtain ⟨k0, k1, k2, k3, k4, k5⟩ := hS.out.cells
          obtain ⟨m0, m1, m2, m3, m4, m5⟩ := hS.out.out0
          obtain ⟨f0, f1, f2, f3, f4, f5⟩ := hS.out.free0
          go_wp2
          refine bodyPost_ret (results_ct rfl _ _ _ _ _ (0, 0) _ rfl (hS.out.out).1 hu rfl (by kernel_rfl)) rfl ?_
          exact read_none hS.out HO.out
        | false =>
          have hL3 : L.length ≤ 3 := by
            have h := HOK.out rfl
            unfold okHead at h
            simp only [Bool.and_eq_true, decide_eq_true_eq] at h
            exact h.1.1.1
          have HO := Lib.hid (show rdL s.data.toList = if (cutL 46 y.data.toList).all svNumB = true then some ((cutL 46 y.data.toList).headD [], q.data.toList, L.length) else none by rw [HO.out, Bool.not_false, Bool.true_and])
          clear HOK
          go_wp2_with (fail)
          go_loopw [104] (fun i wr => ∃ (ki : Int) (a b d : ByteArray), 0 ≤ ki ∧ ki ≤ (L.length : Int) ∧ i = .int .i64 ki ∧ Hid (SemAt w wr a b d p q (L.length : Int)) ∧ Hid (Kd.R Kd.string 9 wr w.heap.size (fun _ => True) (.slice A L.length c) L) ∧ Hid (((cutL 46 y.data.toList).take ki.toNat).all svNumB = true ∧ (1 ≤ ki → (cutL 46 y.data.toList)[0]? = some a.data.toList))) (fun i _ => L.length - (intOf i).toNat)
          case atStart => exact ⟨0, _, _, _, Int.le_refl _, by omega, rfl, hS, HR, Lib.hid ⟨rfl, fun h => absurd h (by decide)⟩⟩
          case round =>
            clear hS HR
            obtain ⟨ki, a, b, d, hk0, hk, rfl, hS, HR, hT⟩ := hrel
            by_cases hlti : ki < (L.length : Int)
            · obtain ⟨hxs, hxe⟩ := HX.out ki.toNat (by omega)
              rw [show ((ki.toNat : Nat) : Int) = ki by omega] at hxs hxe
              obtain ⟨ad, e, hxc⟩ := Kd.at_string (Kd.R_reads' HR.out).2.2 ki hk0 hlti
              obtain ⟨x1, hxx⟩ : ∃ x, rdOf ByteArray.empty L ki = x := ⟨_, rfl⟩
              rw [hxx] at hxs hxe hxc
              cases e
              have hT2 := Lib.hid (all_take hT.out.1 hxe)
              cases hN : svNumB x1.data.toList with
              | false =>
                have HN := Lib.hid fun W => number_at x1 hxs false hN W
                have HO := Lib.hid (show rdL s.data.toList = none by rw [HO.out, hT2.out.2 hN]; rfl)
                clear hN hxe hxx hT hT2
                go_wp2_with (go_at_call 51; refine (HN.out _).mono ?_; rintro e w4 ⟨rfl, hb4⟩; have hS := Lib.hid (hS.out.later hb4); obtain ⟨k0, k1, k2, k3, k4, k5⟩ := hS.out.cells; obtain ⟨m0, m1, m2, m3, m4, m5⟩ := hS.out.out0; obtain ⟨f0, f1, f2, f3, f4, f5⟩ := hS.out.free0)
                refine bodyPost_ret (results_ct rfl _ _ _ _ _ (0, 0) _ rfl (hS.out.out).1 hu rfl (by kernel_rfl)) rfl ?_
                exact read_none hS.out HO.out
              | true =>
                have HN := Lib.hid fun W => number_at x1 hxs true hN W
                have HT := Lib.hid (hT2.out.1 hN)
                have HX1 := Lib.hid hxe
                clear hN hxe hxx hT2
                obtain rfl | rfl | rfl : ki = 0 ∨ ki = 1 ∨ ki = 2 := by omega
                · have hxd : wr.cell? ad = some (.string x1) := by simpa [Addr.add] using hxc
                  clear hxc
                  go_wp2_with (go_at_call 51; refine (HN.out _).mono ?_; rintro e w4 ⟨rfl, hb4⟩; have hS := Lib.hid (hS.out.later hb4); have HR := Lib.hid (Kd.R_below HR.out hb4); obtain ⟨k0, -, -, -, -, -⟩ := hS.out.cells; have f0 := hS.out.free 0)
                  go_roundw
                  case rel => exact ⟨1, _, _, _, by omega, by omega, by go_num, Lib.hid (hS.out.put0 _), Lib.hid (Kd.R_set HR.out hS.out.2.1 (fun q hq => (List.mem_singleton.1 hq).symm ▸ (by decide)) 0 _), Lib.hid ⟨HT.out, fun _ => HX1.out⟩⟩
                  case measure => simp [intOf]; omega
                · have hxd : wr.cell? ⟨ad.block, ad.off + 1, none⟩ = some (.string x1) := by simpa [Addr.add] using hxc
                  clear hxc
                  go_wp2_with (go_at_call 51; refine (HN.out _).mono ?_; rintro e w4 ⟨rfl, hb4⟩; have hS := Lib.hid (hS.out.later hb4); have HR := Lib.hid (Kd.R_below HR.out hb4); obtain ⟨-, k1, -, -, -, -⟩ := hS.out.cells; have f1 := hS.out.free 1)
                  go_roundw
                  case rel => exact ⟨2, _, _, _, by omega, by omega, by go_num, Lib.hid (hS.out.put1 _), Lib.hid (Kd.R_set HR.out hS.out.2.1 (fun q hq => (List.mem_singleton.1 hq).symm ▸ (by decide)) 1 _), Lib.hid ⟨HT.out, fun _ => hT.out.2 (by omega)⟩⟩
                  case measure => simp [intOf]; omega
                · have hxd : wr.cell? ⟨ad.block, ad.off + 2, none⟩ = some (.string x1) := by simpa [Addr.add] using hxc
                  clear hxc
                  go_wp2_with (go_at_call 51; refine (HN.out _).mono ?_; rintro e w4 ⟨rfl, hb4⟩; have hS := Lib.hid (hS.out.later hb4); have HR := Lib.hid (Kd.R_below HR.out hb4); obtain ⟨-, -, k2, -, -, -⟩ := hS.out.cells; have f2 := hS.out.free 2)
                  go_roundw
                  case rel => exact ⟨3, _, _, _, by omega, by omega, by go_num, Lib.hid (hS.out.put2 _), Lib.hid (Kd.R_set HR.out hS.out.2.1 (fun q hq => (List.mem_singleton.1 hq).symm ▸ (by decide)) 2 _), Lib.hid ⟨HT.out, fun _ => hT.out.2 (by omega)⟩⟩
                  case measure => simp [intOf]; omega
            · have HO := Lib.hid (show rdL s.data.toList = some (a.data.toList, q.data.toList, L.length) by
                have h1 := hT.out.1
                rw [List.take_of_length_le (by have := HLEN.out; omega)] at h1
                have h2 := hT.out.2 (by omega)
                rw [HO.out, if_pos h1, List.headD_eq_head?_getD, List.head?_eq_getElem?, h2]
                rfl)
              clear hT
              obtain ⟨k0, k1, k2, k3, k4, k5⟩ := hS.out.cells
              obtain ⟨m0, m1, m2, m3, m4, m5⟩ := hS.out.out0
              obtain ⟨f0, f1, f2, f3, f4, f5⟩ := hS.out.free0
              go_wp2
              refine bodyPost_ret (results_ct rfl _ _ _ _ _ (0, 0) _ rfl (hS.out.out).1 hu rfl (by kernel_rfl)) rfl ?_
              exact read_some hS.out HO.out
theorem read_early {w W : World} (h : W = (w.alloc (.cells #[.string ⟨#[48]⟩, .string ⟨#[48]⟩, .string ⟨#[48]⟩, .string ⟨#[]⟩, .string ⟨#[]⟩, .int .i64 0] 38)).alloc (.cells #[.string ⟨#[48]⟩, .string ⟨#[48]⟩, .string ⟨#[48]⟩, .string ⟨#[]⟩, .string ⟨#[]⟩, .int .i64 0] 38)) {o : Option (List UInt8 × List UInt8 × Nat)} (ho : o = none) :
    W.heap[w.heap.size]? = some (.cells #[.string ⟨#[48]⟩, .string ⟨#[48]⟩, .string ⟨#[48]⟩, .string ⟨#[]⟩, .string ⟨#[]⟩, .int .i64 0] 38 (0, 0)) ∧ ReadPost o w (.returned (.tuple #[.agg #[.string ⟨#[48]⟩, .string ⟨#[48]⟩, .string ⟨#[48]⟩, .string ⟨#[]⟩, .string ⟨#[]⟩, .int .i64 0], .bool false])) W := by
  subst h
  exact ⟨blk_alloc (blk_new w _) _, _, _, _, _, _, _, false, rfl, ((Below.refl _ _).alloc (Nat.le_refl _) _).alloc (by go_simp) _, by rw [ho]; rfl, fun x hx => by rw [ho] at hx; cases hx⟩
set_option maxRecDepth 100000 in
set_option maxHeartbeats 1600000 in
/-- spec.Read answers rdL. -/
theorem read_any (s : ByteArray) (hs : s.size ≤ 1099511627776) (w : World) : Calls Tryf.prog 35 #[.string s] w (ReadPost (rdL s.data.toList) w) := by
  have hu := Tryf.underlying38
  by_cases e0 : s.size = 0
  · obtain rfl : s = ⟨#[]⟩ := empty_of_size e0
    have HO := Lib.hid (show rdL (⟨#[]⟩ : ByteArray).data.toList = none from rfl)
    go_enter Tryf.func35, Tryf.ntmps35
    go_wp2
    refine bodyPost_ret (results_ct rfl _ _ _ _ _ (0, 0) _ rfl (read_early rfl HO.out).1 hu rfl (by kernel_rfl)) rfl ?_
    exact (read_early rfl HO.out).2
  have hgb := get_gb s
  have hne : (s.toList == []) = false := nonempty_ne e0
  have h0 : 0 < s.size := by omega
  by_cases hv : gb s 0 = 118
  · exact read_cut s hs hne h0 h0 (by simp [hv]) hv w
  · have n1 : (gb s 0 != 118) = true := by simpa using hv
    have HO := Lib.hid (show rdL s.data.toList = none by unfold rdL; rw [← gb_lb, if_neg hv])
    clear hv e0
    go_enter Tryf.func35, Tryf.ntmps35
    go_wp2
    refine bodyPost_ret (results_ct rfl _ _ _ _ _ (0, 0) _ rfl (read_early rfl HO.out).1 hu rfl (by kernel_rfl)) rfl ?_
    exact (read_early rfl HO.out).2

end Go.Proofs.YtpbebckhemnooaaFmt.PS
