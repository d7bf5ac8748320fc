/- What spec.number, spec.parts and spec.Read answer, on lists of bytes; the condition is the text's size. spec.Read on lists of bytes, and that package semver's parse accepts the same; no condition. -/
import Derived.Test.YtpbebckhemnooaaFmtSemP
import Derived.Test.YtpbebckhemnooaaFmtLawBase

namespace Go.Proofs.YtpbebckhemnooaaFmt.PS
open Go.RowKit Go.Proofs.YtpbebckhemnooaaFmtW.PrintWords Go.Proofs.YtpbebckhemnooaaFmtW.PrintLast Go.Proofs.YtpbebckhemnooaaFmtW.PrintMore
set_option linter.unusedVariables false
set_option linter.unusedSimpArgs false

def svNumB (l : List UInt8) : Bool := digitsB l && (decide (l.length = 1) || decide (lb l 0 ≠ 48))
def partS (st : Bool) (x : List UInt8) : Bool := decide (x ≠ []) && allB true true [45] x && !(st && digitsB x && !svNumB x)
theorem digits_at (s : ByteArray) (hs : s.size ≤ 1099511627776) (b : Bool) (h : digitsB s.data.toList = b) (w : World) : Calls Tryf.prog 70 #[.string s] w fun e w' => e = .returned (.bool b) ∧ Below w.heap.size w w' := by
  obtain ⟨k, hk⟩ := (digits_ev s hs).fin
  rw [← h]
  exact (spec_digits.calls k s _ w hk).mono fun _ _ ⟨he, hd⟩ => ⟨he, by first | exact hd | exact drawn_below hd⟩
theorem digits_pos {l : List UInt8} (h : digitsB l = true) : 0 < l.length := by
  unfold digitsB at h
  rw [Bool.and_eq_true, decide_eq_true_eq] at h
  exact h.1

set_option maxHeartbeats 800000 in
theorem number_at (s : ByteArray) (hs : s.size ≤ 1099511627776) (b : Bool) (h : svNumB s.data.toList = b) (w : World) : Calls Tryf.prog 51 #[.string s] w fun e w' => e = .returned (.bool b) ∧ Below w.heap.size w w' := by
  have hgb := get_gb s
  unfold svNumB at h
  rw [len_size, ← gb_lb] at h
  cases hd : digitsB s.data.toList with
  | false =>
    have HD := Lib.hid fun W => digits_at s hs false hd W
    rw [hd] at h
    obtain rfl : false = b := h
    clear hd
    go_enter Tryf.func51, Tryf.ntmps51
    go_wp2_with (go_at_call 70; refine (HD.out _).mono ?_; rintro e w7 ⟨rfl, hb7⟩)
    go_ret
    exact ⟨rfl, hb7⟩
  | true =>
    have HD := Lib.hid fun W => digits_at s hs true hd W
    have h0 : 0 < s.size := by have := digits_pos hd; rw [len_size] at this; exact this
    rw [hd, Bool.true_and] at h
    clear hd
    by_cases h1 : s.size = 1
    · have q1 : ((s.size : Int) == 1) = true := by simp [h1]
      rw [decide_eq_true h1, Bool.true_or] at h
      obtain rfl := h
      clear h1
      go_enter Tryf.func51, Tryf.ntmps51
      go_wp2_with (go_at_call 70; refine (HD.out _).mono ?_; rintro e w7 ⟨rfl, hb7⟩)
      go_ret
      exact ⟨rfl, hb7⟩
    · have q1 : ((s.size : Int) == 1) = false := by simp; omega
      rw [decide_eq_false h1, Bool.false_or] at h
      have q2 : (gb s 0 != 48) = b := by rw [← h]; by_cases e : gb s 0 = 48 <;> simp [e]
      clear h1 h
      go_enter Tryf.func51, Tryf.ntmps51
      go_wp2_with (go_at_call 70; refine (HD.out _).mono ?_; rintro e w7 ⟨rfl, hb7⟩)
      go_ret
      exact ⟨rfl, hb7⟩

theorem cut_count (b : UInt8) : ∀ l : List UInt8, (cutL b l).length ≤ l.length + 1
  | [] => by simp [cutL]
  | c :: l => by
    have ih := cut_count b l
    unfold cutL
    by_cases h : c = b
    · rw [if_pos h]; simp; omega
    · rw [if_neg h]; simp; omega
/-- spec.Cut, its answer named. -/
theorem cut_named (s : ByteArray) (hs : s.size ≤ 1099511627776) (b : UInt8) : ∃ L : List ByteArray, L.map (fun x => x.data.toList) = cutL b s.data.toList ∧ L.length ≤ 1099511627777 ∧ (∀ k : Nat, k < L.length → (rdOf ByteArray.empty L (k : Int)).size ≤ 1099511627776 ∧ (cutL b s.data.toList)[k]? = some (rdOf ByteArray.empty L (k : Int)).data.toList) ∧
    ∀ W : World, Calls Tryf.prog 44 #[.string s, .int .u8 (b.toNat : Int)] W fun e w' => ∃ A c, e = .returned (.slice A L.length c) ∧ Kd.R Kd.string 9 w' W.heap.size (fun _ => True) (.slice A L.length c) L ∧ Below W.heap.size W w' := by
  obtain ⟨L, h1, h2⟩ := Cut_ev s b hs
  obtain ⟨k, hk⟩ := h1.fin
  have hl : L.length ≤ 1099511627777 := by
    have := cut_count b s.data.toList
    rw [← h2, List.length_map, len_size] at this
    omega
  refine ⟨L, h2, hl, fun i hi => ?_, fun W => (spec_Cut.calls k s _ L W hk).mono fun e w' ⟨v, he, hr, hb⟩ => ?_⟩
  · have e1 : rdOf ByteArray.empty L (i : Int) = L[i] := by
      unfold rdOf
      simp [List.getD_eq_getElem?_getD, List.getElem?_eq_getElem hi]
    have e2 : (cutL b s.data.toList)[i]? = some (L[i]).data.toList := by rw [← h2, List.getElem?_map, List.getElem?_eq_getElem hi]; rfl
    rw [e1]
    refine ⟨?_, e2⟩
    have := cut_len (List.mem_of_getElem? e2)
    rw [len_size, len_size] at this
    omega
  · obtain ⟨A, c, rfl⟩ := Kd.R_slice hr
    exact ⟨A, c, he, hr, hb⟩

def partsS (st : Bool) (l : List UInt8) : Bool := (cutL 46 l).all (partS st)
theorem all_take {f : List UInt8 → Bool} {M : List (List UInt8)} {k : Nat} {x : List UInt8} (h : (M.take k).all f = true) (hx : M[k]? = some x) : (f x = true → (M.take (k + 1)).all f = true) ∧ (f x = false → M.all f = false) := by
  refine ⟨fun hf => ?_, fun hf => ?_⟩
  · rw [List.take_add_one, hx, List.all_append, h]
    simp [hf]
  · refine Bool.eq_false_iff.2 fun h2 => ?_
    have := List.all_eq_true.1 h2 x (List.mem_of_getElem? hx)
    rw [hf] at this
    cases this

set_option maxHeartbeats 3200000 in
theorem parts_any (s : ByteArray) (hs : s.size ≤ 1099511627776) (st : Bool) (w : World) : Calls Tryf.prog 50 #[.string s, .bool st] w fun e w' => e = .returned (.bool (partsS st s.data.toList)) ∧ Below w.heap.size w w' := by
  obtain ⟨L, hL, hn, hx, HC⟩ := cut_named s hs 46
  have HC := Lib.hid HC
  have HX := Lib.hid hx
  have hlen : L.length = (cutL 46 s.data.toList).length := by rw [← hL, List.length_map]
  have HLEN := Lib.hid hlen
  have hn' : (L.length : Int) ≤ 1099511627777 := by omega
  clear hL hx hlen
  go_enter Tryf.func50, Tryf.ntmps50
  go_wp2_with (go_at_call 44; refine (HC.out _).mono ?_; rintro e w1 ⟨A, c, rfl, hR1, hb1⟩; have hR1 := Lib.hid hR1; have hb1 := Lib.hid hb1)
  go_loopw [10] (fun i wr => ∃ ki : Int, 0 ≤ ki ∧ ki ≤ (L.length : Int) ∧ i = .int .i64 ki ∧ Hid (Kd.R Kd.string 9 wr w.heap.size (fun _ => True) (.slice A L.length c) L) ∧ Hid (Below w.heap.size w wr) ∧ Hid (((cutL 46 s.data.toList).take ki.toNat).all (partS st) = true)) (fun i _ => L.length - (intOf i).toNat)
  case atStart => exact ⟨0, Int.le_refl _, by omega, rfl, hR1, hb1, Lib.hid rfl⟩
  case round =>
    obtain ⟨ki, hk0, hk, rfl, hR, hB, hT⟩ := hrel
    by_cases hlti : ki < (L.length : Int)
    · obtain ⟨hxs, hxe⟩ := HX.out ki.toNat (by omega)
      rw [show ((ki.toNat : Nat) : Int) = ki by omega] at hxs hxe
      obtain ⟨ad, e, hxc⟩ := Kd.at_string (Kd.R_reads' hR.out).2.2 ki hk0 hlti
      obtain ⟨x, hxx⟩ : ∃ x, rdOf ByteArray.empty L ki = x := ⟨_, rfl⟩
      rw [hxx] at hxs hxe hxc
      cases e
      have hT2 := Lib.hid (all_take hT.out hxe)
      clear hxe hxx
      by_cases h0 : x.size = 0
      · obtain rfl : x = ⟨#[]⟩ := empty_of_size h0
        have HF := Lib.hid (hT2.out.2 (by unfold partS; rfl))
        clear h0 hxs
        go_wp2
        go_ret
        exact ⟨by unfold partsS; rw [HF.out]; rfl, hB.out⟩
      have hne : (x.toList == []) = false := nonempty_ne h0
      have hnx : decide (x.data.toList ≠ []) = true := decide_eq_true fun h => h0 (by rw [← len_size, h]; rfl)
      have HNX := Lib.hid hnx
      clear h0 hnx
      cases hA : allB true true [45] x.data.toList with
      | false =>
        have HA := Lib.hid fun W => all_at x ⟨#[45]⟩ true true hxs (by decide) W
        rw [show (⟨#[45]⟩ : ByteArray).data.toList = [45] from rfl, hA] at HA
        have HF := Lib.hid (hT2.out.2 (by unfold partS; rw [hA]; simp))
        clear hA
        go_wp2_with (go_at_call 28; refine (HA.out _).mono ?_; rintro e w2 ⟨rfl, hb2⟩)
        go_ret
        exact ⟨by unfold partsS; rw [HF.out]; rfl, hB.out.trans (hb2.mono hB.out.size)⟩
      | true =>
        have HA := Lib.hid fun W => all_at x ⟨#[45]⟩ true true hxs (by decide) W
        rw [show (⟨#[45]⟩ : ByteArray).data.toList = [45] from rfl, hA] at HA
        cases st with
        | false =>
          have HT := Lib.hid (hT2.out.1 (by unfold partS; rw [hA, HNX.out]; rfl))
          clear hA
          go_wp2_with (go_at_call 28; refine (HA.out _).mono ?_; rintro e w2 ⟨rfl, hb2⟩)
          go_roundw
          case rel => exact ⟨ki + 1, by omega, by omega, by go_num, Lib.hid (Kd.R_below hR.out hb2), Lib.hid (hB.out.trans (hb2.mono hB.out.size)), (show (ki + 1).toNat = ki.toNat + 1 by omega) ▸ HT⟩
          case measure => simp [intOf]; omega
        | true =>
          cases hD : digitsB x.data.toList with
          | false =>
            have HD := Lib.hid fun W => digits_at x hxs false hD W
            have HT := Lib.hid (hT2.out.1 (by unfold partS; rw [hA, HNX.out, hD]; rfl))
            clear hA hD
            go_wp2_with (first
              | (go_at_call 28; refine (HA.out _).mono ?_; rintro e w2 ⟨rfl, hb2⟩)
              | (go_at_call 70; refine (HD.out _).mono ?_; rintro e w3 ⟨rfl, hb3⟩))
            have hb := hb2.trans (hb3.mono hb2.size)
            go_roundw
            case rel => exact ⟨ki + 1, by omega, by omega, by go_num, Lib.hid (Kd.R_below hR.out hb), Lib.hid (hB.out.trans (hb.mono hB.out.size)), (show (ki + 1).toNat = ki.toNat + 1 by omega) ▸ HT⟩
            case measure => simp [intOf]; omega
          | true =>
            have HD := Lib.hid fun W => digits_at x hxs true hD W
            cases hN : svNumB x.data.toList with
            | true =>
              have HN := Lib.hid fun W => number_at x hxs true hN W
              have HT := Lib.hid (hT2.out.1 (by unfold partS; rw [hA, HNX.out, hD, hN]; rfl))
              clear hA hD hN
              go_wp2_with (first
                | (go_at_call 28; refine (HA.out _).mono ?_; rintro e w2 ⟨rfl, hb2⟩)
                | (go_at_call 70; refine (HD.out _).mono ?_; rintro e w3 ⟨rfl, hb3⟩)
                | (go_at_call 51; refine (HN.out _).mono ?_; rintro e w4 ⟨rfl, hb4⟩))
              have hb23 := hb2.trans (hb3.mono hb2.size)
              have hb := hb23.trans (hb4.mono hb23.size)
              go_roundw
              case rel => exact ⟨ki + 1, by omega, by omega, by go_num, Lib.hid (Kd.R_below hR.out hb), Lib.hid (hB.out.trans (hb.mono hB.out.size)), (show (ki + 1).toNat = ki.toNat + 1 by omega) ▸ HT⟩
              case measure => simp [intOf]; omega
            | false =>
              have HN := Lib.hid fun W => number_at x hxs false hN W
              have HF := Lib.hid (hT2.out.2 (by unfold partS; rw [hA, HNX.out, hD, hN]; rfl))
              clear hA hD hN
              go_wp2_with (first
                | (go_at_call 28; refine (HA.out _).mono ?_; rintro e w2 ⟨rfl, hb2⟩)
                | (go_at_call 70; refine (HD.out _).mono ?_; rintro e w3 ⟨rfl, hb3⟩)
                | (go_at_call 51; refine (HN.out _).mono ?_; rintro e w4 ⟨rfl, hb4⟩))
              have hb23 := hb2.trans (hb3.mono hb2.size)
              have hb := hb23.trans (hb4.mono hb23.size)
              go_ret
              exact ⟨by unfold partsS; rw [HF.out]; rfl, hB.out.trans (hb.mono hB.out.size)⟩
    · have HT : Hid (partsS st s.data.toList = true) := Lib.hid (by
        have := hT.out
        rw [List.take_of_length_le (by have := HLEN.out; omega)] at this
        exact this)
      go_wp2
      go_ret
      exact ⟨by rw [HT.out]; rfl, hB.out⟩

end Go.Proofs.YtpbebckhemnooaaFmt.PS

namespace Go.Proofs.YtpbebckhemnooaaFmt.PS
open Go.RowKit
set_option linter.unusedVariables false
set_option linter.unusedSimpArgs false

def q45 (c : UInt8) : Bool := c != 45
def coreL (t : List UInt8) : List UInt8 := (t.takeWhile q43).takeWhile q45
def preS (t : List UInt8) : List UInt8 := (t.takeWhile q43).dropWhile q45
def plusS (t : List UInt8) : List UInt8 := t.dropWhile q43
/-- What spec.Read asks of the numbers and of what stands behind them, k numbers ahead. -/
def okRd (k : Nat) (L : List (List UInt8)) (p q : List UInt8) : Bool :=
  decide (k + L.length ≤ 3) && (decide (3 ≤ k + L.length) || (p.isEmpty && q.isEmpty)) && (p.isEmpty || partsS true (p.drop 1)) && (q.isEmpty || partsS false (q.drop 1)) && L.all svNumB
def rdP (k : Nat) (t : List UInt8) : Option (List UInt8) := if okRd k (cutL 46 (coreL t)) (preS t) (plusS t) = true then some (plusS t) else none
/-- What spec.Read answers: the first number, what stands from + on, how many numbers. -/
def rdL (l : List UInt8) : Option (List UInt8 × List UInt8 × Nat) :=
  if lb l 0 = 118 then (rdP 0 (l.drop 1)).map fun q => ((cutL 46 (coreL (l.drop 1))).headD [], q, (cutL 46 (coreL (l.drop 1))).length) else none

/-! ### one identifier, one number -/
theorem fig_dig (c : UInt8) : figC c = true ↔ digC c := by
  unfold figC digC
  rw [figI_iff]
  omega
theorem digits_fig (l : List UInt8) : digitsB l = true ↔ l ≠ [] ∧ ∀ c ∈ l, figC c = true := by
  rw [digits_iff]
  exact and_congr_right fun _ => forall_congr' fun c => imp_congr_right fun _ => (fig_dig c).symm
set_option maxRecDepth 100000 in
theorem okC_ident_all : ∀ n : Fin 256, okC true true [45] (n.val : Int) = identI (n.val : Int) := by decide
theorem all_ident (l : List UInt8) : allB true true [45] l = l.all identC := by
  unfold allB
  congr 1
  funext c
  exact okC_ident_all ⟨c.toNat, c.toNat_lt⟩
theorem tw_mem (f : UInt8 → Bool) : ∀ {l : List UInt8} {c : UInt8}, c ∈ l.takeWhile f → f c = true
  | [], c, h => by cases h
  | d :: l, c, h => by
    rw [List.takeWhile_cons] at h
    cases hd : f d with
    | true =>
      rw [hd, if_pos rfl] at h
      rcases List.mem_cons.1 h with rfl | h
      · exact hd
      · exact tw_mem f h
    | false => rw [hd] at h; cases h
theorem tw_take (f : UInt8 → Bool) (l : List UInt8) : l.take (l.takeWhile f).length = l.takeWhile f ∧ l.drop (l.takeWhile f).length = l.dropWhile f := by
  have e : l.takeWhile f ++ l.dropWhile f = l := List.takeWhile_append_dropWhile
  constructor
  · conv => lhs; rw [← e]
    rw [List.takeWhile_append_dropWhile]
    exact (List.prefix_iff_eq_take.1 (List.takeWhile_prefix f)).symm
  · have h : (l.takeWhile f ++ l.dropWhile f).drop (l.takeWhile f).length = l.dropWhile f := List.drop_left
    rw [e] at h
    exact h
theorem dw_head (f : UInt8 → Bool) : ∀ {l : List UInt8} {c : UInt8} {r : List UInt8}, l.dropWhile f = c :: r → f c = false
  | [], c, r, h => by cases h
  | d :: l, c, r, h => by
    rw [List.dropWhile_cons] at h
    cases hd : f d with
    | true => rw [hd] at h; exact dw_head f h
    | false => rw [hd] at h; obtain ⟨rfl, -⟩ := List.cons.inj h; exact hd
theorem figN_all {l : List UInt8} : figN l = l.length ↔ ∀ c ∈ l, figC c = true := by
  unfold figN
  constructor
  · intro h c hc
    have := (tw_take figC l).1
    rw [h, List.take_length] at this
    rw [this] at hc
    exact tw_mem figC hc
  · intro h
    have := List.takeWhile_append_of_pos (p := figC) (l₁ := l) (l₂ := []) h
    simp only [List.append_nil, List.takeWhile_nil] at this
    rw [this]
theorem bad_num {x : List UInt8} : badNumB x = (digitsB x && !svNumB x) := by
  unfold badNumB svNumB
  by_cases h : ∀ c ∈ x, figC c = true
  · rw [decide_eq_true (figN_all.2 h)]
    cases x with
    | nil => rfl
    | cons a l =>
      have hd : digitsB (a :: l) = true := (digits_fig _).2 ⟨by simp, h⟩
      rw [hd]
      cases l with
      | nil => simp
      | cons b l => simp
  · have hd : digitsB x = false := Bool.eq_false_iff.2 fun h2 => h ((digits_fig _).1 h2).2
    rw [decide_eq_false (fun h2 => h (figN_all.1 h2)), hd]
    rfl
theorem part_same (st : Bool) (x : List UInt8) : partS st x = partB st x := by
  unfold partS partB
  rw [all_ident, bad_num, Bool.and_assoc st]
theorem parts_same (st : Bool) (l : List UInt8) : partsS st l = partsB st l := by
  unfold partsS partsB
  congr 1
  funext x
  exact part_same st x

/-! ### what stands ahead of + and - -/
theorem fig_no {c : UInt8} (h : figC c = true) : q43 c = true ∧ q45 c = true ∧ c ≠ 46 := by
  refine ⟨?_, ?_, ?_⟩
  · simp only [q43, bne_iff_ne]; intro e; subst e; exact absurd h (by decide)
  · simp only [q45, bne_iff_ne]; intro e; subst e; exact absurd h (by decide)
  · intro e; subst e; exact absurd h (by decide)
theorem core_app {a r : List UInt8} (h : ∀ c ∈ a, figC c = true) : coreL (a ++ r) = a ++ coreL r ∧ preS (a ++ r) = preS r ∧ plusS (a ++ r) = plusS r := by
  have h1 : ∀ c ∈ a, q43 c = true := fun c hc => (fig_no (h c hc)).1
  have h2 : ∀ c ∈ a, q45 c = true := fun c hc => (fig_no (h c hc)).2.1
  unfold coreL preS plusS
  rw [List.takeWhile_append_of_pos h1, List.takeWhile_append_of_pos h2, List.dropWhile_append_of_pos h2, List.dropWhile_append_of_pos h1]
  exact ⟨rfl, rfl, rfl⟩
theorem core_split : ∀ t : List UInt8, ∃ R, t = (cutL 46 (coreL t)).headD [] ++ R ∧ ∀ c r, R = c :: r → c = 43 ∨ c = 45 ∨ c = 46
  | [] => ⟨[], rfl, fun c r h => by cases h⟩
  | c :: t => by
    rw [cut_head]
    by_cases h1 : c = 43
    · subst h1
      exact ⟨43 :: t, rfl, fun d r h => .inl (List.cons.inj h).1.symm⟩
    by_cases h2 : c = 45
    · subst h2
      exact ⟨45 :: t, rfl, fun d r h => .inr (.inl (List.cons.inj h).1.symm)⟩
    by_cases h3 : c = 46
    · subst h3
      exact ⟨46 :: t, rfl, fun d r h => .inr (.inr (List.cons.inj h).1.symm)⟩
    obtain ⟨R, hR, hh⟩ := core_split t
    rw [cut_head] at hR
    refine ⟨R, ?_, hh⟩
    have e : coreL (c :: t) = c :: coreL t := by
      unfold coreL
      rw [List.takeWhile_cons, show q43 c = true by simpa [q43] using h1, if_pos rfl, List.takeWhile_cons, show q45 c = true by simpa [q45] using h2, if_pos rfl]
    rw [e, List.takeWhile_cons, show (c != 46) = true by simpa using h3, if_pos rfl, List.cons_append, ← hR]

theorem int_some {t a r : List UInt8} (h : intL t = some (a, r)) : t = a ++ r ∧ (∀ c ∈ a, figC c = true) ∧ svNumB a = true ∧ (∀ c r', r = c :: r' → figC c = false) := by
  unfold intL at h
  by_cases hb : intB t = true
  case neg => rw [if_neg hb] at h; cases h
  rw [if_pos hb] at h
  obtain ⟨rfl, rfl⟩ := Prod.mk.inj (Option.some.inj h)
  have hf : figN t = (t.takeWhile figC).length := rfl
  obtain ⟨e1, e2⟩ := tw_take figC t
  rw [← hf] at e1 e2
  have hm : ∀ c ∈ t.take (figN t), figC c = true := fun c hc => by rw [e1] at hc; exact tw_mem figC hc
  refine ⟨(List.take_append_drop _ _).symm, hm, ?_, fun c r' hr => dw_head figC (by rw [← e2]; exact hr)⟩
  unfold intB at hb
  rw [Bool.and_eq_true, decide_eq_true_eq] at hb
  obtain ⟨h1, h2⟩ := hb
  have hl : (t.take (figN t)).length = figN t := by rw [List.length_take]; have := figN_le t; omega
  have hne : t.take (figN t) ≠ [] := fun e => by rw [e] at hl; simp at hl; omega
  have hd : digitsB (t.take (figN t)) = true := (digits_fig _).2 ⟨hne, hm⟩
  have h0 : lb (t.take (figN t)) 0 = lb t 0 := by
    unfold lb
    rw [List.getD_eq_getElem?_getD, List.getD_eq_getElem?_getD, List.getElem?_take, if_pos (by omega)]
  unfold svNumB
  rw [hd, hl, h0, Bool.true_and, Bool.or_comm]
  exact h2
theorem int_of {t h R : List UInt8} (e : t = h ++ R) (hs : svNumB h = true) (hR : ∀ c r, R = c :: r → c = 43 ∨ c = 45 ∨ c = 46) : intL t = some (h, R) := by
  unfold svNumB at hs
  rw [Bool.and_eq_true] at hs
  obtain ⟨hd, h2⟩ := hs
  obtain ⟨hne, hm⟩ := (digits_fig _).1 hd
  have hR0 : R.takeWhile figC = [] := by
    cases R with
    | nil => rfl
    | cons c r =>
      rw [List.takeWhile_cons]
      rcases hR c r rfl with rfl | rfl | rfl <;> rfl
  have hf : figN t = h.length := by
    unfold figN
    rw [e, List.takeWhile_append_of_pos hm, hR0, List.append_nil]
  have hp : 0 < h.length := List.length_pos_iff.2 hne
  have h0 : lb t 0 = lb h 0 := by
    unfold lb
    rw [e, List.getD_eq_getElem?_getD, List.getD_eq_getElem?_getD, List.getElem?_append_left hp]
  unfold intL
  rw [if_pos, hf, e, List.take_left, List.drop_left]
  unfold intB
  rw [hf, h0, decide_eq_true (by omega : 1 ≤ h.length), Bool.true_and, Bool.or_comm]
  exact h2
theorem head_num {t : List UInt8} {k : Nat} (h : okRd k (cutL 46 (coreL t)) (preS t) (plusS t) = true) : ∃ R, t = (cutL 46 (coreL t)).headD [] ++ R ∧ (∀ c r, R = c :: r → c = 43 ∨ c = 45 ∨ c = 46) ∧ intL t = some ((cutL 46 (coreL t)).headD [], R) := by
  unfold okRd at h
  rw [Bool.and_eq_true] at h
  have h2 := h.2
  rw [cut_eq, List.all_cons, Bool.and_eq_true] at h2
  obtain ⟨R, hR, hh⟩ := core_split t
  exact ⟨R, hR, hh, int_of hR h2.1 hh⟩
theorem step_none {t : List UInt8} (k : Nat) (h : intL t = none) : okRd k (cutL 46 (coreL t)) (preS t) (plusS t) = false :=
  Bool.eq_false_iff.2 fun h2 => by
    obtain ⟨R, -, -, h3⟩ := head_num h2
    rw [h] at h3
    cases h3
theorem step_other {t a r : List UInt8} {c : UInt8} (k : Nat) (h : intL t = some (a, c :: r)) (h1 : c ≠ 43) (h2 : c ≠ 45) (h3 : c ≠ 46) : okRd k (cutL 46 (coreL t)) (preS t) (plusS t) = false :=
  Bool.eq_false_iff.2 fun h4 => by
    obtain ⟨R, -, h5, h6⟩ := head_num h4
    rw [h] at h6
    obtain ⟨-, h7⟩ := Prod.mk.inj (Option.some.inj h6)
    rcases h5 c r h7.symm with e | e | e
    · exact h1 e
    · exact h2 e
    · exact h3 e
theorem fig_46 {a : List UInt8} (h : ∀ c ∈ a, figC c = true) : ∀ c ∈ a, c ≠ 46 := fun c hc => (fig_no (h c hc)).2.2
theorem core_nil {a : List UInt8} (h : ∀ c ∈ a, figC c = true) : cutL 46 (coreL (a ++ [])) = [a] ∧ preS (a ++ []) = [] ∧ plusS (a ++ []) = [] := by
  obtain ⟨h1, h2, h3⟩ := core_app (r := []) h
  rw [h1, h2, h3, show coreL [] = [] from rfl, List.append_nil, cut_none (fig_46 h)]
  exact ⟨rfl, rfl, rfl⟩
theorem core_dot {a r : List UInt8} (h : ∀ c ∈ a, figC c = true) : cutL 46 (coreL (a ++ 46 :: r)) = a :: cutL 46 (coreL r) ∧ preS (a ++ 46 :: r) = preS r ∧ plusS (a ++ 46 :: r) = plusS r := by
  obtain ⟨h1, h2, h3⟩ := core_app (r := 46 :: r) h
  rw [h1, h2, h3, show coreL (46 :: r) = 46 :: coreL r from rfl]
  refine ⟨?_, rfl, rfl⟩
  rw [cut_at (k := a.length) (by simp; exact fig_46 h) (by simp)]
  simp
theorem core_dash {a r : List UInt8} (h : ∀ c ∈ a, figC c = true) : cutL 46 (coreL (a ++ 45 :: r)) = [a] ∧ preS (a ++ 45 :: r) = 45 :: r.takeWhile q43 ∧ plusS (a ++ 45 :: r) = r.dropWhile q43 := by
  obtain ⟨h1, h2, h3⟩ := core_app (r := 45 :: r) h
  rw [h1, h2, h3, show coreL (45 :: r) = [] from rfl, List.append_nil, cut_none (fig_46 h)]
  exact ⟨rfl, rfl, rfl⟩
theorem core_plus {a r : List UInt8} (h : ∀ c ∈ a, figC c = true) : cutL 46 (coreL (a ++ 43 :: r)) = [a] ∧ preS (a ++ 43 :: r) = [] ∧ plusS (a ++ 43 :: r) = 43 :: r := by
  obtain ⟨h1, h2, h3⟩ := core_app (r := 43 :: r) h
  rw [h1, h2, h3, show coreL (43 :: r) = [] from rfl, List.append_nil, cut_none (fig_46 h)]
  exact ⟨rfl, rfl, rfl⟩

theorem lb_cons (c : UInt8) (r : List UInt8) (n : Nat) (hn : n < 256) : lb (c :: r) 0 = (n : Int) ↔ c = UInt8.ofNat n := nat_eq hn
theorem yes46 (r : List UInt8) : lb (46 :: r) 0 = 46 := rfl
theorem yes45 (r : List UInt8) : lb (45 :: r) 0 = 45 := rfl
theorem yes43 (r : List UInt8) : lb (43 :: r) 0 = 43 := rfl
theorem lb_no {c : UInt8} {r : List UInt8} {n : Nat} (hn : n < 256) (h : c ≠ UInt8.ofNat n) : ¬ lb (c :: r) 0 = (n : Int) := fun e => h ((lb_cons c r n hn).1 e)

theorem no46 {c : UInt8} {r : List UInt8} (h : c ≠ 46) : ¬ lb (c :: r) 0 = 46 := lb_no (n := 46) (by omega) h
theorem no45 {c : UInt8} {r : List UInt8} (h : c ≠ 45) : ¬ lb (c :: r) 0 = 45 := lb_no (n := 45) (by omega) h
theorem no43 {c : UInt8} {r : List UInt8} (h : c ≠ 43) : ¬ lb (c :: r) 0 = 43 := lb_no (n := 43) (by omega) h

theorem rd_mid (k : Nat) (hk : k ≤ 1) (t : List UInt8) : rdP k t = (intL t).bind fun y => if y.2 = [] then some [] else if lb y.2 0 = 46 then rdP (k + 1) (y.2.drop 1) else none := by
  cases hi : intL t with
  | none => unfold rdP; rw [step_none k hi]; rfl
  | some x =>
    obtain ⟨a, r⟩ := x
    obtain ⟨ht, hf, hs, -⟩ := int_some hi
    simp only [Option.bind_some]
    cases r with
    | nil =>
      obtain ⟨e1, e2, e3⟩ := core_nil hf
      unfold rdP
      rw [ht, e1, e2, e3, if_pos rfl, if_pos]
      unfold okRd
      simp [hs]; omega
    | cons c r =>
      rw [if_neg (by simp)]
      by_cases h46 : c = 46
      · subst h46
        obtain ⟨e1, e2, e3⟩ := core_dot (r := r) hf
        rw [if_pos (yes46 r)]
        unfold rdP
        rw [ht, e1, e2, e3]
        have : okRd k (a :: cutL 46 (coreL r)) (preS r) (plusS r) = okRd (k + 1) (cutL 46 (coreL r)) (preS r) (plusS r) := by
          unfold okRd
          rw [List.length_cons, List.all_cons, hs, Bool.true_and, show k + ((cutL 46 (coreL r)).length + 1) = k + 1 + (cutL 46 (coreL r)).length by omega]
        rw [this]
        rfl
      · rw [if_neg (no46 h46)]
        by_cases h45 : c = 45
        · subst h45
          obtain ⟨e1, e2, e3⟩ := core_dash (r := r) hf
          unfold rdP
          rw [ht, e1, e2, e3, if_neg]
          unfold okRd
          simp; omega
        by_cases h43 : c = 43
        · subst h43
          obtain ⟨e1, e2, e3⟩ := core_plus (r := r) hf
          unfold rdP
          rw [ht, e1, e2, e3, if_neg]
          unfold okRd
          simp; omega
        unfold rdP
        rw [step_other k hi h43 h45 h46]
        rfl
theorem rd_end (t : List UInt8) : rdP 2 t = (intL t).bind fun z => (preL z.2).bind bldL := by
  cases hi : intL t with
  | none => unfold rdP; rw [step_none 2 hi]; rfl
  | some x =>
    obtain ⟨a, r⟩ := x
    obtain ⟨ht, hf, hs, -⟩ := int_some hi
    simp only [Option.bind_some]
    cases r with
    | nil =>
      obtain ⟨e1, e2, e3⟩ := core_nil hf
      unfold rdP
      rw [ht, e1, e2, e3, if_pos]
      · rfl
      unfold okRd
      simp [hs]
    | cons c r =>
      by_cases h46 : c = 46
      · subst h46
        obtain ⟨e1, e2, e3⟩ := core_dot (r := r) hf
        unfold rdP
        rw [ht, e1, e2, e3, if_neg]
        · rfl
        have := (cut_len_le 46 (coreL r)).2
        unfold okRd
        simp; omega
      by_cases h45 : c = 45
      · subst h45
        obtain ⟨e1, e2, e3⟩ := core_dash (r := r) hf
        unfold rdP
        rw [ht, e1, e2, e3]
        have hp : preL (45 :: r) = if partsB true (r.takeWhile q43) = true then some (r.dropWhile q43) else none := by
          unfold preL
          rw [if_pos (yes45 r)]
          simp only [List.drop_one, List.tail_cons]
          rw [Nat.add_comm, List.drop_succ_cons, (tw_take q43 r).2]
        rw [hp]
        unfold okRd
        simp only [List.isEmpty_cons, List.drop_one, List.tail_cons, parts_same, List.length_singleton, List.all_cons, List.all_nil, hs, Bool.false_or, Bool.and_true, decide_true, Bool.true_and, Bool.true_or, Nat.reduceAdd, Nat.le_refl]
        cases hq : r.dropWhile q43 with
        | nil => cases partsB true (r.takeWhile q43) <;> rfl
        | cons d q =>
          have hd : q43 d = false := dw_head q43 hq
          have hd : d = 43 := by simpa [q43] using hd
          subst hd
          cases h1 : partsB true (r.takeWhile q43) with
          | false => simp
          | true =>
            have hb : bldL (43 :: q) = if partsB false q = true then some (43 :: q) else none := by unfold bldL; rw [if_pos (yes43 _)]; rfl
            simp [hb]
      by_cases h43 : c = 43
      · subst h43
        obtain ⟨e1, e2, e3⟩ := core_plus (r := r) hf
        unfold rdP
        rw [ht, e1, e2, e3]
        have hp : preL (43 :: r) = some (43 :: r) := by unfold preL; rw [if_neg (no45 (by decide))]
        have hb : bldL (43 :: r) = if partsB false r = true then some (43 :: r) else none := by unfold bldL; rw [if_pos (yes43 _)]; rfl
        rw [hp]
        unfold okRd
        simp [hb, hs, parts_same]
      · unfold rdP
        rw [step_other 2 hi h43 h45 h46]
        have hp : preL (c :: r) = some (c :: r) := by unfold preL; rw [if_neg (no45 h45)]
        have hb : bldL (c :: r) = none := by unfold bldL; rw [if_neg (no43 h43), if_neg (by simp)]
        rw [hp]
        simp [hb]
/-- semver.parse and spec.Read accept the same, with the same first number and the same end. -/
theorem sem_rd (l : List UInt8) : semL l = (rdL l).map fun x => (x.1, x.2.1) := by
  unfold semL rdL
  by_cases hv : lb l 0 = 118
  case neg => rw [if_neg hv, if_neg hv]; rfl
  rw [if_pos hv, if_pos hv, rd_mid 0 (by omega)]
  generalize l.drop 1 = t
  cases hi : intL t with
  | none => rfl
  | some x =>
    obtain ⟨a, r⟩ := x
    obtain ⟨ht, hf, hs, -⟩ := int_some hi
    simp only [Option.bind_some]
    cases r with
    | nil =>
      obtain ⟨e1, e2, e3⟩ := core_nil hf
      rw [if_pos rfl, if_pos rfl, ht, e1]
      rfl
    | cons c r =>
      rw [if_neg (List.cons_ne_nil c r), if_neg (List.cons_ne_nil c r)]
      by_cases h46 : c = 46
      · subst h46
        obtain ⟨e1, e2, e3⟩ := core_dot (r := r) hf
        rw [if_pos (yes46 r), if_pos (yes46 r), ht, e1, rd_mid 1 (by omega)]
        simp only [List.headD_cons, List.drop_one, List.tail_cons]
        cases hj : intL r with
        | none => rfl
        | some y =>
          simp only [Option.bind_some]
          by_cases h2 : y.2 = []
          · rw [if_pos h2, if_pos h2]; rfl
          rw [if_neg h2, if_neg h2]
          by_cases h3 : lb y.2 0 = 46
          · rw [if_pos h3, if_pos h3, rd_end]
            cases intL y.2.tail with
            | none => rfl
            | some z =>
              simp only [Option.bind_some]
              cases preL z.2 with
              | none => rfl
              | some u =>
                simp only [Option.bind_some]
                cases bldL u <;> rfl
          · rw [if_neg h3, if_neg h3]; rfl
      · rw [if_neg (no46 h46), if_neg (no46 h46)]
        rfl

end Go.Proofs.YtpbebckhemnooaaFmt.PS
