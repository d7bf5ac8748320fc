/- What spec.say, spec.Major and spec.Check answer, on lists of bytes; the condition is the texts' size. -/
import Derived.Test.YtpbebckhemnooaaFmtReadB
import Derived.Test.YtpbebckhemnooaaFmtChkLaw
import Derived.Deep.QuietTactic
import Derived.BigQuiet
namespace Go.Proofs.YtpbebckhemnooaaFmt.PS
open Go.RowKit Go.Proofs.YtpbebckhemnooaaFmtW.PrintWords Go.Proofs.YtpbebckhemnooaaFmtW.PrintLast Go.Proofs.YtpbebckhemnooaaFmtW.PrintMore
set_option linter.unusedVariables false
set_option linter.unusedSimpArgs false

theorem say_at (b : Bool) (w : World) : Calls Tryf.prog 71 #[.bool b] w fun e w' => e = .returned (.int .i64 (if b = true then 1 else 2)) ∧ w = w' := by
  cases b
  all_goals
    go_enter Tryf.func71, Tryf.ntmps71
    go_wp2
    go_ret
    exact ⟨rfl, rfl⟩

theorem read_no {s : ByteArray} (hs : s.size ≤ 1099511627776) (h : rdL s.data.toList = none) (w : World) : Calls Tryf.prog 35 #[.string s] w fun e w' => ∃ (a b c p q : ByteArray) (n : Int), e = .returned (.tuple #[.agg #[.string a, .string b, .string c, .string p, .string q, .int .i64 n], .bool false]) ∧ Below w.heap.size w w' := by
  refine (read_any s hs w).mono fun e w' ⟨a, b, c, p, q, n, ok, he, hb, hok, _⟩ => ⟨a, b, c, p, q, n, ?_, hb⟩
  rw [h] at hok
  obtain rfl : ok = false := hok
  exact he
theorem read_yes {s : ByteArray} (hs : s.size ≤ 1099511627776) {x : List UInt8 × List UInt8 × Nat} (h : rdL s.data.toList = some x) (w : World) : Calls Tryf.prog 35 #[.string s] w fun e w' => ∃ (a b c p q : ByteArray) (n : Int), e = .returned (.tuple #[.agg #[.string a, .string b, .string c, .string p, .string q, .int .i64 n], .bool true]) ∧ a.data.toList = x.1 ∧ q.data.toList = x.2.1 ∧ n = (x.2.2 : Int) ∧ Below w.heap.size w w' := by
  refine (read_any s hs w).mono fun e w' ⟨a, b, c, p, q, n, ok, he, hb, hok, hx⟩ => ⟨a, b, c, p, q, n, ?_, (hx x h).1, (hx x h).2.1, (hx x h).2.2, hb⟩
  rw [h] at hok
  obtain rfl : ok = true := hok
  exact he
/-- A version in a variable of its own. -/
def VerAt (w W : World) (g : Nat) (a b c p q : ByteArray) (n : Int) : Prop := W.heap[g]? = some (.cells #[.string a, .string b, .string c, .string p, .string q, .int .i64 n] 38 (0, 0)) ∧ Below w.heap.size w W

theorem VerAt.start {w w3 : World} (hb : Below w.heap.size w w3) (a b c p q : ByteArray) (n : Int) : VerAt w (w3.alloc (.cells #[.string a, .string b, .string c, .string p, .string q, .int .i64 n] 38)) w3.heap.size a b c p q n := ⟨blk_new w3 _, hb.alloc hb.size _⟩
section
variable {w W W' : World} {g : Nat} {a b c p q : ByteArray} {n : Int}
theorem VerAt.later (h : VerAt w W g a b c p q n) (hb : Below W.heap.size W W') : VerAt w W' g a b c p q n := ⟨blk_below h.1 hb, h.2.trans (hb.mono h.2.size)⟩
theorem VerAt.cells (h : VerAt w W g a b c p q n) : W.cell? ⟨g, 0, none⟩ = some (.string a) ∧ W.cell? ⟨g, 1, none⟩ = some (.string b) ∧ W.cell? ⟨g, 2, none⟩ = some (.string c) ∧ W.cell? ⟨g, 3, none⟩ = some (.string p) ∧ W.cell? ⟨g, 4, none⟩ = some (.string q) ∧ W.cell? ⟨g, 5, none⟩ = some (.int .i64 n) :=
  ⟨(blk_cell h.1 0).trans rfl, (blk_cell h.1 1).trans rfl, (blk_cell h.1 2).trans rfl, (blk_cell h.1 3).trans rfl, (blk_cell h.1 4).trans rfl, (blk_cell h.1 5).trans rfl⟩
end
/-- Major's two tests. -/
def openB (pm : List UInt8) : Bool := decide (pm.length < 3) || (decide (lb pm 1 ≠ 118) || !svNumB (pm.drop 2)) || (decide (lb pm 0 ≠ 47) && decide (lb pm 0 ≠ 46)) || (decide (lb pm 0 = 47) && ((pm == [47, 118, 48]) || (pm == [47, 118, 49])))
def spcB (v pm : List UInt8) : Bool := (pm == [46, 118, 49]) && decide (7 < v.length) && (v.take 7 == v000L)
theorem major_nil {v : List UInt8} {x : List UInt8 × List UInt8 × Nat} (h : rdL v = some x) : majorI v [] = if (x.2.1 == incL) = true then 0 else if ((x.1 == [48]) || (x.1 == [49])) = true then 1 else 2 := by
  unfold majorI
  rw [h]
  simp
theorem major_more {v pm : List UInt8} {x : List UInt8 × List UInt8 × Nat} (h : rdL v = some x) (h0 : pm ≠ []) : majorI v pm = if openB pm = true then 0 else if (x.2.1 == incL) = true then 0 else if spcB v pm = true then 1 else if (x.1 == pm.drop 2) = true then 1 else 2 := by
  unfold majorI openB spcB
  rw [h]
  simp [h0, or_assoc, and_assoc]

set_option maxRecDepth 100000 in
set_option maxHeartbeats 1600000 in
theorem major_at (v pm : ByteArray) (hv : v.size ≤ 1099511627776) (hp : pm.size ≤ 1099511627776) (w : World) : Calls Tryf.prog 52 #[.string v, .string pm] w fun e w' => e = .returned (.int .i64 (majorI v.data.toList pm.data.toList)) ∧ Below w.heap.size w w' := by
  have hu := Tryf.underlying38
  cases hr : rdL v.data.toList with
  | none =>
    have HR := Lib.hid fun W => read_no hv hr W
    have HO := Lib.hid (show majorI v.data.toList pm.data.toList = 0 by unfold majorI; rw [hr])
    clear hr
    go_enter Tryf.func52, Tryf.ntmps52
    go_wp2_with (go_at_call 35; refine (HR.out _).mono ?_; rintro e w3 ⟨a, b, c, p, q, n, rfl, hb3⟩)
    go_ret
    exact ⟨by rw [HO.out]; rfl, hb3.alloc hb3.size _⟩
  | some x =>
    have HR := Lib.hid fun W => read_yes hv hr W
    have HX := Lib.hid hr
    go_enter Tryf.func52, Tryf.ntmps52
    go_upto_region 4 with (go_at_call 35; refine (HR.out _).mono ?_; rintro e w3 ⟨a, b, c, p, q, n, rfl, ha, hq, hn, hb3⟩)
    have HV := Lib.hid (VerAt.start hb3 a b c p q (x.2.2 : Int))
    have HA := Lib.hid ha
    have HQ := Lib.hid hq
    clear ha hq hb3 hr
    obtain ⟨b3, hb3⟩ : ∃ b, (x.2.1 == incL) = b := ⟨_, rfl⟩
    have q3 : (q.toList == [43, 105, 110, 99, 111, 109, 112, 97, 116, 105, 98, 108, 101]) = b3 := eqB q incL b3 (by rw [HQ.out]; exact hb3)
    have HB3 := Lib.hid hb3
    clear hb3
    by_cases e0 : pm.size = 0
    · obtain rfl : pm = ⟨#[]⟩ := empty_of_size e0
      have HO := Lib.hid (major_nil (v := v.data.toList) HX.out)
      clear e0
      obtain ⟨k0, -, -, -, k4, -⟩ := HV.out.cells
      cases b3 with
      | true =>
        have HO := Lib.hid (show majorI v.data.toList [] = 0 by rw [HO.out, HB3.out]; rfl)
        go_wp2
        go_ret
        exact ⟨by rw [HO.out]; rfl, HV.out.2⟩
      | false =>
        obtain ⟨b1, hb1⟩ : ∃ b, (x.1 == [48]) = b := ⟨_, rfl⟩
        obtain ⟨b2, hb2⟩ : ∃ b, (x.1 == [49]) = b := ⟨_, rfl⟩
        have q1 : (a.toList == [48]) = b1 := eqB a [48] b1 (by rw [HA.out]; exact hb1)
        have q2 : (a.toList == [49]) = b2 := eqB a [49] b2 (by rw [HA.out]; exact hb2)
        have HO := Lib.hid (show majorI v.data.toList [] = if (b1 || b2) = true then 1 else 2 by rw [HO.out, HB3.out, ← hb1, ← hb2]; rfl)
        clear hb1 hb2
        cases b1 <;> cases b2 <;>
        · go_wp2_with (go_at_call 71; refine (say_at _ _).mono ?_; rintro e w4 ⟨rfl, rfl⟩)
          go_ret
          exact ⟨by rw [HO.out]; rfl, HV.out.2⟩
    have q0 : (pm.toList == []) = false := nonempty_ne e0
    have hgp := get_gb pm
    obtain ⟨opn, hopn⟩ : ∃ b, openB pm.data.toList = b := ⟨_, rfl⟩
    obtain ⟨spc, hspc⟩ : ∃ b, spcB v.data.toList pm.data.toList = b := ⟨_, rfl⟩
    have HO := Lib.hid (major_more (v := v.data.toList) (pm := pm.data.toList) HX.out (fun h => e0 (by rw [← len_size, h]; rfl)))
    rw [hopn, hspc] at HO
    have HOP := Lib.hid hopn
    have HSP := Lib.hid hspc
    clear hopn hspc
    go_upto_region 8 with (fail)
    go_cut [31] (fun v31 we => v31 = .bool opn ∧ Hid (VerAt w we w3.heap.size a b c p q (x.2.2 : Int)))
    case first =>
      clear HO HSP HX HA HQ HB3
      by_cases n3 : pm.size < 3
      · have n3' : (pm.size : Int) < 3 := by omega
        obtain rfl : opn = true := by rw [← HOP.out]; unfold openB; rw [len_size, decide_eq_true n3]; simp
        clear HOP n3 e0
        go_wp2
        go_meet
        case rel => exact ⟨rfl, HV⟩
      have n3' : ¬ (pm.size : Int) < 3 := by omega
      have s0 : 0 < pm.size := by omega
      have s1 : 1 < pm.size := by omega
      have s2 : 2 ≤ pm.size := by omega
      have G0 := Lib.hid (gb_lb pm 0)
      have HOP := Lib.hid (show opn = ((decide (gb pm 1 ≠ 118) || !svNumB (pm.data.toList.drop 2)) || (decide (gb pm 0 ≠ 47) && decide (gb pm 0 ≠ 46)) || (decide (gb pm 0 = 47) && ((pm.data.toList == [47, 118, 48]) || (pm.data.toList == [47, 118, 49])))) by
        rw [← HOP.out]; unfold openB; rw [len_size, decide_eq_false n3, Bool.false_or]; rfl)
      clear n3 e0
      by_cases d1 : gb pm 1 = 118
      case neg =>
        have q1 : (gb pm 1 != 118) = true := by simpa using d1
        obtain rfl : opn = true := by rw [HOP.out, decide_eq_true d1]; simp
        clear HOP d1
        go_wp2
        go_meet
        case rel => exact ⟨rfl, HV⟩
      have q1 : (gb pm 1 != 118) = false := by simp [d1]
      obtain ⟨z, hz⟩ : ∃ z, pm.extract 2 pm.size = z := ⟨_, rfl⟩
      have hzl : z.data.toList = pm.data.toList.drop 2 := by rw [← hz]; exact extract_drop pm 2
      have HZ := Lib.hid (show z.size ≤ 1099511627776 by rw [← hz]; exact Nat.le_trans (extract_size_le _ _ _) hp)
      cases hsv : svNumB (pm.data.toList.drop 2) with
      | false =>
        have HN := Lib.hid fun W => number_at z HZ.out false (by rw [hzl]; exact hsv) W
        obtain rfl : opn = true := by rw [HOP.out, hsv]; simp
        clear HOP d1 hsv hzl
        go_wp2_with (go_at_call 51; refine (HN.out _).mono ?_; rintro e w7 ⟨rfl, hb7⟩)
        go_meet
        case rel => exact ⟨rfl, Lib.hid (HV.out.later hb7)⟩
      | true =>
      have HN := Lib.hid fun W => number_at z HZ.out true (by rw [hzl]; exact hsv) W
      have HOP := Lib.hid (show opn = ((decide (gb pm 0 ≠ 47) && decide (gb pm 0 ≠ 46)) || (decide (gb pm 0 = 47) && ((pm.data.toList == [47, 118, 48]) || (pm.data.toList == [47, 118, 49])))) by
        rw [HOP.out, hsv, decide_eq_false (fun h => h d1)]; simp)
      clear d1 hsv hzl
      by_cases d0 : gb pm 0 = 47
      · have q2 : (gb pm 0 != 47) = false := by simp [d0]
        have q2' : (gb pm 0 == 47) = true := by simp [d0]
        obtain ⟨b4, hb4⟩ : ∃ b, (pm.data.toList == [47, 118, 48]) = b := ⟨_, rfl⟩
        obtain ⟨b5, hb5⟩ : ∃ b, (pm.data.toList == [47, 118, 49]) = b := ⟨_, rfl⟩
        have q4 : (pm.toList == [47, 118, 48]) = b4 := eqB pm _ b4 hb4
        have q5 : (pm.toList == [47, 118, 49]) = b5 := eqB pm _ b5 hb5
        obtain rfl : opn = (b4 || b5) := by rw [HOP.out, hb4, hb5, decide_eq_false (fun h => h d0), decide_eq_true d0]; simp
        clear HOP d0 hb4 hb5
        cases b4 <;> cases b5 <;>
        · go_wp2_with (go_at_call 51; refine (HN.out _).mono ?_; rintro e w7 ⟨rfl, hb7⟩)
          go_meet
          case rel => exact ⟨rfl, Lib.hid (HV.out.later hb7)⟩
      · have q2 : (gb pm 0 != 47) = true := by simpa using d0
        have q2' : (gb pm 0 == 47) = false := by simpa using d0
        by_cases d2 : gb pm 0 = 46
        · have q4 : (gb pm 0 != 46) = false := by simp [d2]
          obtain rfl : opn = false := by rw [HOP.out, decide_eq_false d0, decide_eq_false (fun h : gb pm 0 ≠ 46 => h d2)]; simp
          clear HOP d0 d2
          go_wp2_with (go_at_call 51; refine (HN.out _).mono ?_; rintro e w7 ⟨rfl, hb7⟩)
          go_meet
          case rel => exact ⟨rfl, Lib.hid (HV.out.later hb7)⟩
        · have q4 : (gb pm 0 != 46) = true := by simpa using d2
          obtain rfl : opn = true := by rw [HOP.out, decide_eq_true d2, decide_eq_true d0]; simp
          clear HOP d0 d2
          go_wp2_with (go_at_call 51; refine (HN.out _).mono ?_; rintro e w7 ⟨rfl, hb7⟩)
          go_meet
          case rel => exact ⟨rfl, Lib.hid (HV.out.later hb7)⟩
    case rest =>
      clear HV
      obtain ⟨rfl, HV⟩ := hcut
      cases opn with
      | true =>
        have HO := Lib.hid (show majorI v.data.toList pm.data.toList = 0 from HO.out)
        go_wp2
        go_ret
        exact ⟨by rw [HO.out]; rfl, HV.out.2⟩
      | false =>
      have s2 : 2 ≤ pm.size := by
        have h := HOP.out
        unfold openB at h
        simp only [Bool.or_eq_false_iff, decide_eq_false_iff_not] at h
        have := h.1.1.1
        rw [len_size] at this
        omega
      obtain ⟨k0, -, -, -, k4, -⟩ := HV.out.cells
      cases b3 with
      | true =>
        have HO := Lib.hid (show majorI v.data.toList pm.data.toList = 0 by rw [HO.out, HB3.out]; rfl)
        go_wp2
        go_ret
        exact ⟨by rw [HO.out]; rfl, HV.out.2⟩
      | false =>
      have HO := Lib.hid (show majorI v.data.toList pm.data.toList = if spc = true then 1 else if (x.1 == pm.data.toList.drop 2) = true then 1 else 2 by rw [HO.out, HB3.out]; rfl)
      go_upto_region 12 with (fail)
      go_cut [73] (fun v73 we => v73 = .bool spc ∧ Hid (VerAt w we w3.heap.size a b c p q (x.2.2 : Int)))
      case first =>
        clear HO HOP HX HA HQ HB3 k0 k4
        obtain ⟨b6, hb6⟩ : ∃ b, (pm.data.toList == [46, 118, 49]) = b := ⟨_, rfl⟩
        have q6 : (pm.toList == [46, 118, 49]) = b6 := eqB pm _ b6 hb6
        have HSP := Lib.hid (show spc = (b6 && decide (7 < v.size) && (v.data.toList.take 7 == v000L)) by rw [← HSP.out, ← hb6, ← len_size]; rfl)
        clear hb6
        cases b6 with
        | false =>
          obtain rfl : spc = false := HSP.out
          clear HSP
          go_wp2
          go_meet
          case rel => exact ⟨rfl, HV⟩
        | true =>
          by_cases h7 : 7 < v.size
          · have h7' : (v.size : Int) > 7 := by omega
            have h7e : 7 ≤ v.size := by omega
            obtain ⟨z, hz⟩ : ∃ z, v.extract 0 7 = z := ⟨_, rfl⟩
            obtain ⟨b7, hb7⟩ : ∃ b, (v.data.toList.take 7 == v000L) = b := ⟨_, rfl⟩
            have q7 : (z.toList == [118, 48, 46, 48, 46, 48, 45]) = b7 := eqB z v000L b7 (by rw [← hz, extract_take]; exact hb7)
            obtain rfl : spc = b7 := by rw [HSP.out, hb7, decide_eq_true h7]; simp
            clear HSP hb7 h7
            go_wp2
            go_meet
            case rel => exact ⟨rfl, HV⟩
          · have h7' : ¬ (v.size : Int) > 7 := by omega
            obtain rfl : spc = false := by rw [HSP.out, decide_eq_false h7]; simp
            clear HSP h7
            go_wp2
            go_meet
            case rel => exact ⟨rfl, HV⟩
      case rest =>
        clear HV k0 k4
        obtain ⟨rfl, HV⟩ := hcut
        obtain ⟨k0, -, -, -, -, -⟩ := HV.out.cells
        cases spc with
        | true =>
          have HO := Lib.hid (show majorI v.data.toList pm.data.toList = 1 from HO.out)
          go_wp2
          go_ret
          exact ⟨by rw [HO.out]; rfl, HV.out.2⟩
        | false =>
          obtain ⟨z, hz⟩ : ∃ z, pm.extract 2 pm.size = z := ⟨_, rfl⟩
          obtain ⟨b8, hb8⟩ : ∃ b, (x.1 == pm.data.toList.drop 2) = b := ⟨_, rfl⟩
          have q8 : (a.toList == z.toList) = b8 := by rw [Lib.toList_data, Lib.toList_data, HA.out, ← hz, extract_drop]; exact hb8
          have HO := Lib.hid (show majorI v.data.toList pm.data.toList = if b8 = true then 1 else 2 by rw [HO.out, hb8]; rfl)
          clear hb8
          cases b8 <;>
          · go_wp2
            go_quiet ((go_at_call 71; exact Calls.quiet_of_same ((say_at _ _).mono fun _ _ h => ⟨h.1, h.2.symm⟩)))
            go_wp2
            go_ret
            exact ⟨by rw [HO.out]; rfl, pw_below_drewN HV.out.2 _⟩

theorem join_at (a b : Int) (w : World) : Calls Tryf.prog 46 #[.int .i64 a, .int .i64 b] w fun e w' => e = .returned (.int .i64 (joinI a b)) ∧ Below w.heap.size w w' := by
  obtain ⟨k, hk⟩ := (join_ev a b).fin
  exact (spec_join.calls k a b _ w hk).mono fun _ _ ⟨he, hd⟩ => ⟨he, by first | exact hd | exact drawn_below hd⟩
theorem split_named (s : ByteArray) (hs : s.size ≤ 1099511627776) : ∃ t : ByteArray, t.data.toList = (splitI s.data.toList).1 ∧ ∀ w : World, Calls Tryf.prog 45 #[.string s] w fun e w' => e = .returned (.tuple #[.string t, .int .i64 (splitI s.data.toList).2]) ∧ Below w.heap.size w w' := by
  obtain ⟨t, n, h1, h2⟩ := split_ev s hs
  obtain ⟨k, hk⟩ := h1.fin
  refine ⟨t, by rw [← h2], fun w => ?_⟩
  have e : (splitI s.data.toList).2 = n := by rw [← h2]
  rw [e]
  exact spec_Split.calls k s t n w hk
theorem split_len {l : List UInt8} : (splitI l).1.length ≤ l.length + 1 := by
  unfold splitI gopkgI
  have hb : ∀ {b : UInt8} {l e : List UInt8}, e = lastD (cutL b l) → e.length ≤ l.length := fun {b l e} he => by
    subst he
    unfold lastD
    rw [List.getD_eq_getElem?_getD]
    cases h : (cutL b l)[(cutL b l).length - 1]? with
    | none => simp
    | some x => exact cut_len (List.mem_of_getElem? h)
  have h1 := hb (b := 47) (l := l) rfl
  have h2 := hb (b := 46) (l := lastD (cutL 47 l)) rfl
  simp only []
  repeat' split
  all_goals first | (simp; done) | (rw [List.length_cons]; omega)

set_option maxRecDepth 100000 in
set_option maxHeartbeats 1600000 in
/-- spec.Check answers checkI. -/
theorem check_at (s v : ByteArray) (hs : s.size ≤ 1000000000000) (hv : v.size ≤ 1099511627776) (w : World) : Calls Tryf.prog 36 #[.string s, .string v] w fun e w' => e = .returned (.int .i64 (checkI s.data.toList v.data.toList)) ∧ Below w.heap.size w w' := by
  have hu := Tryf.underlying38
  have hs2 : s.size ≤ 1099511627776 := by omega
  have HP := Lib.hid fun W => path_at s hs2 W
  obtain ⟨st, hst⟩ : ∃ n, modPathI s.data.toList = n := ⟨_, rfl⟩
  rw [hst] at HP
  cases hr : rdL v.data.toList with
  | none =>
    have HR := Lib.hid fun W => read_no hv hr W
    have HO := Lib.hid (show checkI s.data.toList v.data.toList = 2 by unfold checkI; rw [hr])
    clear hr hst
    by_cases h2 : st = 2
    · have q2 : (st == 2) = true := by simpa using h2
      clear h2
      go_enter Tryf.func36, Tryf.ntmps36
      go_wp2_with (first
        | (go_at_call 30; refine (HP.out _).mono ?_; rintro e w3 ⟨rfl, hb3⟩)
        | (go_at_call 35; refine (HR.out _).mono ?_; rintro e w4 ⟨a, b, c, p, q, n, rfl, hb4⟩; have hk := hb3.trans (hb4.mono hb3.size)))
      go_ret
      exact ⟨by rw [HO.out]; rfl, hk.alloc hk.size _⟩
    · have q2 : (st == 2) = false := by simpa using h2
      clear h2
      go_enter Tryf.func36, Tryf.ntmps36
      go_wp2_with (first
        | (go_at_call 30; refine (HP.out _).mono ?_; rintro e w3 ⟨rfl, hb3⟩)
        | (go_at_call 35; refine (HR.out _).mono ?_; rintro e w4 ⟨a, b, c, p, q, n, rfl, hb4⟩; have hk := hb3.trans (hb4.mono hb3.size)))
      go_ret
      exact ⟨by rw [HO.out]; rfl, hk.alloc hk.size _⟩
  | some x =>
    have HR := Lib.hid fun W => read_yes hv hr W
    have HO := Lib.hid (show checkI s.data.toList v.data.toList = if st = 2 then 2 else if x.2.2 < 3 then 0 else if (splitI s.data.toList).2 = 0 then 0 else joinI st (majorI v.data.toList (splitI s.data.toList).1) by unfold checkI; rw [hr, hst])
    clear hr hst
    by_cases h2 : st = 2
    · have q2 : (st == 2) = true := by simpa using h2
      have HO := Lib.hid (show checkI s.data.toList v.data.toList = 2 by rw [HO.out, if_pos h2])
      clear h2
      go_enter Tryf.func36, Tryf.ntmps36
      go_wp2_with (first
        | (go_at_call 30; refine (HP.out _).mono ?_; rintro e w3 ⟨rfl, hb3⟩)
        | (go_at_call 35; refine (HR.out _).mono ?_; rintro e w4 ⟨a, b, c, p, q, n, rfl, ha, hq, hn, hb4⟩; have hk := hb3.trans (hb4.mono hb3.size)))
      go_ret
      exact ⟨by rw [HO.out]; rfl, hk.alloc hk.size _⟩
    have q2 : (st == 2) = false := by simpa using h2
    have HO := Lib.hid (HO.out.trans (if_neg h2))
    clear h2
    by_cases h3 : x.2.2 < 3
    · have h3' : ((x.2.2 : Nat) : Int) < 3 := by omega
      have HO := Lib.hid (HO.out.trans (if_pos h3))
      clear h3
      go_enter Tryf.func36, Tryf.ntmps36
      go_wp2_with (first
        | (go_at_call 30; refine (HP.out _).mono ?_; rintro e w3 ⟨rfl, hb3⟩)
        | (go_at_call 35; refine (HR.out _).mono ?_; rintro e w4 ⟨a, b, c, p, q, n, rfl, ha, hq, hn, hb4⟩; have hk := hb3.trans (hb4.mono hb3.size)))
      go_ret
      exact ⟨by rw [HO.out]; rfl, hk.alloc hk.size _⟩
    have h3' : ¬ ((x.2.2 : Nat) : Int) < 3 := by omega
    have HO := Lib.hid (HO.out.trans (if_neg h3))
    clear h3
    obtain ⟨pm, hpm, hS⟩ := split_named s hs2
    have HS := Lib.hid hS
    have hpl : pm.size ≤ 1099511627776 := by
      have := split_len (l := s.data.toList)
      rw [← hpm, len_size, len_size] at this
      omega
    have HM := Lib.hid fun W => major_at v pm hv hpl W
    rw [hpm] at HM
    obtain ⟨kn, hkn⟩ : ∃ n, (splitI s.data.toList).2 = n := ⟨_, rfl⟩
    obtain ⟨mj, hmj⟩ : ∃ n, majorI v.data.toList (splitI s.data.toList).1 = n := ⟨_, rfl⟩
    have HJ := Lib.hid fun W => join_at st mj W
    rw [hkn] at HS
    rw [hmj] at HM
    rw [hkn, hmj] at HO
    clear hkn hmj hpm hS hpl
    by_cases h4 : kn = 0
    · have q4 : (kn == 0) = true := by simpa using h4
      have HO := Lib.hid (HO.out.trans (if_pos h4))
      clear h4
      go_enter Tryf.func36, Tryf.ntmps36
      go_wp2_with (first
        | (go_at_call 30; refine (HP.out _).mono ?_; rintro e w3 ⟨rfl, hb3⟩)
        | (go_at_call 35; refine (HR.out _).mono ?_; rintro e w4 ⟨a, b, c, p, q, n, rfl, ha, hq, hn, hb4⟩; have hk := hb3.trans (hb4.mono hb3.size); have hk := hk.alloc hk.size (.cells #[.string a, .string b, .string c, .string p, .string q, .int .i64 (x.2.2 : Int)] 38))
        | (go_at_call 45; refine (HS.out _).mono ?_; rintro e w5 ⟨rfl, hb5⟩; have hk := hk.trans (hb5.mono hk.size)))
      go_ret
      exact ⟨by rw [HO.out]; rfl, hk⟩
    · have q4 : (kn == 0) = false := by simpa using h4
      have HO := Lib.hid (HO.out.trans (if_neg h4))
      clear h4
      go_enter Tryf.func36, Tryf.ntmps36
      go_wp2_with (first
        | (go_at_call 30; refine (HP.out _).mono ?_; rintro e w3 ⟨rfl, hb3⟩)
        | (go_at_call 35; refine (HR.out _).mono ?_; rintro e w4 ⟨a, b, c, p, q, n, rfl, ha, hq, hn, hb4⟩; have hk := hb3.trans (hb4.mono hb3.size); have hk := hk.alloc hk.size (.cells #[.string a, .string b, .string c, .string p, .string q, .int .i64 (x.2.2 : Int)] 38))
        | (go_at_call 45; refine (HS.out _).mono ?_; rintro e w5 ⟨rfl, hb5⟩; have hk := hk.trans (hb5.mono hk.size))
        | (go_at_call 52; refine (HM.out _).mono ?_; rintro e w6 ⟨rfl, hb6⟩; have hk := hk.trans (hb6.mono hk.size))
        | (go_at_call 46; refine (HJ.out _).mono ?_; rintro e w7 ⟨rfl, hb7⟩; have hk := hk.trans (hb7.mono hk.size)))
      go_ret
      exact ⟨by rw [HO.out]; rfl, hk⟩

end Go.Proofs.YtpbebckhemnooaaFmt.PS
