/- What module.CheckPathMajor answers, on lists of bytes; the conditions: the texts' sizes, that the tape answers fmt's stop. What module.Check answers; the conditions: the texts' sizes, that the tape answers fmt's stop, and what module.CheckPath asks. -/
import Derived.Test.YtpbebckhemnooaaFmtParV
import Derived.Deep.DeepCutAuto

namespace Go.Proofs.YtpbebckhemnooaaFmt.PS
open Go.RowKit Go.Proofs.YtpbebckhemnooaaFmtW.PrintWords Go.Proofs.YtpbebckhemnooaaFmtW.PrintLast Go.Proofs.YtpbebckhemnooaaFmtW.PrintMore
open Go.Extern.Stop Go.Stop Go.Extern
set_option linter.unusedVariables false
set_option linter.unusedSimpArgs false

def unsB : ByteArray := ⟨#[45, 117, 110, 115, 116, 97, 98, 108, 101]⟩
def unsL : List UInt8 := [45, 117, 110, 115, 116, 97, 98, 108, 101]
def v000L : List UInt8 := [118, 48, 46, 48, 46, 48, 45]
def incL : List UInt8 := [43, 105, 110, 99, 111, 109, 112, 97, 116, 105, 98, 108, 101]
def trimB (l : List UInt8) : Bool := decide (l.take 2 = [46, 118]) && decide (9 ≤ l.length ∧ l.drop (l.length - 9) = unsL)
def trimL (l : List UInt8) : List UInt8 := if trimB l = true then l.take (l.length - 9) else l
/-- Does a version fit what SplitPathVersion answers? -/
def cpmL (v p : List UInt8) : Bool :=
  if (decide (v.take 7 = v000L) && (p == [46, 118, 49])) = true then true
  else if p = [] then (majL v == [118, 48]) || (majL v == [118, 49]) || (buiL v == incL)
  else if lb p 0 = 47 ∨ lb p 0 = 46 then majL v == p.drop 1 else false
def CpmPost (b : Bool) (w : World) (e : Ending) (w' : World) : Prop := Below w.heap.size w w' ∧ ((b = true ∧ e = .returned .nilIface) ∨ (b = false ∧ ∃ g : Addr, e = .returned (.iface 57 (.pointer (some g)))))

theorem bytes_of {a : ByteArray} {l : List UInt8} (h : a.data.toList = l) : a = ⟨l.toArray⟩ := by
  cases a
  simp only at h
  rw [← h]
theorem maj_at (s : ByteArray) (hs : s.size ≤ 1099511627776) (m : ByteArray) (hm : m.data.toList = majL s.data.toList) (w : World) : Calls Tryf.prog 88 #[.string s] w fun e w' => e = .returned (.string m) ∧ Below w.heap.size w w' :=
  (major_sem s hs w).mono fun e w' ⟨t, he, ht, hb⟩ => ⟨by rw [he, bytes_of ht, bytes_of hm], hb⟩
theorem bui_at (s : ByteArray) (hs : s.size ≤ 1099511627776) (m : ByteArray) (hm : m.data.toList = buiL s.data.toList) (w : World) : Calls Tryf.prog 89 #[.string s] w fun e w' => e = .returned (.string m) ∧ Below w.heap.size w w' :=
  (build_sem s hs w).mono fun e w' ⟨t, he, ht, hb⟩ => ⟨by rw [he, bytes_of ht, bytes_of hm], hb⟩
theorem pre_at (s p : ByteArray) (b : Bool) (h : decide (s.data.toList.take p.size = p.data.toList) = b) (w : World) : Calls Tryf.prog 82 #[.string s, .string p] w fun e w' => e = .returned (.bool b) ∧ Below w.heap.size w w' :=
  (strings_HasPrefix.calls s p b w (by rw [prefix_eq, h])).mono fun _ _ ⟨he, hd⟩ => ⟨he, drawn_below hd⟩
theorem suf_at (s p : ByteArray) (hs : s.size ≤ 1099511627776) (b : Bool) (h : decide (p.size ≤ s.size ∧ s.data.toList.drop (s.size - p.size) = p.data.toList) = b) (w : World) : Calls Tryf.prog 86 #[.string s, .string p] w fun e w' => e = .returned (.bool b) ∧ Below w.heap.size w w' :=
  (strings_HasSuffix.calls s p b w (by rw [suffix_eq s p hs, h])).mono fun _ _ ⟨he, hd⟩ => ⟨he, drawn_below hd⟩
theorem trim_lite (s : ByteArray) (hs : s.size ≤ 1099511627776) (h9 : 9 ≤ s.size) (h : s.data.toList.drop (s.size - 9) = unsL) (w : World) : Calls Tryf.prog 101 #[.string s, .string unsB] w fun e w' => e = .returned (.string (s.extract 0 (s.size - 9))) ∧ Below w.heap.size w w' := by
  have HS := Lib.hid fun W => (stringslite_HasSuffix.calls s unsB true W (by
    have := suffix_eq s unsB hs
    unfold strings_HasSuffix.f at this
    obtain ⟨t, ht, h2⟩ := Option.bind_eq_some_iff.1 this
    rw [ht]
    refine congrArg some ?_
    rw [Option.some.inj h2]
    exact decide_eq_true ⟨h9, h⟩)).mono fun _ _ ⟨he, hd⟩ => (⟨he, drawn_below hd⟩ : _ ∧ Below W.heap.size W _)
  have h9i : (9 : Int) ≤ (s.size : Int) := by omega
  have hw : wrap64 ((s.size : Int) - 9) = ((s.size - 9 : Nat) : Int) := by rw [w64 (by omega) (by omega)]; omega
  have hu9 : unsB.size = 9 := rfl
  have hle : ((s.size - 9 : Nat) : Int) ≤ (s.size : Int) := by omega
  have hge : (0 : Int) ≤ ((s.size - 9 : Nat) : Int) := by omega
  go_enter Tryf.func101, Tryf.ntmps101
  go_wp2_with (go_at_call 100; refine (HS.out _).mono ?_; rintro e w7 ⟨rfl, hb7⟩)
  go_ret
  exact ⟨rfl, hb7⟩
theorem trim_at (s : ByteArray) (hs : s.size ≤ 1099511627776) (h9 : 9 ≤ s.size) (h : s.data.toList.drop (s.size - 9) = unsL) (w : World) : Calls Tryf.prog 87 #[.string s, .string unsB] w fun e w' => e = .returned (.string (s.extract 0 (s.size - 9))) ∧ Below w.heap.size w w' := by
  have HT := Lib.hid fun W => trim_lite s hs h9 h W
  go_enter Tryf.func87, Tryf.ntmps87
  go_wp2_with (go_at_call 101; refine (HT.out _).mono ?_; rintro e w7 ⟨rfl, hb7⟩)
  go_ret
  exact ⟨rfl, hb7⟩

set_option maxHeartbeats 800000 in
/-- fmt.Errorf of a format with two texts under %s. -/
theorem errorf_two (F : Interp) (f x y : ByteArray) (blk : Nat) (w : World) (hF : F.answers w.tape) (hp : ∀ w : World, (FmtDoors.printed f 2).run Tryf.prog w = .ok [(0, 115, false), (1, 115, false)] w) (hc0 : w.cell? ⟨blk, 0, none⟩ = some (.iface 9 (.string x))) (hc1 : w.cell? ⟨blk, 1, none⟩ = some (.iface 9 (.string y))) :
    Calls Tryf.prog 55 #[.string f, .slice (some ⟨blk, 0, none⟩) 2 2] w (ErrS w) := by
  have hF' := answers_open hF
  have hp' : ∀ w : World, (FmtDoors.printed f 2).run Tryf.prog w = .ok [(0, 115, false), (1, 115, false)] w := hp
  clear hp hF
  go_enter Tryf.func55, Tryf.ntmps55
  go_wp2
  apply rows_value nextTurns
  case hr => go_simp; first | exact ⟨rfl, rfl⟩ | rfl
  case h =>
    go_wp2
    go_ret
    exact ⟨⟨w.heap.size, 0, none⟩, _, rfl, (by go_simp; rfl), ((Below.refl _ _).alloc (Nat.le_refl _) _).drew⟩

def dotvB : ByteArray := ⟨#[46, 118]⟩
def v000B : ByteArray := ⟨#[118, 48, 46, 48, 46, 48, 45]⟩
theorem fmtShould : ∀ w : World, (FmtDoors.printed ⟨#[115, 104, 111, 117, 108, 100, 32, 98, 101, 32, 37, 115, 44, 32, 110, 111, 116, 32, 37, 115]⟩ 2).run Tryf.prog w = .ok [(0, 115, false), (1, 115, false)] w := fun w => by kernel_rfl

theorem eqB (m : ByteArray) (l : List UInt8) (b : Bool) (h : (m.data.toList == l) = b) : (m.toList == l) = b := by rw [Lib.toList_data]; exact h

set_option maxRecDepth 100000 in
set_option maxHeartbeats 6400000 in
theorem cpm_any (F : Stop.Interp) (v pm : ByteArray) (hv : v.size ≤ 1099511627776) (hp : pm.size ≤ 1099511627776) (w : World) (hF : F.answers w.tape) :
    Calls Tryf.prog 69 #[.string v, .string pm] w (CpmPost (cpmL v.data.toList (trimL pm.data.toList)) w) := by
  obtain ⟨m, hm⟩ : ∃ m : ByteArray, m.data.toList = majL v.data.toList := ⟨⟨(majL v.data.toList).toArray⟩, rfl⟩
  obtain ⟨u, hu⟩ : ∃ m : ByteArray, m.data.toList = buiL v.data.toList := ⟨⟨(buiL v.data.toList).toArray⟩, rfl⟩
  have HM := Lib.hid fun W => maj_at v hv m hm W
  have HU := Lib.hid fun W => bui_at v hv u hu W
  have hm := Lib.hid hm
  have hu := Lib.hid hu
  obtain ⟨b1, hb1⟩ : ∃ b, decide (pm.data.toList.take 2 = [46, 118]) = b := ⟨_, rfl⟩
  obtain ⟨b2, hb2⟩ : ∃ b, decide (9 ≤ pm.size ∧ pm.data.toList.drop (pm.size - 9) = unsL) = b := ⟨_, rfl⟩
  obtain ⟨b3, hb3⟩ : ∃ b, decide (v.data.toList.take 7 = v000L) = b := ⟨_, rfl⟩
  have HP1 := Lib.hid fun W => pre_at pm dotvB b1 hb1 W
  have HP2 := Lib.hid fun W => suf_at pm unsB hp b2 hb2 W
  have HP3 := Lib.hid fun W => pre_at v v000B b3 hb3 W
  have HT := Lib.hid (show trimB pm.data.toList = (b1 && b2) by unfold trimB; rw [len_size, hb1, hb2])
  have HB3 := Lib.hid hb3
  have HB2 := Lib.hid hb2
  have HB := Lib.hid (Below.refl w.heap.size w)
  have hF := hF
  clear hb1 hb2 hb3
  go_enter Tryf.func69, Tryf.ntmps69
  go_upto_region 1 with (fail)
  go_cut [11] (fun v11 wc => v11 = .bool (b1 && b2) ∧ Hid (Below w.heap.size w wc))
  case first =>
    cases b1 <;> cases b2 <;>
    · go_wp2_with (first
        | (go_at_call 82; refine (HP1.out _).mono ?_; rintro e w1 ⟨rfl, hb1⟩)
        | (go_at_call 86; refine (HP2.out _).mono ?_; rintro e w2 ⟨rfl, hb2⟩))
      go_meet
      case rel => first | exact ⟨rfl, Lib.hid (hb1.trans (hb2.mono hb1.size))⟩ | exact ⟨rfl, Lib.hid hb1⟩
  case rest =>
    obtain ⟨rfl, HB⟩ := hcut
    cases hT : (b1 && b2) with
    | true =>
      rw [hT] at HT
      obtain ⟨-, rfl⟩ := Bool.and_eq_true_iff.1 hT
      obtain ⟨h9, hd9⟩ := of_decide_eq_true HB2.out
      have HTR := Lib.hid fun W => trim_at pm hp h9 hd9 W
      obtain ⟨p, hpe⟩ : ∃ p, pm.extract 0 (pm.size - 9) = p := ⟨_, rfl⟩
      have HPL := Lib.hid (show p.data.toList = trimL pm.data.toList by unfold trimL; rw [if_pos HT.out, ← hpe, extract_take, len_size])
      have hps : p.size ≤ 1099511627776 := by rw [← hpe]; exact Nat.le_trans (extract_size_le _ _ _) hp
      rw [hpe] at HTR
      clear h9 hd9 hpe hT
      go_upto_region 3 with (go_at_call 87; refine (HTR.out _).mono ?_; rintro e w2 ⟨rfl, hb2⟩; have HB := Lib.hid (HB.out.trans (hb2.mono HB.out.size)))
      obtain ⟨pl, hpl⟩ : ∃ l, trimL pm.data.toList = l := ⟨_, rfl⟩
      rw [hpl] at HPL
      have HPT := Lib.hid hpl
      obtain ⟨b4, hb4⟩ : ∃ b, (pl == [46, 118, 49]) = b := ⟨_, rfl⟩
      have E4 : (p.toList == [46, 118, 49]) = b4 := eqB p [46, 118, 49] b4 (by rw [HPL.out]; exact hb4)
      have HB4 := Lib.hid hb4
      clear hb4 hpl
      go_cut [19] (fun v19 wc => v19 = .bool (b3 && b4) ∧ Hid (Below w.heap.size w wc))
      case first =>
        cases b3 <;>
        · go_wp2_with (go_at_call 82; refine (HP3.out _).mono ?_; rintro e w5 ⟨rfl, hb5⟩)
          all_goals (go_meet; (case rel => exact ⟨by first | rfl | simp, Lib.hid (HB.out.trans (hb5.mono HB.out.size))⟩))
      case rest =>
        obtain ⟨rfl, HB⟩ := hcut
        cases h34 : (b3 && b4) with
        | true =>
          have HR := Lib.hid (show cpmL v.data.toList pl = true by unfold cpmL; rw [HB3.out, HB4.out, if_pos h34])
          ((go_wp2_with (first | (go_at_call 88; refine (HM.out _).mono ?_; rintro e w3 ⟨rfl, hb3⟩; have HB := Lib.hid (HB.out.trans (hb3.mono HB.out.size))) | (go_at_call 89; refine (HU.out _).mono ?_; rintro e w4 ⟨rfl, hb4⟩; have HB := Lib.hid (HB.out.trans (hb4.mono HB.out.size))) | (go_at_call 55; refine (errorf_two F _ _ _ _ _ (by exact below_tape hF (HB.out.alloc HB.out.size _)) fmtShould (by first | (go_simp; done) | (go_simp; rfl)) (by first | (go_simp; done) | (go_simp; rfl))).mono ?_; rintro e w9 ⟨a9, t9, rfl, hc9, hb9⟩; have HB9 := Lib.hid ((HB.out.alloc HB.out.size _).trans (hb9.mono (HB.out.alloc HB.out.size _).size))))); go_ret; exact ⟨HB.out, .inl ⟨by rw [HPT.out]; exact HR.out, rfl⟩⟩)
        | false =>
          have HR0 := Lib.hid (show cpmL v.data.toList pl = if pl = [] then (majL v.data.toList == [118, 48]) || (majL v.data.toList == [118, 49]) || (buiL v.data.toList == incL) else if lb pl 0 = 47 ∨ lb pl 0 = 46 then majL v.data.toList == pl.drop 1 else false by
            unfold cpmL; rw [HB3.out, HB4.out, if_neg (by rw [h34]; decide)])
          clear h34 E4
          by_cases e0 : p.size = 0
          · have q0 : (p.toList == []) = true := eqB p [] true (by rw [empty_of_size e0] <;> rfl)
            have HR1 := Lib.hid (show cpmL v.data.toList pl = ((majL v.data.toList == [118, 48]) || (majL v.data.toList == [118, 49]) || (buiL v.data.toList == incL)) by
              rw [HR0.out, if_pos (by rw [← HPL.out, empty_of_size e0] <;> rfl)])
            clear e0
            cases c1 : (majL v.data.toList == [118, 48]) with
            | true =>
              have HR := Lib.hid (show cpmL v.data.toList pl = true by rw [HR1.out, c1]; rfl)
              have q1 : (m.toList == [118, 48]) = true := eqB m [118, 48] true (by rw [hm.out]; exact c1)
              clear c1
              ((go_wp2_with (first | (go_at_call 88; refine (HM.out _).mono ?_; rintro e w3 ⟨rfl, hb3⟩; have HB := Lib.hid (HB.out.trans (hb3.mono HB.out.size))) | (go_at_call 89; refine (HU.out _).mono ?_; rintro e w4 ⟨rfl, hb4⟩; have HB := Lib.hid (HB.out.trans (hb4.mono HB.out.size))) | (go_at_call 55; refine (errorf_two F _ _ _ _ _ (by exact below_tape hF (HB.out.alloc HB.out.size _)) fmtShould (by first | (go_simp; done) | (go_simp; rfl)) (by first | (go_simp; done) | (go_simp; rfl))).mono ?_; rintro e w9 ⟨a9, t9, rfl, hc9, hb9⟩; have HB9 := Lib.hid ((HB.out.alloc HB.out.size _).trans (hb9.mono (HB.out.alloc HB.out.size _).size))))); go_ret; exact ⟨HB.out, .inl ⟨by rw [HPT.out]; exact HR.out, rfl⟩⟩)
            | false =>
              have q1 : (m.toList == [118, 48]) = false := eqB m [118, 48] false (by rw [hm.out]; exact c1)
              cases c2 : (majL v.data.toList == [118, 49]) with
              | true =>
                have HR := Lib.hid (show cpmL v.data.toList pl = true by rw [HR1.out, c1, c2]; rfl)
                have q2 : (m.toList == [118, 49]) = true := eqB m [118, 49] true (by rw [hm.out]; exact c2)
                clear c1 c2
                ((go_wp2_with (first | (go_at_call 88; refine (HM.out _).mono ?_; rintro e w3 ⟨rfl, hb3⟩; have HB := Lib.hid (HB.out.trans (hb3.mono HB.out.size))) | (go_at_call 89; refine (HU.out _).mono ?_; rintro e w4 ⟨rfl, hb4⟩; have HB := Lib.hid (HB.out.trans (hb4.mono HB.out.size))) | (go_at_call 55; refine (errorf_two F _ _ _ _ _ (by exact below_tape hF (HB.out.alloc HB.out.size _)) fmtShould (by first | (go_simp; done) | (go_simp; rfl)) (by first | (go_simp; done) | (go_simp; rfl))).mono ?_; rintro e w9 ⟨a9, t9, rfl, hc9, hb9⟩; have HB9 := Lib.hid ((HB.out.alloc HB.out.size _).trans (hb9.mono (HB.out.alloc HB.out.size _).size))))); go_ret; exact ⟨HB.out, .inl ⟨by rw [HPT.out]; exact HR.out, rfl⟩⟩)
              | false =>
                have q2 : (m.toList == [118, 49]) = false := eqB m [118, 49] false (by rw [hm.out]; exact c2)
                cases c3 : (buiL v.data.toList == incL) with
                | true =>
                  have HR := Lib.hid (show cpmL v.data.toList pl = true by rw [HR1.out, c1, c2, c3]; rfl)
                  have q3 : (u.toList == [43, 105, 110, 99, 111, 109, 112, 97, 116, 105, 98, 108, 101]) = true := eqB u incL true (by rw [hu.out]; exact c3)
                  clear c1 c2 c3
                  ((go_wp2_with (first | (go_at_call 88; refine (HM.out _).mono ?_; rintro e w3 ⟨rfl, hb3⟩; have HB := Lib.hid (HB.out.trans (hb3.mono HB.out.size))) | (go_at_call 89; refine (HU.out _).mono ?_; rintro e w4 ⟨rfl, hb4⟩; have HB := Lib.hid (HB.out.trans (hb4.mono HB.out.size))) | (go_at_call 55; refine (errorf_two F _ _ _ _ _ (by exact below_tape hF (HB.out.alloc HB.out.size _)) fmtShould (by first | (go_simp; done) | (go_simp; rfl)) (by first | (go_simp; done) | (go_simp; rfl))).mono ?_; rintro e w9 ⟨a9, t9, rfl, hc9, hb9⟩; have HB9 := Lib.hid ((HB.out.alloc HB.out.size _).trans (hb9.mono (HB.out.alloc HB.out.size _).size))))); go_ret; exact ⟨HB.out, .inl ⟨by rw [HPT.out]; exact HR.out, rfl⟩⟩)
                | false =>
                  have HR := Lib.hid (show cpmL v.data.toList pl = false by rw [HR1.out, c1, c2, c3]; rfl)
                  have q3 : (u.toList == [43, 105, 110, 99, 111, 109, 112, 97, 116, 105, 98, 108, 101]) = false := eqB u incL false (by rw [hu.out]; exact c3)
                  clear c1 c2 c3
                  ((go_wp2_with (first | (go_at_call 88; refine (HM.out _).mono ?_; rintro e w3 ⟨rfl, hb3⟩; have HB := Lib.hid (HB.out.trans (hb3.mono HB.out.size))) | (go_at_call 89; refine (HU.out _).mono ?_; rintro e w4 ⟨rfl, hb4⟩; have HB := Lib.hid (HB.out.trans (hb4.mono HB.out.size))) | (go_at_call 55; refine (errorf_two F _ _ _ _ _ (by exact below_tape hF (HB.out.alloc HB.out.size _)) fmtShould (by first | (go_simp; done) | (go_simp; rfl)) (by first | (go_simp; done) | (go_simp; rfl))).mono ?_; rintro e w9 ⟨a9, t9, rfl, hc9, hb9⟩; have HB9 := Lib.hid ((HB.out.alloc HB.out.size _).trans (hb9.mono (HB.out.alloc HB.out.size _).size))))); go_ret; exact ⟨HB9.out.alloc HB9.out.size _, .inr ⟨by rw [HPT.out]; exact HR.out, _, rfl⟩⟩)
          · have q0 : (p.toList == []) = false := nonempty_ne e0
            have hgp := get_gb p
            have s1 : 1 ≤ p.size := by omega
            have s0 : 0 < p.size := by omega
            have EP := Lib.hid (show ¬ pl = [] from fun h => e0 (by rw [← len_size, HPL.out, h]; rfl))
            have GP := Lib.hid (show lb pl 0 = gb p 0 by rw [gb_lb, HPL.out])
            obtain ⟨x, hx⟩ : ∃ x, p.extract 1 p.size = x := ⟨_, rfl⟩
            have HXL := Lib.hid (show x.data.toList = pl.drop 1 by rw [← hx, ← HPL.out]; exact extract_drop p 1)
            clear e0
            obtain ⟨b5, hb5⟩ : ∃ b, (majL v.data.toList == pl.drop 1) = b := ⟨_, rfl⟩
            have q5 : (m.toList == x.toList) = b5 := by rw [Lib.toList_data, Lib.toList_data, hm.out, HXL.out]; exact hb5
            have HB5 := Lib.hid hb5
            clear hb5
            by_cases d1 : gb p 0 = 47
            · have q1 : (gb p 0 == 47) = true := by simpa using d1
              have HR1 := Lib.hid (show cpmL v.data.toList pl = b5 by rw [HR0.out, if_neg EP.out, if_pos (.inl (by rw [GP.out]; exact d1)), HB5.out])
              clear d1
              cases b5 with
              | true => have HR := HR1; ((go_wp2_with (first | (go_at_call 88; refine (HM.out _).mono ?_; rintro e w3 ⟨rfl, hb3⟩; have HB := Lib.hid (HB.out.trans (hb3.mono HB.out.size))) | (go_at_call 89; refine (HU.out _).mono ?_; rintro e w4 ⟨rfl, hb4⟩; have HB := Lib.hid (HB.out.trans (hb4.mono HB.out.size))) | (go_at_call 55; refine (errorf_two F _ _ _ _ _ (by exact below_tape hF (HB.out.alloc HB.out.size _)) fmtShould (by first | (go_simp; done) | (go_simp; rfl)) (by first | (go_simp; done) | (go_simp; rfl))).mono ?_; rintro e w9 ⟨a9, t9, rfl, hc9, hb9⟩; have HB9 := Lib.hid ((HB.out.alloc HB.out.size _).trans (hb9.mono (HB.out.alloc HB.out.size _).size))))); go_ret; exact ⟨HB.out, .inl ⟨by rw [HPT.out]; exact HR.out, rfl⟩⟩)
              | false => have HR := HR1; ((go_wp2_with (first | (go_at_call 88; refine (HM.out _).mono ?_; rintro e w3 ⟨rfl, hb3⟩; have HB := Lib.hid (HB.out.trans (hb3.mono HB.out.size))) | (go_at_call 89; refine (HU.out _).mono ?_; rintro e w4 ⟨rfl, hb4⟩; have HB := Lib.hid (HB.out.trans (hb4.mono HB.out.size))) | (go_at_call 55; refine (errorf_two F _ _ _ _ _ (by exact below_tape hF (HB.out.alloc HB.out.size _)) fmtShould (by first | (go_simp; done) | (go_simp; rfl)) (by first | (go_simp; done) | (go_simp; rfl))).mono ?_; rintro e w9 ⟨a9, t9, rfl, hc9, hb9⟩; have HB9 := Lib.hid ((HB.out.alloc HB.out.size _).trans (hb9.mono (HB.out.alloc HB.out.size _).size))))); go_ret; exact ⟨HB9.out.alloc HB9.out.size _, .inr ⟨by rw [HPT.out]; exact HR.out, _, rfl⟩⟩)
            · have q1 : (gb p 0 == 47) = false := by simpa using d1
              by_cases d2 : gb p 0 = 46
              · have q2 : (gb p 0 == 46) = true := by simpa using d2
                have HR1 := Lib.hid (show cpmL v.data.toList pl = b5 by rw [HR0.out, if_neg EP.out, if_pos (.inr (by rw [GP.out]; exact d2)), HB5.out])
                clear d1 d2
                cases b5 with
                | true => have HR := HR1; ((go_wp2_with (first | (go_at_call 88; refine (HM.out _).mono ?_; rintro e w3 ⟨rfl, hb3⟩; have HB := Lib.hid (HB.out.trans (hb3.mono HB.out.size))) | (go_at_call 89; refine (HU.out _).mono ?_; rintro e w4 ⟨rfl, hb4⟩; have HB := Lib.hid (HB.out.trans (hb4.mono HB.out.size))) | (go_at_call 55; refine (errorf_two F _ _ _ _ _ (by exact below_tape hF (HB.out.alloc HB.out.size _)) fmtShould (by first | (go_simp; done) | (go_simp; rfl)) (by first | (go_simp; done) | (go_simp; rfl))).mono ?_; rintro e w9 ⟨a9, t9, rfl, hc9, hb9⟩; have HB9 := Lib.hid ((HB.out.alloc HB.out.size _).trans (hb9.mono (HB.out.alloc HB.out.size _).size))))); go_ret; exact ⟨HB.out, .inl ⟨by rw [HPT.out]; exact HR.out, rfl⟩⟩)
                | false => have HR := HR1; ((go_wp2_with (first | (go_at_call 88; refine (HM.out _).mono ?_; rintro e w3 ⟨rfl, hb3⟩; have HB := Lib.hid (HB.out.trans (hb3.mono HB.out.size))) | (go_at_call 89; refine (HU.out _).mono ?_; rintro e w4 ⟨rfl, hb4⟩; have HB := Lib.hid (HB.out.trans (hb4.mono HB.out.size))) | (go_at_call 55; refine (errorf_two F _ _ _ _ _ (by exact below_tape hF (HB.out.alloc HB.out.size _)) fmtShould (by first | (go_simp; done) | (go_simp; rfl)) (by first | (go_simp; done) | (go_simp; rfl))).mono ?_; rintro e w9 ⟨a9, t9, rfl, hc9, hb9⟩; have HB9 := Lib.hid ((HB.out.alloc HB.out.size _).trans (hb9.mono (HB.out.alloc HB.out.size _).size))))); go_ret; exact ⟨HB9.out.alloc HB9.out.size _, .inr ⟨by rw [HPT.out]; exact HR.out, _, rfl⟩⟩)
              · have q2 : (gb p 0 == 46) = false := by simpa using d2
                have HR := Lib.hid (show cpmL v.data.toList pl = false by rw [HR0.out, if_neg EP.out, if_neg (by rw [GP.out]; exact fun h => h.elim d1 d2)])
                clear d1 d2
                ((go_wp2_with (first | (go_at_call 88; refine (HM.out _).mono ?_; rintro e w3 ⟨rfl, hb3⟩; have HB := Lib.hid (HB.out.trans (hb3.mono HB.out.size))) | (go_at_call 89; refine (HU.out _).mono ?_; rintro e w4 ⟨rfl, hb4⟩; have HB := Lib.hid (HB.out.trans (hb4.mono HB.out.size))) | (go_at_call 55; refine (errorf_two F _ _ _ _ _ (by exact below_tape hF (HB.out.alloc HB.out.size _)) fmtShould (by first | (go_simp; done) | (go_simp; rfl)) (by first | (go_simp; done) | (go_simp; rfl))).mono ?_; rintro e w9 ⟨a9, t9, rfl, hc9, hb9⟩; have HB9 := Lib.hid ((HB.out.alloc HB.out.size _).trans (hb9.mono (HB.out.alloc HB.out.size _).size))))); go_ret; exact ⟨HB9.out.alloc HB9.out.size _, .inr ⟨by rw [HPT.out]; exact HR.out, _, rfl⟩⟩)
    | false =>
      rw [hT] at HT
      have HPL := Lib.hid (show pm.data.toList = trimL pm.data.toList by unfold trimL; rw [if_neg (by rw [HT.out]; decide)])
      clear hT
      go_upto_region 3 with (fail)
      obtain ⟨pl, hpl⟩ : ∃ l, trimL pm.data.toList = l := ⟨_, rfl⟩
      rw [hpl] at HPL
      have HPT := Lib.hid hpl
      obtain ⟨b4, hb4⟩ : ∃ b, (pl == [46, 118, 49]) = b := ⟨_, rfl⟩
      have E4 : (pm.toList == [46, 118, 49]) = b4 := eqB pm [46, 118, 49] b4 (by rw [HPL.out]; exact hb4)
      have HB4 := Lib.hid hb4
      clear hb4 hpl
      go_cut [19] (fun v19 wc => v19 = .bool (b3 && b4) ∧ Hid (Below w.heap.size w wc))
      case first =>
        cases b3 <;>
        · go_wp2_with (go_at_call 82; refine (HP3.out _).mono ?_; rintro e w5 ⟨rfl, hb5⟩)
          all_goals (go_meet; (case rel => exact ⟨by first | rfl | simp, Lib.hid (HB.out.trans (hb5.mono HB.out.size))⟩))
      case rest =>
        obtain ⟨rfl, HB⟩ := hcut
        cases h34 : (b3 && b4) with
        | true =>
          have HR := Lib.hid (show cpmL v.data.toList pl = true by unfold cpmL; rw [HB3.out, HB4.out, if_pos h34])
          ((go_wp2_with (first | (go_at_call 88; refine (HM.out _).mono ?_; rintro e w3 ⟨rfl, hb3⟩; have HB := Lib.hid (HB.out.trans (hb3.mono HB.out.size))) | (go_at_call 89; refine (HU.out _).mono ?_; rintro e w4 ⟨rfl, hb4⟩; have HB := Lib.hid (HB.out.trans (hb4.mono HB.out.size))) | (go_at_call 55; refine (errorf_two F _ _ _ _ _ (by exact below_tape hF (HB.out.alloc HB.out.size _)) fmtShould (by first | (go_simp; done) | (go_simp; rfl)) (by first | (go_simp; done) | (go_simp; rfl))).mono ?_; rintro e w9 ⟨a9, t9, rfl, hc9, hb9⟩; have HB9 := Lib.hid ((HB.out.alloc HB.out.size _).trans (hb9.mono (HB.out.alloc HB.out.size _).size))))); go_ret; exact ⟨HB.out, .inl ⟨by rw [HPT.out]; exact HR.out, rfl⟩⟩)
        | false =>
          have HR0 := Lib.hid (show cpmL v.data.toList pl = if pl = [] then (majL v.data.toList == [118, 48]) || (majL v.data.toList == [118, 49]) || (buiL v.data.toList == incL) else if lb pl 0 = 47 ∨ lb pl 0 = 46 then majL v.data.toList == pl.drop 1 else false by
            unfold cpmL; rw [HB3.out, HB4.out, if_neg (by rw [h34]; decide)])
          clear h34 E4
          by_cases e0 : pm.size = 0
          · have q0 : (pm.toList == []) = true := eqB pm [] true (by rw [empty_of_size e0] <;> rfl)
            have HR1 := Lib.hid (show cpmL v.data.toList pl = ((majL v.data.toList == [118, 48]) || (majL v.data.toList == [118, 49]) || (buiL v.data.toList == incL)) by
              rw [HR0.out, if_pos (by rw [← HPL.out, empty_of_size e0] <;> rfl)])
            clear e0
            cases c1 : (majL v.data.toList == [118, 48]) with
            | true =>
              have HR := Lib.hid (show cpmL v.data.toList pl = true by rw [HR1.out, c1]; rfl)
              have q1 : (m.toList == [118, 48]) = true := eqB m [118, 48] true (by rw [hm.out]; exact c1)
              clear c1
              ((go_wp2_with (first | (go_at_call 88; refine (HM.out _).mono ?_; rintro e w3 ⟨rfl, hb3⟩; have HB := Lib.hid (HB.out.trans (hb3.mono HB.out.size))) | (go_at_call 89; refine (HU.out _).mono ?_; rintro e w4 ⟨rfl, hb4⟩; have HB := Lib.hid (HB.out.trans (hb4.mono HB.out.size))) | (go_at_call 55; refine (errorf_two F _ _ _ _ _ (by exact below_tape hF (HB.out.alloc HB.out.size _)) fmtShould (by first | (go_simp; done) | (go_simp; rfl)) (by first | (go_simp; done) | (go_simp; rfl))).mono ?_; rintro e w9 ⟨a9, t9, rfl, hc9, hb9⟩; have HB9 := Lib.hid ((HB.out.alloc HB.out.size _).trans (hb9.mono (HB.out.alloc HB.out.size _).size))))); go_ret; exact ⟨HB.out, .inl ⟨by rw [HPT.out]; exact HR.out, rfl⟩⟩)
            | false =>
              have q1 : (m.toList == [118, 48]) = false := eqB m [118, 48] false (by rw [hm.out]; exact c1)
              cases c2 : (majL v.data.toList == [118, 49]) with
              | true =>
                have HR := Lib.hid (show cpmL v.data.toList pl = true by rw [HR1.out, c1, c2]; rfl)
                have q2 : (m.toList == [118, 49]) = true := eqB m [118, 49] true (by rw [hm.out]; exact c2)
                clear c1 c2
                ((go_wp2_with (first | (go_at_call 88; refine (HM.out _).mono ?_; rintro e w3 ⟨rfl, hb3⟩; have HB := Lib.hid (HB.out.trans (hb3.mono HB.out.size))) | (go_at_call 89; refine (HU.out _).mono ?_; rintro e w4 ⟨rfl, hb4⟩; have HB := Lib.hid (HB.out.trans (hb4.mono HB.out.size))) | (go_at_call 55; refine (errorf_two F _ _ _ _ _ (by exact below_tape hF (HB.out.alloc HB.out.size _)) fmtShould (by first | (go_simp; done) | (go_simp; rfl)) (by first | (go_simp; done) | (go_simp; rfl))).mono ?_; rintro e w9 ⟨a9, t9, rfl, hc9, hb9⟩; have HB9 := Lib.hid ((HB.out.alloc HB.out.size _).trans (hb9.mono (HB.out.alloc HB.out.size _).size))))); go_ret; exact ⟨HB.out, .inl ⟨by rw [HPT.out]; exact HR.out, rfl⟩⟩)
              | false =>
                have q2 : (m.toList == [118, 49]) = false := eqB m [118, 49] false (by rw [hm.out]; exact c2)
                cases c3 : (buiL v.data.toList == incL) with
                | true =>
                  have HR := Lib.hid (show cpmL v.data.toList pl = true by rw [HR1.out, c1, c2, c3]; rfl)
                  have q3 : (u.toList == [43, 105, 110, 99, 111, 109, 112, 97, 116, 105, 98, 108, 101]) = true := eqB u incL true (by rw [hu.out]; exact c3)
                  clear c1 c2 c3
                  ((go_wp2_with (first | (go_at_call 88; refine (HM.out _).mono ?_; rintro e w3 ⟨rfl, hb3⟩; have HB := Lib.hid (HB.out.trans (hb3.mono HB.out.size))) | (go_at_call 89; refine (HU.out _).mono ?_; rintro e w4 ⟨rfl, hb4⟩; have HB := Lib.hid (HB.out.trans (hb4.mono HB.out.size))) | (go_at_call 55; refine (errorf_two F _ _ _ _ _ (by exact below_tape hF (HB.out.alloc HB.out.size _)) fmtShould (by first | (go_simp; done) | (go_simp; rfl)) (by first | (go_simp; done) | (go_simp; rfl))).mono ?_; rintro e w9 ⟨a9, t9, rfl, hc9, hb9⟩; have HB9 := Lib.hid ((HB.out.alloc HB.out.size _).trans (hb9.mono (HB.out.alloc HB.out.size _).size))))); go_ret; exact ⟨HB.out, .inl ⟨by rw [HPT.out]; exact HR.out, rfl⟩⟩)
                | false =>
                  have HR := Lib.hid (show cpmL v.data.toList pl = false by rw [HR1.out, c1, c2, c3]; rfl)
                  have q3 : (u.toList == [43, 105, 110, 99, 111, 109, 112, 97, 116, 105, 98, 108, 101]) = false := eqB u incL false (by rw [hu.out]; exact c3)
                  clear c1 c2 c3
                  ((go_wp2_with (first | (go_at_call 88; refine (HM.out _).mono ?_; rintro e w3 ⟨rfl, hb3⟩; have HB := Lib.hid (HB.out.trans (hb3.mono HB.out.size))) | (go_at_call 89; refine (HU.out _).mono ?_; rintro e w4 ⟨rfl, hb4⟩; have HB := Lib.hid (HB.out.trans (hb4.mono HB.out.size))) | (go_at_call 55; refine (errorf_two F _ _ _ _ _ (by exact below_tape hF (HB.out.alloc HB.out.size _)) fmtShould (by first | (go_simp; done) | (go_simp; rfl)) (by first | (go_simp; done) | (go_simp; rfl))).mono ?_; rintro e w9 ⟨a9, t9, rfl, hc9, hb9⟩; have HB9 := Lib.hid ((HB.out.alloc HB.out.size _).trans (hb9.mono (HB.out.alloc HB.out.size _).size))))); go_ret; exact ⟨HB9.out.alloc HB9.out.size _, .inr ⟨by rw [HPT.out]; exact HR.out, _, rfl⟩⟩)
          · have q0 : (pm.toList == []) = false := nonempty_ne e0
            have hgp := get_gb pm
            have s1 : 1 ≤ pm.size := by omega
            have s0 : 0 < pm.size := by omega
            have EP := Lib.hid (show ¬ pl = [] from fun h => e0 (by rw [← len_size, HPL.out, h]; rfl))
            have GP := Lib.hid (show lb pl 0 = gb pm 0 by rw [gb_lb, HPL.out])
            obtain ⟨x, hx⟩ : ∃ x, pm.extract 1 pm.size = x := ⟨_, rfl⟩
            have HXL := Lib.hid (show x.data.toList = pl.drop 1 by rw [← hx, ← HPL.out]; exact extract_drop pm 1)
            clear e0
            obtain ⟨b5, hb5⟩ : ∃ b, (majL v.data.toList == pl.drop 1) = b := ⟨_, rfl⟩
            have q5 : (m.toList == x.toList) = b5 := by rw [Lib.toList_data, Lib.toList_data, hm.out, HXL.out]; exact hb5
            have HB5 := Lib.hid hb5
            clear hb5
            by_cases d1 : gb pm 0 = 47
            · have q1 : (gb pm 0 == 47) = true := by simpa using d1
              have HR1 := Lib.hid (show cpmL v.data.toList pl = b5 by rw [HR0.out, if_neg EP.out, if_pos (.inl (by rw [GP.out]; exact d1)), HB5.out])
              clear d1
              cases b5 with
              | true => have HR := HR1; ((go_wp2_with (first | (go_at_call 88; refine (HM.out _).mono ?_; rintro e w3 ⟨rfl, hb3⟩; have HB := Lib.hid (HB.out.trans (hb3.mono HB.out.size))) | (go_at_call 89; refine (HU.out _).mono ?_; rintro e w4 ⟨rfl, hb4⟩; have HB := Lib.hid (HB.out.trans (hb4.mono HB.out.size))) | (go_at_call 55; refine (errorf_two F _ _ _ _ _ (by exact below_tape hF (HB.out.alloc HB.out.size _)) fmtShould (by first | (go_simp; done) | (go_simp; rfl)) (by first | (go_simp; done) | (go_simp; rfl))).mono ?_; rintro e w9 ⟨a9, t9, rfl, hc9, hb9⟩; have HB9 := Lib.hid ((HB.out.alloc HB.out.size _).trans (hb9.mono (HB.out.alloc HB.out.size _).size))))); go_ret; exact ⟨HB.out, .inl ⟨by rw [HPT.out]; exact HR.out, rfl⟩⟩)
              | false => have HR := HR1; ((go_wp2_with (first | (go_at_call 88; refine (HM.out _).mono ?_; rintro e w3 ⟨rfl, hb3⟩; have HB := Lib.hid (HB.out.trans (hb3.mono HB.out.size))) | (go_at_call 89; refine (HU.out _).mono ?_; rintro e w4 ⟨rfl, hb4⟩; have HB := Lib.hid (HB.out.trans (hb4.mono HB.out.size))) | (go_at_call 55; refine (errorf_two F _ _ _ _ _ (by exact below_tape hF (HB.out.alloc HB.out.size _)) fmtShould (by first | (go_simp; done) | (go_simp; rfl)) (by first | (go_simp; done) | (go_simp; rfl))).mono ?_; rintro e w9 ⟨a9, t9, rfl, hc9, hb9⟩; have HB9 := Lib.hid ((HB.out.alloc HB.out.size _).trans (hb9.mono (HB.out.alloc HB.out.size _).size))))); go_ret; exact ⟨HB9.out.alloc HB9.out.size _, .inr ⟨by rw [HPT.out]; exact HR.out, _, rfl⟩⟩)
            · have q1 : (gb pm 0 == 47) = false := by simpa using d1
              by_cases d2 : gb pm 0 = 46
              · have q2 : (gb pm 0 == 46) = true := by simpa using d2
                have HR1 := Lib.hid (show cpmL v.data.toList pl = b5 by rw [HR0.out, if_neg EP.out, if_pos (.inr (by rw [GP.out]; exact d2)), HB5.out])
                clear d1 d2
                cases b5 with
                | true => have HR := HR1; ((go_wp2_with (first | (go_at_call 88; refine (HM.out _).mono ?_; rintro e w3 ⟨rfl, hb3⟩; have HB := Lib.hid (HB.out.trans (hb3.mono HB.out.size))) | (go_at_call 89; refine (HU.out _).mono ?_; rintro e w4 ⟨rfl, hb4⟩; have HB := Lib.hid (HB.out.trans (hb4.mono HB.out.size))) | (go_at_call 55; refine (errorf_two F _ _ _ _ _ (by exact below_tape hF (HB.out.alloc HB.out.size _)) fmtShould (by first | (go_simp; done) | (go_simp; rfl)) (by first | (go_simp; done) | (go_simp; rfl))).mono ?_; rintro e w9 ⟨a9, t9, rfl, hc9, hb9⟩; have HB9 := Lib.hid ((HB.out.alloc HB.out.size _).trans (hb9.mono (HB.out.alloc HB.out.size _).size))))); go_ret; exact ⟨HB.out, .inl ⟨by rw [HPT.out]; exact HR.out, rfl⟩⟩)
                | false => have HR := HR1; ((go_wp2_with (first | (go_at_call 88; refine (HM.out _).mono ?_; rintro e w3 ⟨rfl, hb3⟩; have HB := Lib.hid (HB.out.trans (hb3.mono HB.out.size))) | (go_at_call 89; refine (HU.out _).mono ?_; rintro e w4 ⟨rfl, hb4⟩; have HB := Lib.hid (HB.out.trans (hb4.mono HB.out.size))) | (go_at_call 55; refine (errorf_two F _ _ _ _ _ (by exact below_tape hF (HB.out.alloc HB.out.size _)) fmtShould (by first | (go_simp; done) | (go_simp; rfl)) (by first | (go_simp; done) | (go_simp; rfl))).mono ?_; rintro e w9 ⟨a9, t9, rfl, hc9, hb9⟩; have HB9 := Lib.hid ((HB.out.alloc HB.out.size _).trans (hb9.mono (HB.out.alloc HB.out.size _).size))))); go_ret; exact ⟨HB9.out.alloc HB9.out.size _, .inr ⟨by rw [HPT.out]; exact HR.out, _, rfl⟩⟩)
              · have q2 : (gb pm 0 == 46) = false := by simpa using d2
                have HR := Lib.hid (show cpmL v.data.toList pl = false by rw [HR0.out, if_neg EP.out, if_neg (by rw [GP.out]; exact fun h => h.elim d1 d2)])
                clear d1 d2
                ((go_wp2_with (first | (go_at_call 88; refine (HM.out _).mono ?_; rintro e w3 ⟨rfl, hb3⟩; have HB := Lib.hid (HB.out.trans (hb3.mono HB.out.size))) | (go_at_call 89; refine (HU.out _).mono ?_; rintro e w4 ⟨rfl, hb4⟩; have HB := Lib.hid (HB.out.trans (hb4.mono HB.out.size))) | (go_at_call 55; refine (errorf_two F _ _ _ _ _ (by exact below_tape hF (HB.out.alloc HB.out.size _)) fmtShould (by first | (go_simp; done) | (go_simp; rfl)) (by first | (go_simp; done) | (go_simp; rfl))).mono ?_; rintro e w9 ⟨a9, t9, rfl, hc9, hb9⟩; have HB9 := Lib.hid ((HB.out.alloc HB.out.size _).trans (hb9.mono (HB.out.alloc HB.out.size _).size))))); go_ret; exact ⟨HB9.out.alloc HB9.out.size _, .inr ⟨by rw [HPT.out]; exact HR.out, _, rfl⟩⟩)

end Go.Proofs.YtpbebckhemnooaaFmt.PS

namespace Go.Proofs.YtpbebckhemnooaaFmt.PS
open Go.RowKit Go.Proofs.YtpbebckhemnooaaFmtW.PrintWords Go.Proofs.YtpbebckhemnooaaFmtW.PrintLast Go.Proofs.YtpbebckhemnooaaFmtW.PrintMore
open Go.Extern.Stop Go.Stop Go.Extern
set_option linter.unusedVariables false
set_option linter.unusedSimpArgs false

theorem new_any (s : ByteArray) (w : World) : Calls Tryf.prog 68 #[.string s] w fun e w' => ∃ a : Addr, e = .returned (.iface 79 (.pointer (some a))) ∧ Below w.heap.size w w' := by
  go_enter Tryf.func68, Tryf.ntmps68
  go_wp2
  go_ret
  exact ⟨_, rfl, (Below.refl _ _).alloc (Nat.le_refl _) _⟩

/-- It tells an error just if not b. -/
def ErrB (b : Bool) (w : World) (e : Ending) (w' : World) : Prop := Below w.heap.size w w' ∧ ((b = true ∧ e = .returned .nilIface) ∨ (b = false ∧ ∃ (t : TypeId) (g : Addr), e = .returned (.iface t (.pointer (some g)))))
def checkL (b : Bool) (s v : List UInt8) : Bool := b && (semL v).isSome && cpmL v (trimL (spvI s).2.1)
theorem pick_len {c d : Prop} [Decidable c] [Decidable d] {l : List UInt8} {n : Nat} {b1 b2 : Bool} : (if c then (l, ([] : List UInt8), b1) else if d then (l, ([] : List UInt8), b2) else (l.take n, l.drop n, true)).2.1.length ≤ l.length := by
  by_cases h1 : c
  · rw [if_pos h1]; simp
  · rw [if_neg h1]
    by_cases h2 : d
    · rw [if_pos h2]; simp
    · rw [if_neg h2]; simp
theorem spvI_len (l : List UInt8) : (spvI l).2.1.length ≤ l.length := by
  unfold spvI
  by_cases h : l.take 9 = gopkgL
  · rw [if_pos h]
    exact pick_len
  · rw [if_neg h]
    exact pick_len

set_option maxRecDepth 100000 in
set_option maxHeartbeats 3200000 in
theorem check_mod (F : Stop.Interp) (s v : ByteArray) (hs : s.size ≤ 1099511627776) (hv : v.size ≤ 1099511627776) (w : World) (hF : F.answers w.tape) (hN : NamesIn w) (hV : ∀ W, Below w.heap.size w W → ValidOK W s) :
    Calls Tryf.prog 49 #[.string s, .string v] w fun e w' => ∃ b, MB s.data.toList b ∧ ErrB (checkL b s.data.toList v.data.toList) w e w' := by
  have HP := Lib.hid (modPath_any F s hs w hF hN hV)
  have HS := Lib.hid fun W => valid_sem v hv W
  have HPM := Lib.hid fun W => spv_at s hs W
  obtain ⟨bv, hbv⟩ : ∃ b, (semL v.data.toList).isSome = b := ⟨_, rfl⟩
  have HBV := Lib.hid hbv
  rw [hbv] at HS
  have HC := Lib.hid fun (W : World) (hb : Below w.heap.size w W) (pm : ByteArray) (h : pm.data.toList = (spvI s.data.toList).2.1) => cpm_any F v pm hv (by have := spvI_len s.data.toList; rw [← h, len_size, len_size] at this; omega) W (below_tape hF hb)
  clear hbv hN hV
  cases bv with
  | false =>
    go_enter Tryf.func49, Tryf.ntmps49
    go_wp2_with (first
      | (go_at_call 43; refine HP.out.mono ?_; rintro e w7 ⟨b7, hEB, ⟨rfl, rfl, hb7⟩ | ⟨rfl, g7, b8, t7, rfl, hb7, -, -⟩⟩ <;> have HB := Lib.hid hb7)
      | (go_at_call 67; refine (HS.out _).mono ?_; rintro e w8 ⟨rfl, hb8⟩; have HB := Lib.hid (HB.out.trans (hb8.mono HB.out.size)))
      | (go_at_call 68; refine (new_any _ _).mono ?_; rintro e w9 ⟨a9, rfl, hb9⟩; have HB := Lib.hid (HB.out.trans (hb9.mono HB.out.size))))
    · go_ret
      exact ⟨_, hEB, (HB.out.alloc HB.out.size _).alloc (HB.out.alloc HB.out.size _).size _, .inr ⟨by unfold checkL; rw [HBV.out]; simp, _, _, rfl⟩⟩
    · go_ret
      exact ⟨_, hEB, HB.out, .inr ⟨rfl, _, _, rfl⟩⟩
  | true =>
    go_enter Tryf.func49, Tryf.ntmps49
    go_wp2_with (first
      | (go_at_call 43; refine HP.out.mono ?_; rintro e w7 ⟨b7, hEB, ⟨rfl, rfl, hb7⟩ | ⟨rfl, g7, b8, t7, rfl, hb7, -, -⟩⟩ <;> have HB := Lib.hid hb7)
      | (go_at_call 67; refine (HS.out _).mono ?_; rintro e w8 ⟨rfl, hb8⟩; have HB := Lib.hid (HB.out.trans (hb8.mono HB.out.size)))
      | (go_at_call 65; refine (HPM.out _).mono ?_; rintro e w9 ⟨p1, p2, rfl, hp12, hb9⟩; have HB := Lib.hid (HB.out.trans (hb9.mono HB.out.size)); have HP2 := Lib.hid (congrArg (fun x => x.2.1) hp12))
      | (go_at_call 69; refine (HC.out _ HB.out _ HP2.out).mono ?_; rintro e w10 ⟨hb10, ⟨hc, rfl⟩ | ⟨hc, g10, rfl⟩⟩ <;> (have HB := Lib.hid (HB.out.trans (hb10.mono HB.out.size)); have HCB := Lib.hid hc)))
    all_goals go_ret
    · exact ⟨_, hEB, HB.out, .inl ⟨by unfold checkL; rw [HBV.out, ← HP2.out, HCB.out]; rfl, rfl⟩⟩
    · exact ⟨_, hEB, HB.out.alloc HB.out.size _, .inr ⟨by unfold checkL; rw [HBV.out, ← HP2.out, HCB.out]; rfl, _, _, rfl⟩⟩
    · exact ⟨_, hEB, HB.out, .inr ⟨rfl, _, _, rfl⟩⟩

theorem check_impl (F : Stop.Interp) (s v : ByteArray) (hs : s.size ≤ 1099511627776) (hv : v.size ≤ 1099511627776) (w : World) (hF : F.answers w.tape) (hN : NamesIn w) (hV : ∀ W, Below w.heap.size w W → ValidOK W s) :
    Calls Tryf.prog 34 #[.string s, .string v] w fun e w' => ∃ b, MB s.data.toList b ∧ e = .returned (.bool (checkL b s.data.toList v.data.toList)) ∧ Below w.heap.size w w' := by
  have HP := Lib.hid (check_mod F s v hs hv w hF hN hV)
  clear hN hV
  go_enter Tryf.func34, Tryf.ntmps34
  go_wp2_with (go_at_call 49; refine HP.out.mono ?_; rintro e w7 ⟨b7, hEB, hb7, ⟨hc, rfl⟩ | ⟨hc, t7, g7, rfl⟩⟩)
  all_goals go_ret
  all_goals exact ⟨b7, hEB, by rw [hc]; rfl, hb7⟩

end Go.Proofs.YtpbebckhemnooaaFmt.PS
