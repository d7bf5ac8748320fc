/- laws.FnOneCase returns true; the conditions: the tape answers fmt's stop, where the names of Windows lie, that utf8.ValidString answers. -/
import Derived.Test.YtdnkmikckchnpaaFmtLawBase
import Derived.Test.YtdnkmikckchnpaaFmtEscPath
namespace Go.Proofs.YtdnkmikckchnpaaFmt.PS
open Go.RowKit Go.Proofs.YtdnkmikckchnpaaFmtW.PrintWords Go.Proofs.YtdnkmikckchnpaaFmtW.PrintLast Go.Proofs.YtdnkmikckchnpaaFmtW.PrintMore Go.Proofs.YtdnkmikckchnpaaFmt.PT
set_option linter.unusedVariables false
set_option linter.unusedSimpArgs false

theorem great_at (s : ByteArray) (hs : s.size ≤ 1099511627776) (w : World) : Calls Tryf.prog 24 #[.string s] w fun e w' => e = .returned (.string (greatB s)) ∧ Below w.heap.size w w' :=
  spec_Great.calls s _ w (by unfold spec_Great.f; rw [if_pos (by omega)])
theorem great_eq {a b s t : ByteArray} (ha : (33 : UInt8) ∉ a.data.toList) (hb : (33 : UInt8) ∉ b.data.toList) (hs : s.data.toList = escL a.data.toList) (ht : t.data.toList = escL b.data.toList) : ((greatB s).toList == (greatB t).toList) = (a.toList == b.toList) := by
  have e1 : (greatB s).toList = (escL a.data.toList).map up := by rw [Lib.toList_data, greatB, ← hs]
  have e2 : (greatB t).toList = (escL b.data.toList).map up := by rw [Lib.toList_data, greatB, ← ht]
  rw [e1, e2, Lib.toList_data, Lib.toList_data, Bool.eq_iff_iff, beq_iff_eq, beq_iff_eq]
  exact ⟨fun h => up_esc ha hb h, fun h => by rw [h]⟩
set_option maxHeartbeats 6400000 in
set_option maxRecDepth 100000 in
theorem law_case (F : Stop.Interp) (a b : ByteArray) (w : World) (hF : F.answers w.tape) (hN : NamesIn w) (hv : ∀ s : ByteArray, s.size ≤ 100000 → ∀ W, Below w.heap.size w W → ValidOK W s) :
    Calls Tryf.prog 6 #[.string a, .string b] w (Yes w) := by
  by_cases c1 : (a.size : Int) > 2147483647
  · have h1 : (a.size : Int) > 2147483647 := c1
    go_enter Tryf.func6, Tryf.ntmps6
    go_wp2_with fail
    all_goals (go_ret; exact ⟨rfl, Below.refl _ _⟩)
  have h1 : ¬ (a.size : Int) > 2147483647 := c1
  by_cases d1 : (b.size : Int) > 2147483647
  · have h2 : (b.size : Int) > 2147483647 := d1
    go_enter Tryf.func6, Tryf.ntmps6
    go_wp2_with fail
    all_goals (go_ret; exact ⟨rfl, Below.refl _ _⟩)
  have h2 : ¬ (b.size : Int) > 2147483647 := d1
  have hs1 : a.size ≤ 1099511627776 := by omega
  have hs2 : b.size ≤ 1099511627776 := by omega
  by_cases c2 : (a.size : Int) > 500
  · have HL := Lib.hid fun W => long_at a true (decide_eq_true c2) W
    clear c2 hv
    go_enter Tryf.func6, Tryf.ntmps6
    go_wp2_with (go_at_call 9; refine (HL.out _).mono ?_; rintro e w3 ⟨rfl, hb3⟩)
    all_goals (go_ret; exact ⟨rfl, hb3⟩)
  by_cases d2 : (b.size : Int) > 500
  · have HL := Lib.hid fun W => long_at a false (decide_eq_false c2) W
    have HM := Lib.hid fun W => long_at b true (decide_eq_true d2) W
    clear c2 d2 hv
    go_enter Tryf.func6, Tryf.ntmps6
    go_wp2_with (go_at_call 9; first | (have := hb3; refine (HM.out _).mono ?_; rintro e w4 ⟨rfl, hb4⟩) | (refine (HL.out _).mono ?_; rintro e w3 ⟨rfl, hb3⟩))
    all_goals (go_ret; exact ⟨rfl, hb3.trans (hb4.mono hb3.size)⟩)
  have HL := Lib.hid fun W => long_at a false (decide_eq_false c2) W
  have HM := Lib.hid fun W => long_at b false (decide_eq_false d2) W
  have hz1 : a.size ≤ 500 := by omega
  have hz2 : b.size ≤ 500 := by omega
  clear c1 d1 c2 d2
  have HE := Lib.hid fun (W : World) (hb : Below w.heap.size w W) => implEscape_any F a hs1 W (below_tape hF hb) (hN.below hb) (fun W2 hb2 => hv a (by omega) W2 (hb.trans (hb2.mono hb.size)))
  have HG := Lib.hid fun (W : World) (hb : Below w.heap.size w W) => implEscape_any F b hs2 W (below_tape hF hb) (hN.below hb) (fun W2 hb2 => hv b (by omega) W2 (hb.trans (hb2.mono hb.size)))
  have HS := Lib.hid fun W => path_at a hs1 W
  have HR := Lib.hid fun W => path_at b hs2 W
  have HGR := Lib.hid fun (t : ByteArray) (ht : t.size ≤ 1099511627776) W => great_at t ht W
  obtain ⟨n, hn⟩ : ∃ n, modPathI a.data.toList = n := ⟨_, rfl⟩
  have HNA := Lib.hid hn
  rw [hn] at HS
  obtain ⟨m, hm⟩ : ∃ m, modPathI b.data.toList = m := ⟨_, rfl⟩
  have HNB := Lib.hid hm
  rw [hm] at HR
  have HLA : Hid (a.data.toList.length ≤ 500) := Lib.hid (by rw [len_size]; omega)
  have HLB : Hid (b.data.toList.length ≤ 500) := Lib.hid (by rw [len_size]; omega)
  clear hv hN hn hm
  go_enter Tryf.func6, Tryf.ntmps6
  go_wp2_with (first
    | (go_at_call 9; first | (have := hk3; refine (HM.out _).mono ?_; rintro e w4 ⟨rfl, hb4⟩; have hk4 := hk3.trans (hb4.mono hk3.size)) | (refine (HL.out _).mono ?_; rintro e w3 ⟨rfl, hk3⟩))
    | (go_at_call 23; first
      | (have := hk5; refine (HG.out _ hk5).mono ?_; rintro e w6 ⟨b6, hpb, ⟨rfl, t6, rfl, ht6, hb6⟩ | ⟨rfl, rfl, hb6⟩⟩ <;> have hk6 := hk5.trans (hb6.mono hk5.size) <;> have HM6 := Lib.hid hpb <;> have HT6 := Lib.hid (told_at _ m true (by rw [← HNB.out]; exact path_law hpb)) <;> clear hpb)
      | (refine (HE.out _ hk4).mono ?_; rintro e w5 ⟨b5, hpb, ⟨rfl, t5, rfl, ht5, hb5⟩ | ⟨rfl, rfl, hb5⟩⟩ <;> have hk5 := hk4.trans (hb5.mono hk4.size) <;> have HM5 := Lib.hid hpb <;> have HT5 := Lib.hid (told_at _ n true (by rw [← HNA.out]; exact path_law hpb)) <;> clear hpb))
    | (go_at_call 21; first
      | (have := hk12; refine (HR.out _).mono ?_; rintro e w13 ⟨rfl, hb13⟩; have hk13 := hk12.trans (hb13.mono hk12.size))
      | (have := hk10; refine (HS.out _).mono ?_; rintro e w11 ⟨rfl, hb11⟩; have hk11 := hk10.trans (hb11.mono hk10.size))
      | (have := hk8; refine (HR.out _).mono ?_; rintro e w9 ⟨rfl, hb9⟩; have hk9 := hk8.trans (hb9.mono hk8.size))
      | (refine (HS.out _).mono ?_; rintro e w7 ⟨rfl, hb7⟩; have hk7 := hk6.trans (hb7.mono hk6.size)))
    | (go_at_call 13; first
      | (have := hk13; refine (HT6.out _).mono ?_; rintro e w14 ⟨rfl, hb14⟩; have hk14 := hk13.trans (hb14.mono hk13.size))
      | (have := hk11; refine (HT5.out _).mono ?_; rintro e w12 ⟨rfl, hb12⟩; have hk12 := hk11.trans (hb12.mono hk11.size))
      | (have := hk9; refine (HT6.out _).mono ?_; rintro e w10 ⟨rfl, hb10⟩; have hk10 := hk9.trans (hb10.mono hk9.size))
      | (refine (HT5.out _).mono ?_; rintro e w8 ⟨rfl, hb8⟩; have hk8 := hk7.trans (hb8.mono hk7.size)))
    | (go_at_call 24; first
      | (have := hk15; refine (HGR.out t6 (by have := esc_len b.data.toList; have := HLB.out; rw [← len_size, ht6]; omega) _).mono ?_; rintro e w16 ⟨rfl, hb16⟩; have hk16 := hk15.trans (hb16.mono hk15.size); have hge := great_eq (mod_33 HM5.out.fine.2) (mod_33 HM6.out.fine.2) ht5 ht6)
      | (refine (HGR.out t5 (by have := esc_len a.data.toList; have := HLA.out; rw [← len_size, ht5]; omega) _).mono ?_; rintro e w15 ⟨rfl, hb15⟩; have hk15 := hk10.trans (hb15.mono hk10.size))))
  all_goals (go_ret; first | exact ⟨rfl, hk14⟩ | exact ⟨rfl, hk16⟩ | exact ⟨ret_bool (by simp [hge]), hk16⟩)

end Go.Proofs.YtdnkmikckchnpaaFmt.PS
