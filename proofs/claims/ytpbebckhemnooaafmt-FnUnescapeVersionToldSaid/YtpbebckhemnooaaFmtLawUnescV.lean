/- laws.FnUnescapeVersion returns true; the conditions: the tape answers fmt's stop, where the names of Windows lie. -/
import Derived.Test.YtpbebckhemnooaaFmtLawImp
import Derived.Test.YtpbebckhemnooaaFmtEscSpec
import Derived.Test.YtpbebckhemnooaaFmtEscVer
namespace Go.Proofs.YtpbebckhemnooaaFmt.PS
open Go.RowKit Go.Proofs.YtpbebckhemnooaaFmtW.PrintWords Go.Proofs.YtpbebckhemnooaaFmtW.PrintLast Go.Proofs.YtpbebckhemnooaaFmtW.PrintMore Go.Proofs.YtpbebckhemnooaaFmt.PT
set_option linter.unusedVariables false
set_option linter.unusedSimpArgs false

theorem ascii_at (s : ByteArray) (hs : s.size ≤ 1099511627776) (w : World) : Calls Tryf.prog 19 #[.string s] w fun e w' => e = .returned (.bool (ascB s.data.toList)) ∧ Below w.heap.size w w' := by
  obtain ⟨k, hk⟩ := (Ascii_ev s hs).fin
  exact (spec_Ascii.calls k s _ w hk).mono fun _ _ ⟨he, hd⟩ => ⟨he, by first | exact hd | exact drawn_below hd⟩
theorem name_at (s : ByteArray) (hs : s.size ≤ 1099511627776) (w : World) : Calls Tryf.prog 18 #[.string s] w fun e w' => e = .returned (.int .i64 (nameI s.data.toList)) ∧ Below w.heap.size w w' := by
  obtain ⟨k, hk⟩ := (Name_ev s hs).fin
  exact (spec_Name.calls k s _ w hk).mono fun _ _ ⟨he, hd⟩ => ⟨he, by first | exact hd | exact drawn_below hd⟩
theorem nameI_range (l : List UInt8) : nameI l = 0 ∨ nameI l = 1 ∨ nameI l = 2 := by
  unfold nameI
  split
  · exact .inr (.inr rfl)
  · split
    · exact .inr (.inr rfl)
    · by_cases h2 : elemI true l = 2
      · exact .inr (.inr h2)
      · by_cases h0 : elemI true l = 0
        · exact .inl h0
        · exact .inr (.inl (elemI_range true l h2 h0))
theorem name_fine {l : List UInt8} (h : nameI l = 1) : asc l ∧ ElemOK 2 l ∧ (33 : UInt8) ∉ l := by
  unfold nameI at h
  by_cases c1 : hasB l 33 = true
  · rw [if_pos c1] at h; cases h
  · rw [if_neg c1] at h
    by_cases c2 : hasB l 47 = true
    · rw [if_pos c2] at h; cases h
    · rw [if_neg c2] at h
      have := elem_fine_file h
      exact ⟨this.1, this.2, fun hm => c1 ((bang_mem l).2 hm)⟩
theorem name_wrong {l : List UInt8} (h : nameI l = 2) (ha : asc l) (h33 : (33 : UInt8) ∉ l) : ¬ ElemOK 2 l := by
  intro he
  unfold nameI at h
  have h47 : ¬ hasB l 47 = true := fun c => file_47 he ((hasB_iff l 47 (by decide)).1 c)
  rw [if_neg (fun c => h33 ((bang_mem l).1 c)), if_neg h47] at h
  exact (elem_wrong_file h).1 ha he

set_option maxHeartbeats 3200000 in
set_option maxRecDepth 100000 in
theorem law_unescv (F : Stop.Interp) (s : ByteArray) (w : World) (hF : F.answers w.tape) (hN : NamesIn w) :
    Calls Tryf.prog 4 #[.string s] w (Yes w) := by
  by_cases c1 : (s.size : Int) > 2147483647
  · have h1 : (s.size : Int) > 2147483647 := c1
    go_enter Tryf.func4, Tryf.ntmps4
    go_wp2_with fail
    all_goals (go_ret; exact ⟨rfl, Below.refl _ _⟩)
  have hs : s.size ≤ 1099511627776 := by omega
  by_cases c2 : (s.size : Int) > 500
  · have HL := Lib.hid fun W => long_at s true (decide_eq_true c2) W
    have h1 : ¬ (s.size : Int) > 2147483647 := c1
    clear c2
    go_enter Tryf.func4, Tryf.ntmps4
    go_wp2_with (go_at_call 15; refine (HL.out _).mono ?_; rintro e w3 ⟨rfl, hb3⟩)
    all_goals (go_ret; exact ⟨rfl, hb3⟩)
  · have HL := Lib.hid fun W => long_at s false (decide_eq_false c2) W
    have HA := Lib.hid fun W => ascii_at s hs W
    have HE := Lib.hid fun (W : World) (hb : Below w.heap.size w W) => implUnescV_any F s hs W (below_tape hF hb) (hN.below hb)
    have HU := Lib.hid fun W => unescape_at s hs W
    have h1 : ¬ (s.size : Int) > 2147483647 := c1
    obtain ⟨a, ha⟩ : ∃ a, ascB s.data.toList = a := ⟨_, rfl⟩
    rw [ha] at HA
    clear ha
    cases hu : unescL false s.data.toList with
    | none =>
      have HUU := Lib.hid hu
      clear c2 hN hu
      go_enter Tryf.func4, Tryf.ntmps4
      go_wp2_with (first
        | (go_at_call 15; refine (HL.out _).mono ?_; rintro e w3 ⟨rfl, hb3⟩)
        | (go_at_call 19; refine (HA.out _).mono ?_; rintro e w2 ⟨rfl, hb2⟩; have hb32 := hb3.trans (hb2.mono hb3.size))
        | (go_at_call 21; refine (HE.out _ hb32).mono ?_; rintro e w4 ⟨b, t, hub, rfl, hb4⟩; obtain rfl := hub.1 HUU.out; have hb34 := hb32.trans (hb4.mono hb32.size); clear hub)
        | (go_at_call 22; refine (HU.out _).mono ?_; rintro e w5 ⟨b5, t5, rfl, hn5, hs5, hb5⟩; obtain rfl := hn5 HUU.out; have hb35 := hb34.trans (hb5.mono hb34.size); clear hn5 hs5))
      all_goals (go_ret; first | exact ⟨rfl, hb35⟩ | exact ⟨rfl, hb32⟩ | exact ⟨ret_bool (by simp), hb35⟩)
    | some r =>
      obtain ⟨q, hq⟩ : ∃ q : ByteArray, q.data.toList = r := ⟨⟨r.toArray⟩, by simp⟩
      have hqs : q.size ≤ s.size := by rw [← len_size, ← len_size, hq]; exact unesc_len hu
      have HS := Lib.hid fun W => name_at q (by omega) W
      rw [← hq] at hu
      have HUU := Lib.hid hu
      obtain ⟨n, hn⟩ : ∃ n, nameI q.data.toList = n := ⟨_, rfl⟩
      have HNN := Lib.hid hn
      have hn012 := nameI_range q.data.toList
      rw [hn] at HS hn012
      have HFI := Lib.hid (unesc_fine hu)
      clear c2 hN hu hq hn
      rcases hn012 with rfl | rfl | rfl
      · go_enter Tryf.func4, Tryf.ntmps4
        go_wp2_with (first
          | (go_at_call 15; refine (HL.out _).mono ?_; rintro e w3 ⟨rfl, hb3⟩)
          | (go_at_call 19; refine (HA.out _).mono ?_; rintro e w2 ⟨rfl, hb2⟩; have hb32 := hb3.trans (hb2.mono hb3.size))
          | (go_at_call 21; refine (HE.out _ hb32).mono ?_; rintro e w4 ⟨b, t, hub, rfl, hb4⟩; have hb34 := hb32.trans (hb4.mono hb32.size); clear hub)
          | (go_at_call 22; refine (HU.out _).mono ?_; rintro e w5 ⟨b5, t5, rfl, hn5, hs5, hb5⟩; obtain ⟨rfl, h5⟩ := hs5 _ HUU.out; obtain rfl := ext_bytes h5; have hb35 := hb34.trans (hb5.mono hb34.size); clear hn5 hs5 h5)
          | (go_at_call 18; first | (refine (HS.out w5).mono ?_; rintro e w6 ⟨rfl, hb6⟩; have hb36 := hb35.trans (hb6.mono hb35.size)) | (refine (HS.out w6).mono ?_; rintro e w7 ⟨rfl, hb7⟩; have hb37 := hb36.trans (hb7.mono hb36.size))))
        all_goals (go_ret; first | exact ⟨rfl, hb37⟩ | exact ⟨rfl, hb36⟩ | exact ⟨rfl, hb32⟩)
      · have HF1 := Lib.hid (name_fine HNN.out)
        go_enter Tryf.func4, Tryf.ntmps4
        go_wp2_with (first
          | (go_at_call 15; refine (HL.out _).mono ?_; rintro e w3 ⟨rfl, hb3⟩)
          | (go_at_call 19; refine (HA.out _).mono ?_; rintro e w2 ⟨rfl, hb2⟩; have hb32 := hb3.trans (hb2.mono hb3.size))
          | (go_at_call 21; refine (HE.out _ hb32).mono ?_; rintro e w4 ⟨b, t, hub, rfl, hb4⟩; have hb34 := hb32.trans (hb4.mono hb32.size); obtain rfl : b = true := (hub.2.1 _ HUU.out).2 HF1.out.2.1; obtain rfl : t = q := ext_bytes (Option.some.inj ((hub.2.2 rfl).symm.trans HUU.out)); clear hub)
          | (go_at_call 22; refine (HU.out _).mono ?_; rintro e w5 ⟨b5, t5, rfl, hn5, hs5, hb5⟩; obtain ⟨rfl, h5⟩ := hs5 _ HUU.out; obtain rfl := ext_bytes h5; have hb35 := hb34.trans (hb5.mono hb34.size); clear hn5 hs5 h5)
          | (go_at_call 18; first | (refine (HS.out w5).mono ?_; rintro e w6 ⟨rfl, hb6⟩; have hb36 := hb35.trans (hb6.mono hb35.size)) | (refine (HS.out w6).mono ?_; rintro e w7 ⟨rfl, hb7⟩; have hb37 := hb36.trans (hb7.mono hb36.size))))
        all_goals (go_ret; first | exact ⟨rfl, hb37⟩ | exact ⟨rfl, hb32⟩ | exact ⟨ret_bool (by simp), hb37⟩)
      · go_enter Tryf.func4, Tryf.ntmps4
        go_wp2_with (first
          | (go_at_call 15; refine (HL.out _).mono ?_; rintro e w3 ⟨rfl, hb3⟩)
          | (go_at_call 19; refine (HA.out _).mono ?_; rintro e w2 ⟨rfl, hb2⟩; have hb32 := hb3.trans (hb2.mono hb3.size))
          | (go_at_call 21; refine (HE.out _ hb32).mono ?_; rintro e w4 ⟨b, t, hub, rfl, hb4⟩; have hb34 := hb32.trans (hb4.mono hb32.size); obtain rfl : b = false := Bool.eq_false_iff.2 fun h => name_wrong HNN.out HFI.out.1 HFI.out.2 ((hub.2.1 _ HUU.out).1 h); clear hub)
          | (go_at_call 22; refine (HU.out _).mono ?_; rintro e w5 ⟨b5, t5, rfl, hn5, hs5, hb5⟩; obtain ⟨rfl, h5⟩ := hs5 _ HUU.out; obtain rfl := ext_bytes h5; have hb35 := hb34.trans (hb5.mono hb34.size); clear hn5 hs5 h5)
          | (go_at_call 18; refine (HS.out _).mono ?_; rintro e w6 ⟨rfl, hb6⟩; have hb36 := hb35.trans (hb6.mono hb35.size)))
        all_goals (go_ret; first | exact ⟨rfl, hb36⟩ | exact ⟨rfl, hb32⟩ | exact ⟨ret_bool (by simp), hb36⟩)

end Go.Proofs.YtpbebckhemnooaaFmt.PS
