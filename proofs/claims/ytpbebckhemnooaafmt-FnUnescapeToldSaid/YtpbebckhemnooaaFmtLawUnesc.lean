/- laws.FnUnescape returns true; the conditions: the tape answers fmt's stop, where the names of Windows lie, that utf8.ValidString answers. -/
import Derived.Test.YtpbebckhemnooaaFmtLawImp
import Derived.Test.YtpbebckhemnooaaFmtEscSpec
import Derived.Test.YtpbebckhemnooaaFmtEscPath
import Derived.Test.YtpbebckhemnooaaFmtLawPath
namespace Go.Proofs.YtpbebckhemnooaaFmt.PS
open Go.RowKit Go.Proofs.YtpbebckhemnooaaFmtW.PrintWords Go.Proofs.YtpbebckhemnooaaFmtW.PrintLast Go.Proofs.YtpbebckhemnooaaFmtW.PrintMore Go.Proofs.YtpbebckhemnooaaFmt.PT
set_option linter.unusedVariables false
set_option linter.unusedSimpArgs false

set_option maxHeartbeats 3200000 in
set_option maxRecDepth 100000 in
theorem law_unesc (F : Stop.Interp) (s : ByteArray) (w : World) (hF : F.answers w.tape) (hN : NamesIn w) (hv : ∀ s : ByteArray, s.size ≤ 100000 → ∀ W, Below w.heap.size w W → ValidOK W s) :
    Calls Tryf.prog 12 #[.string s] w (Yes w) := by
  by_cases c1 : (s.size : Int) > 2147483647
  · have h1 : (s.size : Int) > 2147483647 := c1
    go_enter Tryf.func12, Tryf.ntmps12
    go_wp2_with fail
    all_goals (go_ret; exact ⟨rfl, Below.refl _ _⟩)
  have hs : s.size ≤ 1099511627776 := by omega
  by_cases c2 : (s.size : Int) > 500
  · have HL := Lib.hid fun W => long_at s true (decide_eq_true c2) W
    have h1 : ¬ (s.size : Int) > 2147483647 := c1
    clear c2 hv
    go_enter Tryf.func12, Tryf.ntmps12
    go_wp2_with (go_at_call 15; refine (HL.out _).mono ?_; rintro e w3 ⟨rfl, hb3⟩)
    all_goals (go_ret; exact ⟨rfl, hb3⟩)
  · have HL := Lib.hid fun W => long_at s false (decide_eq_false c2) W
    have HE := Lib.hid fun (W : World) (hb : Below w.heap.size w W) => implUnescape_any F s hs W (below_tape hF hb) (hN.below hb) (fun t ht W2 hb2 => hv t (by omega) W2 (hb.trans (hb2.mono hb.size)))
    have HU := Lib.hid fun W => unescape_at s hs W
    have h1 : ¬ (s.size : Int) > 2147483647 := c1
    cases hu : unescL false s.data.toList with
    | none =>
      have HUU := Lib.hid hu
      clear c2 hv hN hu
      go_enter Tryf.func12, Tryf.ntmps12
      go_wp2_with (first
        | (go_at_call 15; refine (HL.out _).mono ?_; rintro e w3 ⟨rfl, hb3⟩)
        | (go_at_call 33; refine (HE.out _ hb3).mono ?_; rintro e w4 ⟨b, t, hub, rfl, hb4⟩; obtain rfl := hub.1 HUU.out; have hb34 := hb3.trans (hb4.mono hb3.size); clear hub)
        | (go_at_call 22; refine (HU.out _).mono ?_; rintro e w5 ⟨b5, t5, rfl, hn5, hs5, hb5⟩; obtain rfl := hn5 HUU.out; have hb35 := hb34.trans (hb5.mono hb34.size); clear hn5 hs5))
      all_goals (go_ret; first | exact ⟨rfl, hb35⟩ | exact ⟨ret_bool (by simp), hb35⟩)
    | some r =>
      obtain ⟨q, hq⟩ : ∃ q : ByteArray, q.data.toList = r := ⟨⟨r.toArray⟩, by simp⟩
      have hqs : q.size ≤ s.size := by rw [← len_size, ← len_size, hq]; exact unesc_len hu
      have HS := Lib.hid fun W => path_at q (by omega) W
      have HX := Lib.hid fun W => escape_at q (by omega) W
      have HES := Lib.hid (show escL q.data.toList = s.data.toList by rw [hq]; have := esc_unesc hu; simpa using this)
      rw [← hq] at hu
      have HUU := Lib.hid hu
      obtain ⟨n, hn⟩ : ∃ n, modPathI q.data.toList = n := ⟨_, rfl⟩
      have HNN := Lib.hid hn
      have hn012 := modPathI_range q.data.toList
      rw [hn] at HS hn012
      clear c2 hv hN hu hq hn
      rcases hn012 with rfl | rfl | rfl
      · go_enter Tryf.func12, Tryf.ntmps12
        go_wp2_with (first
          | (go_at_call 15; refine (HL.out _).mono ?_; rintro e w3 ⟨rfl, hb3⟩)
          | (go_at_call 33; refine (HE.out _ hb3).mono ?_; rintro e w4 ⟨b, t, hub, rfl, hb4⟩; have hb34 := hb3.trans (hb4.mono hb3.size); clear hub)
          | (go_at_call 22; refine (HU.out _).mono ?_; rintro e w5 ⟨b5, t5, rfl, hn5, hs5, hb5⟩; obtain ⟨rfl, h5⟩ := hs5 _ HUU.out; obtain rfl := ext_bytes h5; have hb35 := hb34.trans (hb5.mono hb34.size); clear hn5 hs5 h5)
          | (go_at_call 30; first | (refine (HS.out w5).mono ?_; rintro e w6 ⟨rfl, hb6⟩; have hb36 := hb35.trans (hb6.mono hb35.size)) | (refine (HS.out w6).mono ?_; rintro e w7 ⟨rfl, hb7⟩; have hb37 := hb36.trans (hb7.mono hb36.size))))
        all_goals (go_ret; first | exact ⟨rfl, hb37⟩ | exact ⟨rfl, hb36⟩)
      · have HF1 := Lib.hid (mod_fine HNN.out)
        go_enter Tryf.func12, Tryf.ntmps12
        go_wp2_with (first
          | (go_at_call 15; refine (HL.out _).mono ?_; rintro e w3 ⟨rfl, hb3⟩)
          | (go_at_call 33; refine (HE.out _ hb3).mono ?_; rintro e w4 ⟨b, t, hub, rfl, hb4⟩; have hb34 := hb3.trans (hb4.mono hb3.size); obtain rfl : b = true := ((hub.2.1 _ HUU.out).1 HF1.out.1).2 HF1.out.2.1; obtain rfl : t = q := ext_bytes (Option.some.inj ((hub.2.2 rfl).symm.trans HUU.out)); clear hub)
          | (go_at_call 22; refine (HU.out _).mono ?_; rintro e w5 ⟨b5, t5, rfl, hn5, hs5, hb5⟩; obtain ⟨rfl, h5⟩ := hs5 _ HUU.out; obtain rfl := ext_bytes h5; have hb35 := hb34.trans (hb5.mono hb34.size); clear hn5 hs5 h5)
          | (go_at_call 30; first | (refine (HS.out w5).mono ?_; rintro e w6 ⟨rfl, hb6⟩; have hb36 := hb35.trans (hb6.mono hb35.size)) | (refine (HS.out w6).mono ?_; rintro e w7 ⟨rfl, hb7⟩; have hb37 := hb36.trans (hb7.mono hb36.size)))
          | (go_at_call 20; refine (HX.out _).mono ?_; rintro e w8 ⟨t8, rfl, ht8, hb8⟩; have hb38 := hb37.trans (hb8.mono hb37.size); obtain rfl : t8 = s := ext_bytes (ht8.trans HES.out)))
        all_goals (go_ret; first | exact ⟨rfl, hb38⟩ | exact ⟨ret_bool (by simp), hb38⟩)
      · go_enter Tryf.func12, Tryf.ntmps12
        go_wp2_with (first
          | (go_at_call 15; refine (HL.out _).mono ?_; rintro e w3 ⟨rfl, hb3⟩)
          | (go_at_call 33; refine (HE.out _ hb3).mono ?_; rintro e w4 ⟨b, t, hub, rfl, hb4⟩; have hb34 := hb3.trans (hb4.mono hb3.size); obtain rfl : b = false := told_wrong (path_law (hub.2.1 _ HUU.out)) HNN.out; clear hub)
          | (go_at_call 22; refine (HU.out _).mono ?_; rintro e w5 ⟨b5, t5, rfl, hn5, hs5, hb5⟩; obtain ⟨rfl, h5⟩ := hs5 _ HUU.out; obtain rfl := ext_bytes h5; have hb35 := hb34.trans (hb5.mono hb34.size); clear hn5 hs5 h5)
          | (go_at_call 30; refine (HS.out _).mono ?_; rintro e w6 ⟨rfl, hb6⟩; have hb36 := hb35.trans (hb6.mono hb35.size)))
        all_goals (go_ret; first | exact ⟨rfl, hb36⟩ | exact ⟨ret_bool (by simp), hb36⟩)

end Go.Proofs.YtpbebckhemnooaaFmt.PS
