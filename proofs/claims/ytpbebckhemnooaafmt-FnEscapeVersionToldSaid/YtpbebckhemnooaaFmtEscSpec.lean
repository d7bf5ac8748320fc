/- spec.Escape and spec.Unescape: what they answer of a text; the condition: the text's size. -/
import Derived.Test.YtpbebckhemnooaaFmtEscape
import Derived.Test.YtpbebckhemnooaaFmtLawBase
namespace Go.Proofs.YtpbebckhemnooaaFmt.PS
open Go.RowKit Go.Proofs.YtpbebckhemnooaaFmtW.PrintWords Go.Proofs.YtpbebckhemnooaaFmtW.PrintLast Go.Proofs.YtpbebckhemnooaaFmtW.PrintMore
set_option linter.unusedVariables false
set_option linter.unusedSimpArgs false

set_option maxHeartbeats 3200000 in
theorem escape_at (s : ByteArray) (hs : s.size ≤ 1099511627776) (w : World) :
    Calls Tryf.prog 20 #[.string s] w fun e w' => ∃ t : ByteArray, e = .returned (.string t) ∧ t.data.toList = escL s.data.toList ∧ Below w.heap.size w w' := by
  have hgb := get_gb s
  have hone := fun (W : World) (x : Int) => one_string (P := Tryf.prog) under_bs under_u8 under_str W x 5
  go_enter Tryf.func20, Tryf.ntmps20
  go_wp2
  go_loopw [3, 7] (fun v i wr => ∃ (k : Nat) (t : ByteArray), k ≤ s.size ∧ i = .int .i64 k ∧ v = .string t ∧ t.size ≤ 2 * k ∧ Hid (t.data.toList = escL (s.data.toList.take k)) ∧ Hid (Below w.heap.size w wr)) (fun _ i _ => s.size - (intOf i).toNat)
  case atStart => exact ⟨0, ⟨#[]⟩, Nat.zero_le _, rfl, rfl, Nat.zero_le _, Lib.hid rfl, Lib.hid (Below.refl _ _)⟩
  case round =>
    obtain ⟨k, t, hk, rfl, rfl, ht2, hl, hB⟩ := hrel
    by_cases hlt : k < s.size
    · obtain ⟨c, ht, hdr, hgc, hget⟩ := take_succ_gb s hlt
      have hx := cut_one s hdr
      have hx2 : (s.extract k (k + 1)).data.toList = [c] := by rw [← Lib.toList_data]; exact hx
      have hxs : (s.extract k (k + 1)).size = 1 := by rw [← len_size, hx2]; rfl
      have HT := Lib.hid ht
      have HG := Lib.hid hgc
      have hlo := gb_lo s k
      have hhi := gb_hi s k
      clear ht hdr hget hgc hx
      by_cases hgr : 65 ≤ gb s k ∧ gb s k ≤ 90
      · obtain ⟨g1, g2⟩ := hgr
        have hc : grC c = true := (grC_int c).2 (by have := HG.out; omega)
        have hE : Hid (escL (s.data.toList.take (k + 1)) = escL (s.data.toList.take k) ++ [33, c + 32]) := Lib.hid (by rw [HT.out, esc_app]; simp [escL, escC, hc])
        have hn := low_nat hc
        have HN := Lib.hid hn
        have hc1 := fun (x : Int) (W : World) => add_run Tryf.prog ⟨#[33]⟩ (strOfNums [x]) (by rw [str_one_size]; decide) W
        have hz : ∀ x, ((⟨#[33]⟩ : ByteArray) ++ strOfNums [x]).size = 2 := fun x => by rw [ByteArray.size_append, str_one_size]; rfl
        have hc2 := fun (x : Int) (W : World) => add_run Tryf.prog t (⟨#[33]⟩ ++ strOfNums [x]) (by rw [hz]; omega) W
        have HZ := Lib.hid hz
        clear hc hn hz hx2 hxs
        go_wp2
        go_roundw
        case rel => exact ⟨k + 1, _, by omega, by go_num, rfl, by rw [ByteArray.size_append, HZ.out]; omega, Lib.hid (by
          rw [append_list, append_list, hl.out, hE.out, str_one (c := c + 32) (by have := HN.out; have := HG.out; omega)]; rfl), Lib.hid (hB.out.alloc hB.out.size _)⟩
        case measure => simp [intOf]; omega
      · have hc : grC c = false := Bool.eq_false_iff.2 fun h => hgr (by have h2 := (grC_int c).1 h; have := HG.out; omega)
        have hE : Hid (escL (s.data.toList.take (k + 1)) = escL (s.data.toList.take k) ++ [c]) := Lib.hid (by rw [HT.out, esc_app]; simp [escL, escC, hc])
        have HGR := Lib.hid hgr
        obtain ⟨x, hxe⟩ : ∃ x, s.extract k (k + 1) = x := ⟨_, rfl⟩
        rw [hxe] at hx2 hxs
        have hc1 := fun (W : World) => add_run Tryf.prog t x (by omega) W
        have HX := Lib.hid hx2
        have HXS := Lib.hid hxs
        clear hc hgr hx2 hxs
        by_cases g1 : 65 ≤ gb s k
        · have g2 : ¬ gb s k ≤ 90 := fun h => HGR.out ⟨g1, h⟩
          go_wp2
          go_roundw
          case rel => exact ⟨k + 1, _, by omega, by go_num, rfl, by rw [ByteArray.size_append, HXS.out]; omega, Lib.hid (by rw [append_list, hl.out, hE.out, HX.out]), hB⟩
          case measure => simp [intOf]; omega
        · go_wp2
          go_roundw
          case rel => exact ⟨k + 1, _, by omega, by go_num, rfl, by rw [ByteArray.size_append, HXS.out]; omega, Lib.hid (by rw [append_list, hl.out, hE.out, HX.out]), hB⟩
          case measure => simp [intOf]; omega
    · have HL := Lib.hid (len_size s)
      go_wp2
      go_ret
      exact ⟨t, rfl, by rw [hl.out, List.take_of_length_le (by rw [HL.out]; omega)], hB.out⟩

def UnSpec (w : World) (l : List UInt8) (e : Ending) (w' : World) : Prop := ∃ (b : Bool) (t : ByteArray), e = .returned (.tuple #[.string t, .bool b]) ∧ (unescL false l = none → b = false) ∧ (∀ r, unescL false l = some r → b = true ∧ t.data.toList = r) ∧ Below w.heap.size w w'
set_option maxHeartbeats 3200000 in
theorem unescape_at (s : ByteArray) (hs : s.size ≤ 1099511627776) (w : World) :
    Calls Tryf.prog 22 #[.string s] w (UnSpec w s.data.toList) := by
  have hgb := get_gb s
  have hone := fun (W : World) (x : Int) => one_string (P := Tryf.prog) under_bs under_u8 under_str W x 5
  go_enter Tryf.func22, Tryf.ntmps22
  go_wp2
  go_loopw [4, 5] (fun v i wr => ∃ (k : Nat) (t : ByteArray), k ≤ s.size ∧ i = .int .i64 k ∧ v = .string t ∧ t.size ≤ k ∧ Hid ((unescL false (s.data.toList.drop k)).map (t.data.toList ++ ·) = unescL false s.data.toList) ∧ Hid (Below w.heap.size w wr)) (fun _ i _ => s.size - (intOf i).toNat)
  case atStart => exact ⟨0, ⟨#[]⟩, Nat.zero_le _, rfl, rfl, Nat.zero_le _, Lib.hid (by simp), Lib.hid (Below.refl _ _)⟩
  case round =>
    obtain ⟨k, t, hk, rfl, rfl, ht2, hl, hB⟩ := hrel
    by_cases hlt : k < s.size
    · obtain ⟨c, -, hdr, hgc, hget⟩ := take_succ_gb s hlt
      have hx := cut_one s hdr
      have hx2 : (s.extract k (k + 1)).data.toList = [c] := by rw [← Lib.toList_data]; exact hx
      have hxs : (s.extract k (k + 1)).size = 1 := by rw [← len_size, hx2]; rfl
      rw [hdr] at hl
      have HG := Lib.hid hgc
      have hlo := gb_lo s k
      have hhi := gb_hi s k
      clear hdr hget hgc hx
      by_cases hgr : grC c = true
      · have hr := (grC_int c).1 hgr
        have g1 : 65 ≤ gb s k := by have := HG.out; omega
        have g2 : gb s k ≤ 90 := by have := HG.out; omega
        have hno : Hid (unescL false s.data.toList = none) := Lib.hid (by
          have h33 : ¬ c.toNat = 33 := by have := HG.out; omega
          rw [← hl.out]; simp [unescL, h33, hgr])
        clear hr hgr hx2 hxs
        go_wp2
        all_goals (go_ret2; exact ⟨false, _, rfl, fun _ => rfl, fun r hr => (by rw [hno.out] at hr; cases hr), hB.out⟩)
      · have HGR : Hid (¬ (65 ≤ gb s k ∧ gb s k ≤ 90)) := Lib.hid fun h => hgr ((grC_int c).2 (by have := HG.out; omega))
        by_cases h128 : 128 ≤ gb s k
        · have hno : Hid (unescL false s.data.toList = none) := Lib.hid (by
            have h33 : ¬ c.toNat = 33 := by have := HG.out; omega
            have h128' : 128 ≤ c.toNat := by have := HG.out; omega
            rw [← hl.out]; simp [unescL, h33, h128'])
          have g1 : 65 ≤ gb s k := by omega
          have g2 : ¬ gb s k ≤ 90 := by omega
          clear hgr hx2 hxs
          go_wp2
          all_goals (go_ret2; exact ⟨false, _, rfl, fun _ => rfl, fun r hr => (by rw [hno.out] at hr; cases hr), hB.out⟩)
        · by_cases h33 : c.toNat = 33
          · have g0 : gb s k = 33 := by have := HG.out; omega
            have gb0 : (gb s k == 33) = true := by simp [g0]
            have gb0' : (gb s k != 33) = false := by simp [g0]
            have g1 : ¬ 65 ≤ gb s k := by omega
            by_cases hlt2 : k + 1 < s.size
            · obtain ⟨d, -, hdr2, hgd, -⟩ := take_succ_gb s hlt2
              rw [hdr2] at hl
              have HD := Lib.hid hgd
              have hlo2 := gb_lo s (k + 1)
              have hhi2 := gb_hi s (k + 1)
              by_cases hsm : smC d = true
              · have hr := (smC_int d).1 hsm
                have q1 : ¬ gb s (k + 1) < 97 := by have := HD.out; omega
                have q2 : ¬ gb s (k + 1) > 122 := by have := HD.out; omega
                have q2' : gb s (k + 1) ≤ 122 := by have := HD.out; omega
                have HN := Lib.hid (high_nat hsm)
                have hl2 : Hid ((unescL false (s.data.toList.drop (k + 1 + 1))).map ((t.data.toList ++ [d - 32]) ++ ·) = unescL false s.data.toList) := Lib.hid (by
                  rw [← unesc_step, ← hl.out]
                  simp [unescL, h33, hsm])
                have hc1 := fun (x : Int) (W : World) => add_run Tryf.prog t (strOfNums [x]) (by rw [str_one_size]; omega) W
                have hq : Hid ((97 : Int) ≤ gb s (k + 1)) := Lib.hid (by omega)
                clear hgr hx2 hxs h33 hdr2 hgd hsm hr g0
                go_wp2
                go_roundw
                case rel => exact ⟨k + 1 + 1, _, by omega, by go_num, rfl, by rw [ByteArray.size_append, str_one_size]; omega, Lib.hid (by
                  rw [append_list, str_one (c := d - 32) (by have := HN.out; have := HD.out; have := hq.out; omega)]
                  exact hl2.out), Lib.hid (hB.out.alloc hB.out.size _)⟩
                case measure => simp [intOf]; omega
              · have hno : Hid (unescL false s.data.toList = none) := Lib.hid (by rw [← hl.out]; simp [unescL, h33, hsm])
                have HS : Hid (¬ (97 ≤ gb s (k + 1) ∧ gb s (k + 1) ≤ 122)) := Lib.hid fun h => hsm ((smC_int d).2 (by have := HD.out; omega))
                clear hgr hx2 hxs h33 hdr2 hgd hsm g0
                by_cases q1 : gb s (k + 1) < 97
                · go_wp2
                  all_goals (go_ret2; exact ⟨false, _, rfl, fun _ => rfl, fun r hr => (by rw [hno.out] at hr; cases hr), hB.out⟩)
                · have q2 : gb s (k + 1) > 122 := by have := HS.out; omega
                  go_wp2
                  all_goals (go_ret2; exact ⟨false, _, rfl, fun _ => rfl, fun r hr => (by rw [hno.out] at hr; cases hr), hB.out⟩)
            · have hend : s.data.toList.drop (k + 1) = [] := List.drop_eq_nil_of_le (by rw [len_size]; omega)
              have hno : Hid (unescL false s.data.toList = none) := Lib.hid (by rw [← hl.out, hend]; simp [unescL, h33])
              have hks : k + 1 = s.size := by omega
              have hki : ((k : Int) + 1 == (s.size : Int)) = true := by simp; omega
              clear hgr hx2 hxs h33 hend g0 hks
              go_wp2
              all_goals (go_ret2; exact ⟨false, _, rfl, fun _ => rfl, fun r hr => (by rw [hno.out] at hr; cases hr), hB.out⟩)
          · have gb0 : (gb s k == 33) = false := by have := HG.out; simp; omega
            have gb0' : (gb s k != 33) = true := by have := HG.out; simp; omega
            have hl2 : Hid ((unescL false (s.data.toList.drop (k + 1))).map ((t.data.toList ++ [c]) ++ ·) = unescL false s.data.toList) := Lib.hid (by
              have h128' : ¬ 128 ≤ c.toNat := by have := HG.out; omega
              rw [← unesc_step, ← hl.out]
              simp [unescL, h33, hgr, h128'])
            obtain ⟨x, hxe⟩ : ∃ x, s.extract k (k + 1) = x := ⟨_, rfl⟩
            rw [hxe] at hx2 hxs
            have hc1 := fun (W : World) => add_run Tryf.prog t x (by omega) W
            have HX := Lib.hid hx2
            have HXS := Lib.hid hxs
            clear hgr hx2 hxs h33
            by_cases g1 : 65 ≤ gb s k
            · have g2 : ¬ gb s k ≤ 90 := fun h => HGR.out ⟨g1, h⟩
              go_wp2
              go_roundw
              case rel => exact ⟨k + 1, _, by omega, by go_num, rfl, by rw [ByteArray.size_append, HXS.out]; omega, Lib.hid (by rw [append_list, HX.out]; exact hl2.out), hB⟩
              case measure => simp [intOf]; omega
            · go_wp2
              go_roundw
              case rel => exact ⟨k + 1, _, by omega, by go_num, rfl, by rw [ByteArray.size_append, HXS.out]; omega, Lib.hid (by rw [append_list, HX.out]; exact hl2.out), hB⟩
              case measure => simp [intOf]; omega
    · have hend : s.data.toList.drop k = [] := List.drop_eq_nil_of_le (by rw [len_size]; omega)
      rw [hend] at hl
      have hr : Hid (unescL false s.data.toList = some t.data.toList) := Lib.hid (by rw [← hl.out]; simp [unescL])
      clear hend
      go_wp2
      go_ret2
      exact ⟨true, t, rfl, fun h => (by rw [hr.out] at h; cases h), fun r hh => ⟨rfl, by rw [hr.out] at hh; exact Option.some.inj hh⟩, hB.out⟩

end Go.Proofs.YtpbebckhemnooaaFmt.PS
