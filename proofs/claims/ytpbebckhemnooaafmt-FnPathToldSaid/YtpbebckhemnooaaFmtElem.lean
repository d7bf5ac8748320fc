/- module.checkElem at each kind, joined; the conditions: the element's size, that the tape answers fmt's stop, where the names of Windows lie, what strings.EqualFold tells of them, and, of a file's element beyond ASCII, unicode.IsLetter. -/
import Derived.Test.YtpbebckhemnooaaFmtElem0
import Derived.Test.YtpbebckhemnooaaFmtElem1
import Derived.Test.YtpbebckhemnooaaFmtElem2
namespace Go.Proofs.YtpbebckhemnooaaFmt.PS
open Go.RowKit Go.Proofs.YtpbebckhemnooaaFmtW.PrintWords Go.Proofs.YtpbebckhemnooaaFmtW.PrintLast Go.Proofs.YtpbebckhemnooaaFmtW.PrintMore
set_option linter.unusedVariables false
set_option linter.unusedSimpArgs false

/-- strings.EqualFold of the names and any text. -/
def FoldAll (w : World) : Prop := ∀ t : ByteArray, t.size ≤ 1099511627776 → FoldOK w t

set_option maxHeartbeats 1600000 in
theorem elem0_lead (s : ByteArray) (hs : s.size ≤ 1099511627776) (w : World) (h0 : 0 < s.size) (h1 : dots s.data.toList ≠ s.size) (h2 : gb s 0 = 46) :
    Calls Tryf.prog 53 #[.string s, .int .i64 0] w (ElemPost w 0 s.data.toList) := by
  have a1 : ¬ s.toList = [] := by rw [Lib.toList_data]; exact data_ne_nil h0
  have a2 : (s.toList == []) = false := by simpa using a1
  have a3 : ((dots s.data.toList : Int) == (s.size : Int)) = false := by simp; omega
  have a4 : (gb s 0 == 46) = true := by simpa using h2
  have hgb := get_gb s
  have H2 := Lib.hid h2
  clear h1 h2
  go_enter Tryf.func53, Tryf.ntmps53
  go_wp2_with (first
    | (go_at_call 72; refine (zzCount_dot s hs _).mono ?_; rintro e w5 ⟨rfl, rfl⟩)
    | (go_at_call 55; refine (errorf_none _ (by simp) _).mono ?_; rintro e w9 ⟨a9, t9, rfl, hc9, hb9⟩))
  all_goals (go_ret; exact post_no (fun _ h => h.2.2.1 ⟨H2.out, rfl⟩) ⟨a9, t9, rfl, hc9, hb9⟩)

theorem elem_any (K : Int) (hK : K = 0 ∨ K = 1 ∨ K = 2) (F : Stop.Interp) (s : ByteArray) (hs : s.size ≤ 1099511627776) (w : World) (hF : F.answers w.tape) (hN : NamesIn w)
    (hX : K = 2 → asc s.data.toList ∨ (LetterOK w ∧ FoldAll w)) :
    Calls Tryf.prog 53 #[.string s, .int .i64 K] w (ElemPost w K s.data.toList) := by
  by_cases h0 : s.size = 0
  · rcases hK with rfl | rfl | rfl
    · exact elem0_empty s w h0
    · exact elem1_empty s w h0
    · exact elem2_empty s w h0
  have h0' : 0 < s.size := by omega
  by_cases h1 : dots s.data.toList = s.size
  · rcases hK with rfl | rfl | rfl
    · exact elem0_dots F s hs w hF h0' h1
    · exact elem1_dots F s hs w hF h0' h1
    · exact elem2_dots F s hs w hF h0' h1
  by_cases h2 : gb s (s.size - 1) = 46
  · rcases hK with rfl | rfl | rfl
    · exact elem0_last F s hs w hF h0' h1 h2
    · exact elem1_last F s hs w hF h0' h1 h2
    · exact elem2_last F s hs w hF h0' h1 h2
  rcases hK with rfl | rfl | rfl
  · by_cases h3 : gb s 0 = 46
    · exact elem0_lead s hs w h0' h1 h3
    · exact elem0_main F s hs w hF hN h0' h1 h2 h3
  · exact elem1_main F s hs w hF hN h0' h1 h2
  · rcases hX rfl with h | h
    · exact elem2_main F s hs w hF hN (fun t ht => FoldOK.ascii w t (by rw [ht]; exact fun c hc => h c (shortL_sub _ c hc))) (.inl h) h0' h1 h2
    · exact elem2_main F s hs w hF hN (fun t ht => h.2 t (by have := shortL_len s.data.toList; rw [← ht, len_size, len_size] at this; omega)) (.inr h.1) h0' h1 h2

end Go.Proofs.YtpbebckhemnooaaFmt.PS
