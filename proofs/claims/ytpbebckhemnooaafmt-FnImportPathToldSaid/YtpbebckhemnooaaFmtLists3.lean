/- What spec.element, path, ImportPath, FilePath and Name compute, on lists of bytes; the condition is the text's size. -/
import Derived.Test.YtpbebckhemnooaaFmtLists2
namespace Go.Proofs.YtpbebckhemnooaaFmt.PS
open Go.RowKit Go.Proofs.YtpbebckhemnooaaFmtW.PrintWords Go.Proofs.YtpbebckhemnooaaFmtW.PrintLast Go.Proofs.YtpbebckhemnooaaFmtW.PrintMore Go.Proofs.YtpbebckhemnooaaFmt.PT
set_option linter.unusedVariables false
set_option linter.unusedSimpArgs false

def othersE (file : Bool) : List UInt8 := if file = true then [32, 33, 35, 36, 37, 38, 40, 41, 43, 44, 45, 46, 61, 64, 91, 93, 94, 95, 123, 125, 126] else [45, 46, 95, 126]
def elem3I (l : List UInt8) (st : Int) : Int := if ddB l = true then joinI st 0 else if ascB l = false ∨ lb l (l.length - 1) = 32 ∨ lb l 0 = 32 then joinI st 0 else st
def elem2I (file : Bool) (l : List UInt8) (st : Int) : Int :=
  if file = false ∧ hasB l 46 = true ∧ numB l = true then joinI st 0
  else if shortB l = true then (if file = true then joinI st 0 else 2)
  else if ascB l = false ∧ file = false then 2 else elem3I l st
def elemI (file : Bool) (l : List UInt8) : Int :=
  if l = [] ∨ lb l (l.length - 1) = 46 ∨ (allB true true (othersE file) l = false ∧ ascB l = true) then 2 else elem2I file l (resL l)

theorem elem_l0_from (s : ByteArray) (st : Int) (hs : s.size ≤ 1099511627776) (h1 : 0 < s.size) (d : Nat) : ∀ i : Nat, 1 ≤ i → i + d = s.size → Ev (fun k => spec_element.l0 k s st (i : Int)) (if ddB (s.data.toList.drop (i - 1)) = true then joinI st 0 else if ascB s.data.toList = false ∨ lb s.data.toList (s.data.toList.length - 1) = 32 ∨ lb s.data.toList 0 = 32 then joinI st 0 else st) := by
  induction d with
  | zero =>
    intro i h0 hi
    have : ddB (s.data.toList.drop (i - 1)) = false := by
      have hl : (s.data.toList.drop (i - 1)).length ≤ 1 := by rw [List.length_drop, len_size]; omega
      match hx : s.data.toList.drop (i - 1), hl with
      | [], _ => rfl
      | [x], _ => rfl
      | x :: y :: l, hl => simp at hl
    rw [this, len_size]
    obtain ⟨K1, e1⟩ := Ascii_ev s hs
    obtain ⟨K2, e2⟩ := join_ev st 0
    have b1 := bt_lb s (s.size - 1) (by omega)
    have b0 := bt_lb s 0 h1
    have b0' : bt s 0 = lb s.data.toList 0 := b0
    refine Ev.step ⟨K1 + K2, fun k hk => ?_⟩
    simp only [spec_element.l0, show ¬ ((i : Int) < (s.size : Int)) by omega, if_false, e1 k (by omega), e2 k (by omega), Option.bind_some, wrap_dn s.size (by omega) (by omega), show (0 : Int) ≤ ((s.size - 1 : Nat) : Int) by omega, show ((s.size - 1 : Nat) : Int) < (s.size : Int) by omega, show (0 : Int) < (s.size : Int) by omega, if_true, b1, b0']
    cases ascB s.data.toList <;> by_cases c1 : lb s.data.toList (s.size - 1) = 32 <;> by_cases c2 : lb s.data.toList 0 = 32 <;> simp [c1, c2]
  | succ d ih =>
    intro i h0 hi
    obtain ⟨x, y, h1, h2, h3, h4, h5⟩ := pair_at s h0 (by omega) ddP
    have ih' := ih (i + 1) (by omega) (by omega)
    rw [show i + 1 - 1 = i by omega] at ih'
    obtain ⟨K1, e1⟩ := ih'
    obtain ⟨K2, e2⟩ := join_ev st 0
    have e3 : ddB (s.data.toList.drop (i - 1)) = (ddP x y || ddB (s.data.toList.drop i)) := by rw [h1, h2]; rfl
    refine Ev.step ⟨K1 + K2, fun k hk => ?_⟩
    have hx : ((x.toNat : Int) = 46) ↔ x = 46 := byte_eq x 46 (by decide)
    have hy : ((y.toNat : Int) = 46) ↔ y = 46 := byte_eq y 46 (by decide)
    rw [e3]
    simp only [spec_element.l0, show (i : Int) < (s.size : Int) by omega, show (0 : Int) ≤ (i : Int) by omega, wrap_dn i (by omega) h0, wrap_up i (by omega), show (0 : Int) ≤ ((i - 1 : Nat) : Int) by omega, show ((i - 1 : Nat) : Int) < (s.size : Int) by omega, if_true, h3, h4, e1 k (by omega), e2 k (by omega), Option.bind_some, hx, hy, ddP]
    by_cases c1 : y = 46 <;> by_cases c2 : x = 46 <;> simp [c1, c2]
theorem elem_l0 (s : ByteArray) (st : Int) (hs : s.size ≤ 1099511627776) (h1 : 0 < s.size) : Ev (fun k => spec_element.l0 k s st 1) (elem3I s.data.toList st) :=
  elem_l0_from s st hs h1 (s.size - 1) 1 (Nat.le_refl _) (by omega)

theorem elem_j2 (s : ByteArray) (file b : Bool) (st : Int) (hs : s.size ≤ 1099511627776) (h1 : 0 < s.size) :
    Ev (fun k => spec_element.j2 k s file st b) (if b = true then joinI st 0 else if shortB s.data.toList = true then (if file = true then joinI st 0 else 2) else if ascB s.data.toList = false ∧ file = false then 2 else elem3I s.data.toList st) := by
  obtain ⟨K1, e1⟩ := Ascii_ev s hs
  obtain ⟨K2, e2⟩ := join_ev st 0
  obtain ⟨K3, e3⟩ := short_ev s hs
  obtain ⟨K4, e4⟩ := elem_l0 s st hs h1
  refine Ev.step ⟨K1 + K2 + K3 + K4 + 1, fun k hk => ?_⟩
  obtain ⟨k, rfl⟩ : ∃ m, k = m + 1 := ⟨k - 1, by omega⟩
  simp only [spec_element.j2, spec_element.j3, e1 (k + 1) (by omega), e2 (k + 1) (by omega), e3 (k + 1) (by omega), e4 k (by omega), Option.bind_some]
  cases b <;> cases file <;> cases shortB s.data.toList <;> cases ascB s.data.toList <;> simp

theorem elem_j1 (s : ByteArray) (file b : Bool) (hs : s.size ≤ 1099511627776) (h1 : b = false → 0 < s.size) :
    Ev (fun k => spec_element.j1 k s file b) (if b = true then 2 else elem2I file s.data.toList (resL s.data.toList)) := by
  cases b with
  | true =>
    refine Ev.step ?_
    simp only [spec_element.j1, if_true]
    exact Ev.now
  | false =>
    obtain ⟨K1, e1⟩ := reserved_ev s hs
    obtain ⟨K2, e2⟩ := In_ev s 46 hs
    obtain ⟨K3, e3⟩ := numbered_ev s hs
    obtain ⟨K4, e4⟩ := elem_j2 s file true (resL s.data.toList) hs (h1 rfl)
    obtain ⟨K5, e5⟩ := elem_j2 s file false (resL s.data.toList) hs (h1 rfl)
    refine Ev.step ⟨K1 + K2 + K3 + K4 + K5, fun k hk => ?_⟩
    have e4' := e4 k (by omega)
    have e5' := e5 k (by omega)
    simp only [spec_element.j1, e1 k (by omega), e2 k (by omega), e3 k (by omega), Option.bind_some, elem2I]
    cases file <;> cases hasB s.data.toList 46 <;> cases numB s.data.toList <;> simp_all

theorem element_ev (s : ByteArray) (file : Bool) (hs : s.size ≤ 1099511627776) : Ev (fun k => spec_element.f k s file) (elemI file s.data.toList) := by
  have key : ∀ o : ByteArray, o.data.toList = othersE file → o.size ≤ 1099511627776 → Ev (fun k => spec_element.j0 k s file o) (elemI file s.data.toList) := by
    intro o ho hos
    refine Ev.step ?_
    by_cases h0 : s.size = 0
    · have hn := data_eq_nil h0
      have hn2 : s.toList = [] := by rw [Lib.toList_data]; exact hn
      simp only [spec_element.j0, hn2, if_true]
      have := elem_j1 s file true hs (fun h => Bool.noConfusion h)
      simpa [elemI, hn] using this
    · have hn := data_ne_nil (s := s) (by omega)
      have hn2 : ¬ s.toList = [] := by rw [Lib.toList_data]; exact hn
      obtain ⟨K1, e1⟩ := All_ev s o true true hs hos
      obtain ⟨K2, e2⟩ := Ascii_ev s hs
      obtain ⟨K3, e3⟩ := elem_j1 s file true hs (fun h => Bool.noConfusion h)
      obtain ⟨K4, e4⟩ := elem_j1 s file false hs (by omega)
      have b1 := bt_lb s (s.size - 1) (by omega)
      refine ⟨K1 + K2 + K3 + K4, fun k hk => ?_⟩
      have e3' := e3 k (by omega)
      have e4' := e4 k (by omega)
      simp only [spec_element.j0, hn2, if_false, wrap_dn s.size (by omega) (by omega), show (0 : Int) ≤ ((s.size - 1 : Nat) : Int) by omega, show ((s.size - 1 : Nat) : Int) < (s.size : Int) by omega, if_true, b1, e1 k (by omega), e2 k (by omega), Option.bind_some, ho, elemI, hn, false_or, len_size]
      by_cases c : lb s.data.toList (s.size - 1) = 46 <;> cases allB true true (othersE file) s.data.toList <;> cases ascB s.data.toList <;> simp_all
  cases file with
  | true =>
    refine Ev.eq (key ⟨#[32, 33, 35, 36, 37, 38, 40, 41, 43, 44, 45, 46, 61, 64, 91, 93, 94, 95, 123, 125, 126]⟩ rfl (by decide)) fun k => ?_
    unfold spec_element.f
    rw [if_pos rfl]
  | false =>
    refine Ev.eq (key ⟨#[45, 46, 95, 126]⟩ rfl (by decide)) fun k => ?_
    unfold spec_element.f
    rw [if_neg (by decide)]

/-! ### path -/
def foldI (file : Bool) : Int → List (List UInt8) → Int
  | st, [] => st
  | st, e :: M => foldI file (joinI st (elemI file e)) M
def pathI (file : Bool) (l : List UInt8) : Int := if l ≠ [] ∧ lb l 0 = 45 then joinI (foldI file 1 (cutL 47 l)) 0 else foldI file 1 (cutL 47 l)
theorem path_l0 (s : ByteArray) (file : Bool) (hs : s.size ≤ 1099511627776) (L : List ByteArray) (hL : L.map (fun x => x.data.toList) = cutL 47 s.data.toList) (d : Nat) : ∀ (i : Nat) (st : Int), i + d = L.length →
    Ev (fun k => spec_path.l0 k s file st L (L.length : Int) (i : Int)) (if s.data.toList ≠ [] ∧ lb s.data.toList 0 = 45 then joinI (foldI file st ((cutL 47 s.data.toList).drop i)) 0 else foldI file st ((cutL 47 s.data.toList).drop i)) := by
  have hl := map_len hL
  induction d with
  | zero =>
    intro i st hi
    rw [List.drop_eq_nil_of_le (by omega)]
    obtain ⟨K2, e2⟩ := join_ev st 0
    refine Ev.step ⟨K2, fun k hk => ?_⟩
    by_cases h0 : s.size = 0
    · have hn := data_eq_nil h0
      simp only [spec_path.l0, show ¬ ((i : Int) < (L.length : Int)) by omega, if_false, show ¬ ((s.size : Int) > 0) by omega, hn, ne_eq, not_true, false_and, foldI]
    · have hn := data_ne_nil (s := s) (by omega)
      have b0 : bt s 0 = lb s.data.toList 0 := bt_lb s 0 (by omega)
      simp only [spec_path.l0, show ¬ ((i : Int) < (L.length : Int)) by omega, if_false, show ((s.size : Int) > 0) by omega, show (0 : Int) < (s.size : Int) by omega, if_true, b0, e2 k (by omega), Option.bind_some, hn, ne_eq, not_false_iff, true_and, foldI]
      split <;> rfl
  | succ d ih =>
    intro i st hi
    obtain ⟨t, e1, e2⟩ := map_get hL i (by omega)
    have hi2 : i < (cutL 47 s.data.toList).length := by omega
    have hm : t.data.toList ∈ cutL 47 s.data.toList := by rw [e2]; exact getD_mem hi2
    have ht := small_of (l := []) hs hm
    obtain ⟨K1, e3⟩ := element_ev t file ht
    obtain ⟨K2, e4⟩ := join_ev st (elemI file t.data.toList)
    obtain ⟨K3, e5⟩ := ih (i + 1) (joinI st (elemI file t.data.toList)) (by omega)
    refine Ev.step ⟨K1 + K2 + K3, fun k hk => ?_⟩
    obtain ⟨c1, c2⟩ := cut_len_le 47 s.data.toList
    rw [len_size] at c1
    have e5' := e5 k (by omega)
    simp only [spec_path.l0, show (i : Int) < (L.length : Int) by omega, show (0 : Int) ≤ (i : Int) by omega, if_true, e1, e3 k (by omega), e4 k (by omega), Option.bind_some, wrap_up i (by omega), e5']
    have hd : (cutL 47 s.data.toList).drop i = t.data.toList :: (cutL 47 s.data.toList).drop (i + 1) := by
      rw [List.drop_eq_getElem_cons hi2, e2, List.getD_eq_getElem?_getD, List.getElem?_eq_getElem hi2]
      rfl
    rw [hd]
    rfl
theorem path_ev (s : ByteArray) (file : Bool) (hs : s.size ≤ 1099511627776) : Ev (fun k => spec_path.f k s file) (pathI file s.data.toList) := by
  obtain ⟨L, h1, h2⟩ := Cut_ev s 47 hs
  unfold spec_path.f
  refine Ev.bind h1 ?_
  exact path_l0 s file hs L h2 L.length 0 1 (by omega)

def importI (l : List UInt8) : Int := if hasB l 43 = true then 0 else pathI false l
theorem ImportPath_ev (s : ByteArray) (hs : s.size ≤ 1099511627776) : Ev (fun k => spec_ImportPath.f k s) (importI s.data.toList) := by
  unfold spec_ImportPath.f importI
  refine Ev.bind (In_ev s 43 hs) ?_
  cases hasB s.data.toList 43 with
  | true => exact Ev.now
  | false => exact Ev.bind (path_ev s false hs) Ev.now
theorem FilePath_ev (s : ByteArray) (hs : s.size ≤ 1099511627776) : Ev (fun k => spec_FilePath.f k s) (pathI true s.data.toList) := by
  unfold spec_FilePath.f
  exact Ev.bind (path_ev s true hs) Ev.now
def nameI (l : List UInt8) : Int := if hasB l 33 = true then 2 else if hasB l 47 = true then 2 else elemI true l
theorem Name_ev (s : ByteArray) (hs : s.size ≤ 1099511627776) : Ev (fun k => spec_Name.f k s) (nameI s.data.toList) := by
  unfold spec_Name.f nameI
  refine Ev.bind (In_ev s 33 hs) ?_
  cases hasB s.data.toList 33 with
  | true => exact Ev.now
  | false =>
    refine Ev.bind (In_ev s 47 hs) ?_
    cases hasB s.data.toList 47 with
    | true => exact Ev.now
    | false => exact Ev.bind (element_ev s true hs) Ev.now

end Go.Proofs.YtpbebckhemnooaaFmt.PS
