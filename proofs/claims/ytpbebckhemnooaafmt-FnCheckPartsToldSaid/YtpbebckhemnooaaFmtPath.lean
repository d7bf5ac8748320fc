/- What a path must be for package module, on lists of bytes; plain definitions and small lemmas, no condition. module.checkPath at each kind; the conditions: the path's size, that the tape answers fmt's stop, where the names of Windows lie, that utf8.ValidString answers, and, of a file's path beyond ASCII, unicode.IsLetter and strings.EqualFold. -/
import Derived.Test.YtpbebckhemnooaaFmtElem
import Derived.Outline
import Derived.Handy

namespace Go.Proofs.YtpbebckhemnooaaFmt.PS
open Go.RowKit Go.Proofs.YtpbebckhemnooaaFmtW.PrintWords Go.Proofs.YtpbebckhemnooaaFmtW.PrintLast Go.Proofs.YtpbebckhemnooaaFmtW.PrintMore
set_option linter.unusedVariables false
set_option linter.unusedSimpArgs false

/-- The pieces between the strokes b. -/
def cutL (b : UInt8) : List UInt8 → List (List UInt8)
  | [] => [[]]
  | c :: l => if c = b then [] :: cutL b l else (c :: (cutL b l).headD []) :: (cutL b l).tail

theorem cut_ne (b : UInt8) : ∀ l, cutL b l ≠ []
  | [] => by simp [cutL]
  | c :: l => by unfold cutL; split <;> simp
theorem cut_eq (b : UInt8) (l : List UInt8) : cutL b l = (cutL b l).headD [] :: (cutL b l).tail := by
  cases h : cutL b l with
  | nil => exact absurd h (cut_ne b l)
  | cons x xs => rfl
theorem cut_none {b : UInt8} : ∀ {l : List UInt8}, (∀ c ∈ l, c ≠ b) → cutL b l = [l]
  | [], _ => rfl
  | c :: l, h => by
    have hc := h c List.mem_cons_self
    have ih := cut_none (b := b) (l := l) fun d hd => h d (List.mem_cons_of_mem _ hd)
    unfold cutL
    rw [if_neg hc, ih]
    rfl
theorem cut_at {b : UInt8} : ∀ {l : List UInt8} {k : Nat}, (∀ c ∈ l.take k, c ≠ b) → l[k]? = some b → cutL b l = l.take k :: cutL b (l.drop (k + 1))
  | [], k, _, h => by simp at h
  | c :: l, 0, _, h => by
    simp at h
    subst h
    simp [cutL]
  | c :: l, k + 1, h1, h2 => by
    have hc : c ≠ b := h1 c (by simp)
    have ih := cut_at (b := b) (l := l) (k := k) (fun d hd => h1 d (by simp [hd])) (by simpa using h2)
    conv => lhs; unfold cutL
    rw [if_neg hc, ih]
    simp
theorem mem_of_cut {b : UInt8} : ∀ {l e : List UInt8} {c : UInt8}, e ∈ cutL b l → c ∈ e → c ∈ l ∧ c ≠ b
  | [], e, c, h, hc => by
    simp [cutL] at h
    subst h
    simp at hc
  | d :: l, e, c, h, hc => by
    have ih := fun {e : List UInt8} {c : UInt8} => mem_of_cut (b := b) (l := l) (e := e) (c := c)
    unfold cutL at h
    split at h
    · rename_i hd
      rcases List.mem_cons.1 h with rfl | h
      · simp at hc
      · have := ih h hc
        exact ⟨List.mem_cons_of_mem _ this.1, this.2⟩
    · rename_i hd
      rcases List.mem_cons.1 h with rfl | h
      · rcases List.mem_cons.1 hc with rfl | hc
        · exact ⟨List.mem_cons_self, hd⟩
        · have := ih (e := (cutL b l).headD []) (by rw [cut_eq b l]; exact List.mem_cons_self) hc
          exact ⟨List.mem_cons_of_mem _ this.1, this.2⟩
      · have := ih (by rw [cut_eq b l]; exact List.mem_cons_of_mem _ h) hc
        exact ⟨List.mem_cons_of_mem _ this.1, this.2⟩
theorem cut_of_mem {b : UInt8} : ∀ {l : List UInt8} {c : UInt8}, c ∈ l → c ≠ b → ∃ e ∈ cutL b l, c ∈ e
  | [], c, h, _ => by simp at h
  | d :: l, c, h, hc => by
    unfold cutL
    split
    · rename_i hd
      rcases List.mem_cons.1 h with rfl | h
      · exact absurd hd hc
      · obtain ⟨e, he, h2⟩ := cut_of_mem h hc
        exact ⟨e, List.mem_cons_of_mem _ he, h2⟩
    · rcases List.mem_cons.1 h with rfl | h
      · exact ⟨_, List.mem_cons_self, List.mem_cons_self⟩
      · obtain ⟨e, he, h2⟩ := cut_of_mem h hc
        rw [cut_eq b l] at he
        rcases List.mem_cons.1 he with rfl | he
        · exact ⟨_, List.mem_cons_self, List.mem_cons_of_mem _ h2⟩
        · exact ⟨e, List.mem_cons_of_mem _ he, h2⟩
theorem cut_len {b : UInt8} : ∀ {l e : List UInt8}, e ∈ cutL b l → e.length ≤ l.length
  | [], e, h => by
    simp [cutL] at h
    subst h
    simp
  | d :: l, e, h => by
    have ih := fun {e : List UInt8} => cut_len (b := b) (l := l) (e := e)
    unfold cutL at h
    split at h
    · rcases List.mem_cons.1 h with rfl | h
      · simp
      · have := ih h
        simp only [List.length_cons]; omega
    · rcases List.mem_cons.1 h with rfl | h
      · have := ih (e := (cutL b l).headD []) (by rw [cut_eq b l]; exact List.mem_cons_self)
        simp only [List.length_cons]; omega
      · have := ih (e := e) (by rw [cut_eq b l]; exact List.mem_cons_of_mem _ h)
        simp only [List.length_cons]; omega
theorem cut_snoc (b : UInt8) : ∀ l : List UInt8, cutL b (l ++ [b]) = cutL b l ++ [[]]
  | [] => by simp [cutL]
  | d :: l => by
    have ih := cut_snoc b l
    by_cases hd : d = b
    · subst hd
      simp [cutL, ih]
    · have e1 : cutL b (d :: l ++ [b]) = (d :: (cutL b (l ++ [b])).headD []) :: (cutL b (l ++ [b])).tail := by simp [cutL, hd]
      have e2 : cutL b (d :: l) = (d :: (cutL b l).headD []) :: (cutL b l).tail := by simp [cutL, hd]
      rw [e1, e2, ih, cut_eq b l]
      simp
theorem cut_twice : ∀ {l : List UInt8}, (idxL [47, 47] l).isSome = true → [] ∈ (cutL 47 l).tail
  | [], h => by simp [idxL] at h
  | c :: l, h => by
    by_cases h1 : (c :: l).take 2 = [47, 47]
    · match l, h1 with
      | [], h1 => simp at h1
      | d :: l, h1 =>
        simp at h1
        obtain ⟨rfl, rfl⟩ := h1
        simp [cutL]
    · have h2 : (idxL [47, 47] l).isSome = true := by
        have e : idxL [47, 47] (c :: l) = (idxL [47, 47] l).map (· + 1) := by
          conv => lhs; unfold idxL
          exact if_neg h1
        rw [e] at h
        simpa using h
      have ih := cut_twice h2
      unfold cutL
      split
      · simp
        exact List.mem_of_mem_tail ih
      · simpa using ih
theorem cut_last {l : List UInt8} (h0 : l ≠ []) (h : lb l (l.length - 1) = 47) : [] ∈ cutL 47 l := by
  have e := List.dropLast_concat_getLast h0
  have hl : l.getLast h0 = 47 := by
    have h2 : l.getD (l.length - 1) 0 = l.getLast h0 := by
      rw [List.getLast_eq_getElem, List.getD_eq_getElem?_getD, List.getElem?_eq_getElem]
      rfl
    unfold lb at h
    rw [h2] at h
    apply UInt8.toNat_inj.1
    simpa using Int.ofNat.inj h
  rw [← e, hl, cut_snoc]
  simp

theorem extract_mid (s : ByteArray) (a b : Nat) : (s.extract a b).data.toList = (s.data.toList.drop a).take (b - a) := by
  rw [ByteArray.data_extract, Array.toList_extract, List.extract_eq_take_drop]

def PathOK (K : Int) (l : List UInt8) : Prop := l ≠ [] ∧ ¬ (lb l 0 = 45 ∧ K ≠ 2) ∧ ∀ e ∈ cutL 47 l, ElemOK K e
def PathBad (K : Int) (l : List UInt8) : Prop := l = [] ∨ ∃ e ∈ cutL 47 l, ElemBad e ∨ (asc e ∧ ¬ ElemOK K e)
def PB (K : Int) (l : List UInt8) (b : Bool) : Prop := (asc l → (b = true ↔ PathOK K l)) ∧ (¬ asc l → (K ≠ 2 → b = false) ∧ (PathBad K l → b = false))
def PathPost (w : World) (K : Int) (l : List UInt8) (e : Ending) (w' : World) : Prop :=
  ∃ b : Bool, PB K l b ∧ ((b = true ∧ e = .returned .nilIface ∧ Below w.heap.size w w') ∨ (b = false ∧ ErrS w e w'))

theorem PB.no {K : Int} {l : List UInt8} (h : asc l → ¬ PathOK K l) : PB K l false :=
  ⟨fun a => ⟨fun e => Bool.noConfusion e, fun e => absurd e (h a)⟩, fun _ => ⟨fun _ => rfl, fun _ => rfl⟩⟩
theorem path_no {w w' : World} {K : Int} {l : List UInt8} {e : Ending} (h : asc l → ¬ PathOK K l) (he : ErrS w e w') : PathPost w K l e w' := ⟨false, PB.no h, .inr ⟨rfl, he⟩⟩
theorem PathOK.ne {K : Int} {l : List UInt8} (h : PathOK K l) : [] ∉ cutL 47 l := fun h2 => (h.2.2 _ h2).1 rfl

theorem asc_cut {l e : List UInt8} (h : asc l) (he : e ∈ cutL 47 l) : asc e := fun c hc => h c (mem_of_cut he hc).1
theorem asc_of_cut {l : List UInt8} (h : ∀ e ∈ cutL 47 l, asc e) : asc l := fun c hc => by
  by_cases h2 : c = 47
  · subst h2; decide
  · obtain ⟨e, he, h3⟩ := cut_of_mem hc h2
    exact h e he c h3

/-- One element that does not serve. -/
theorem PB.elem {K : Int} {l e : List UInt8} (he : e ∈ cutL 47 l) (h : EB K e false) : asc l → ¬ PathOK K l := fun ha hp => by
  have := (h.1 (asc_cut ha he)).2 (hp.2.2 e he)
  cases this
/-- All elements serve. -/
theorem PB.yes {K : Int} {l : List UInt8} (h0 : l ≠ []) (h1 : ¬ (lb l 0 = 45 ∧ K ≠ 2)) (h : ∀ e ∈ cutL 47 l, EB K e true) : PB K l true := by
  refine ⟨fun ha => ⟨fun _ => ⟨h0, h1, fun e he => ((h e he).1 (asc_cut ha he)).1 rfl⟩, fun _ => rfl⟩, fun hn => ⟨fun hk => ?_, fun hb => ?_⟩⟩
  · refine absurd (asc_of_cut fun e he => ?_) hn
    by_cases ha : asc e
    · exact ha
    · have := ((h e he).2 ha).1 hk
      cases this
  · rcases hb with hb | ⟨e, he, hb⟩
    · exact absurd hb h0
    · by_cases ha : asc e
      · have h2 := ((h e he).1 ha).1 rfl
        rcases hb with (hb | hb | hb) | hb
        · exact absurd hb h2.1
        · exact absurd hb h2.2.2.2.1
        · exact absurd hb h2.2.2.2.2.2.1
        · exact absurd h2 hb.2
      · rcases hb with hb | hb
        · exact ((h e he).2 ha).2 hb
        · exact absurd hb.1 ha

/-- What the loop over a path has done: the elements ahead of st serve; there is no stroke from st up to k. -/
def Done (K : Int) (l : List UInt8) (st k : Nat) : Prop := st ≤ k ∧ (∃ d, cutL 47 l = d ++ cutL 47 (l.drop st) ∧ ∀ e ∈ d, EB K e true) ∧ ∀ c ∈ (l.drop st).take (k - st), c ≠ 47
theorem Done.nil (K : Int) (l : List UInt8) : Done K l 0 0 := ⟨Nat.le_refl _, ⟨[], by simp, fun e he => by simp at he⟩, fun c hc => by simp at hc⟩
theorem piece_at {K : Int} {l : List UInt8} {st k : Nat} (h : Done K l st k) (hk : l[k]? = some 47) : (l.drop st).take (k - st) ∈ cutL 47 l ∧ cutL 47 (l.drop st) = (l.drop st).take (k - st) :: cutL 47 (l.drop (k + 1)) := by
  obtain ⟨h1, ⟨d, hd, h2⟩, h3⟩ := h
  have e : cutL 47 (l.drop st) = (l.drop st).take (k - st) :: cutL 47 (l.drop (k + 1)) := by
    rw [cut_at h3 (by rw [List.getElem?_drop, show st + (k - st) = k by omega]; exact hk), List.drop_drop, show st + (k - st + 1) = k + 1 by omega]
  refine ⟨?_, e⟩
  rw [hd, e]
  simp
theorem Done.stroke {K : Int} {l : List UInt8} {st k : Nat} (h : Done K l st k) (hk : l[k]? = some 47) (hb : EB K ((l.drop st).take (k - st)) true) : Done K l (k + 1) (k + 1) := by
  have e := (piece_at h hk).2
  obtain ⟨h1, ⟨d, hd, h2⟩, h3⟩ := h
  refine ⟨Nat.le_refl _, ⟨d ++ [(l.drop st).take (k - st)], ?_, ?_⟩, ?_⟩
  · rw [hd, e]; simp
  · intro x hx
    rcases List.mem_append.1 hx with hx | hx
    · exact h2 x hx
    · rw [List.mem_singleton.1 hx]; exact hb
  · intro c hc
    rw [Nat.sub_self] at hc
    simp at hc
theorem Done.more {K : Int} {l : List UInt8} {st k m : Nat} (h : Done K l st k) (hm : ∀ j, k ≤ j → j < k + m → l[j]? ≠ some 47) : Done K l st (k + m) := by
  obtain ⟨h1, h2, h3⟩ := h
  refine ⟨by omega, h2, ?_⟩
  intro c hc
  rw [show k + m - st = (k - st) + m by omega, List.take_add, List.mem_append] at hc
  rcases hc with hc | hc
  · exact h3 c hc
  · rintro rfl
    obtain ⟨j, hj, hj2⟩ := List.mem_iff_getElem.1 hc
    have hjm : j < m := by rw [List.length_take] at hj; omega
    refine hm (k + j) (by omega) (by omega) ?_
    rw [← hj2, List.getElem_take, List.getElem_drop, List.getElem_drop]
    rw [List.getElem?_eq_some_iff]
    refine ⟨?_, ?_⟩
    · rw [List.length_take, List.length_drop, List.length_drop] at hj; omega
    · congr 1; omega
theorem Done.last {K : Int} {l : List UInt8} {st k : Nat} (h : Done K l st k) (hk : l.length ≤ k) : l.drop st ∈ cutL 47 l ∧ (EB K (l.drop st) true → ∀ e ∈ cutL 47 l, EB K e true) := by
  obtain ⟨h1, ⟨d, hd, h2⟩, h3⟩ := h
  rw [List.take_of_length_le (by rw [List.length_drop]; omega)] at h3
  rw [cut_none h3] at hd
  rw [hd]
  exact ⟨by simp, fun hb e he => by
    rcases List.mem_append.1 he with he | he
    · exact h2 e he
    · rw [List.mem_singleton.1 he]; exact hb⟩

end Go.Proofs.YtpbebckhemnooaaFmt.PS

namespace Go.Proofs.YtpbebckhemnooaaFmt.PS
open Go.RowKit Go.Proofs.YtpbebckhemnooaaFmtW.PrintWords Go.Proofs.YtpbebckhemnooaaFmtW.PrintLast Go.Proofs.YtpbebckhemnooaaFmtW.PrintMore
set_option linter.unusedVariables false
set_option linter.unusedSimpArgs false

/-- utf8.ValidString of a text. -/
def ValidOK (w : World) (s : ByteArray) : Prop := Calls Tryf.prog 81 #[.string s] w fun e w' => ∃ b : Bool, e = .returned (.bool b) ∧ (asc s.data.toList → b = true) ∧ Below w.heap.size w w'

def HighOK (w : World) : Prop := LetterOK w ∧ FoldAll w
theorem LetterOK.below {w w' : World} (h : LetterOK w) (hb : Below w.heap.size w w') : LetterOK w' := fun W hW r h0 h1 => h W (hb.trans (hW.mono hb.size)) r h0 h1
theorem FoldOK.below {w w' : World} {t : ByteArray} (h : FoldOK w t) (hb : Below w.heap.size w w') : FoldOK w' t := fun W hW j hj => h W (hb.trans (hW.mono hb.size)) j hj
theorem HighOK.below {w w' : World} (h : HighOK w) (hb : Below w.heap.size w w') : HighOK w' := ⟨h.1.below hb, fun t ht => (h.2 t ht).below hb⟩

theorem elem_at {K : Int} (hK : K = 0 ∨ K = 1 ∨ K = 2) {F : Stop.Interp} {w : World} (hF : F.answers w.tape) (hN : NamesIn w) {l : List UInt8} (hX : K = 2 → asc l ∨ HighOK w)
    {W : World} (hb : Below w.heap.size w W) (t : ByteArray) (ht : t.size ≤ 1099511627776) (hl : t.data.toList ∈ cutL 47 l) :
    Calls Tryf.prog 53 #[.string t, .int .i64 K] W (ElemPost W K t.data.toList) :=
  elem_any K hK F t ht W (below_tape hF hb) (hN.below hb) fun hk => (hX hk).elim (fun h => .inl (asc_cut h hl)) fun h => .inr (h.below hb)

theorem zzContains_at (s : ByteArray) (hs : s.size ≤ 1099511627776) {b : Bool} (h : (idxL [47, 47] s.data.toList).isSome = b) (w : World) :
    Calls Tryf.prog 54 #[.string s, .string ⟨#[47, 47]⟩] w fun e w' => e = .returned (.bool b) ∧ Below w.heap.size w w' := by
  rw [← h]
  exact zzContains_any s ⟨#[47, 47]⟩ hs (by decide) (by decide) w
theorem get_list (s : ByteArray) (j : Nat) (hj : j < s.size) : s.data.toList[j]? = some (s.get! j) := by
  have hj' : j < s.data.toList.length := by rw [len_size]; exact hj
  rw [List.getElem?_eq_getElem hj']
  simp [ByteArray.get!, getElem!_pos, hj]
theorem decodeN_rest (n b0 b1 b2 b3 : Nat) (h : 128 ≤ b0) : ∀ j, j < (Lib.decodeN n b0 b1 b2 b3).2 → (j = 0 ∨ (j = 1 ∧ 128 ≤ b1) ∨ (j = 2 ∧ 128 ≤ b2) ∨ (j = 3 ∧ 128 ≤ b3)) := by
  intro j hj
  unfold Lib.decodeN at hj
  repeat' split at hj
  all_goals (simp only at hj; omega)
theorem decode_rest (s : ByteArray) (i : Nat) (h : i < s.size) (ha : ¬ (s[i]'h).toNat < 128) : ∀ j, i ≤ j → j < i + (Utf8.decode s i).2 → s.data.toList[j]? ≠ some 47 := by
  intro j h1 h2
  have hle := decode_le s i h
  rw [Lib.decode_at] at h2
  have h0 : s.get! i = s[i]'h := by
    simp [ByteArray.get!, getElem!_pos, h]
    rfl
  have h3 := decodeN_rest (s.size - i) (s.get! i).toNat (s.get! (i + 1)).toNat (s.get! (i + 2)).toNat (s.get! (i + 3)).toNat (by rw [h0]; omega) (j - i) (by omega)
  rw [Lib.decode_at] at hle
  rw [get_list s j (by omega)]
  intro e
  have e2 : (s.get! j).toNat = 47 := by rw [Option.some.inj e]; rfl
  have hb : 128 ≤ (s.get! j).toNat := by
    rcases h3 with h3 | ⟨h3, h4⟩ | ⟨h3, h4⟩ | ⟨h3, h4⟩
    · rw [show j = i by omega, h0]; omega
    · rw [show j = i + 1 by omega]; exact h4
    · rw [show j = i + 2 by omega]; exact h4
    · rw [show j = i + 3 by omega]; exact h4
  omega

set_option maxHeartbeats 1600000 in
theorem path_empty (K : Int) (s : ByteArray) (w : World) (hv : ValidOK w s) (h0 : s.size = 0) :
    Calls Tryf.prog 61 #[.string s, .int .i64 K] w (PathPost w K s.data.toList) := by
  have h1 : s.toList = [] := by rw [Lib.toList_data]; exact data_eq_nil h0
  have HV := Lib.hid hv
  have HD := Lib.hid (data_eq_nil h0)
  clear h0 hv
  go_enter Tryf.func61, Tryf.ntmps61
  go_wp2_with (first
    | (go_at_call 81; refine HV.out.mono ?_; rintro e w5 ⟨b, rfl, hb, hb5⟩)
    | (go_at_call 55; refine (errorf_none _ (by simp) _).mono ?_; rintro e w9 ⟨a9, t9, rfl, hc9, hb9⟩))
  all_goals (go_ret; exact path_no (fun _ h => h.1 HD.out) (ErrS.mono ⟨a9, t9, rfl, hc9, hb9⟩ hb5))

set_option maxHeartbeats 1600000 in
theorem path_dash (K : Int) (s : ByteArray) (hs : s.size ≤ 1099511627776) (w : World) (hv : ValidOK w s) (h0 : 0 < s.size) (h1 : gb s 0 = 45) (hk : K ≠ 2) :
    Calls Tryf.prog 61 #[.string s, .int .i64 K] w (PathPost w K s.data.toList) := by
  have a1 : ¬ s.toList = [] := by rw [Lib.toList_data]; exact data_ne_nil h0
  have a2 : (s.toList == []) = false := by simpa using a1
  have HV := Lib.hid hv
  have hgb := get_gb s
  have a3 : (gb s 0 == 45) = true := by simpa using h1
  have a4 : (K == 2) = false := by simpa using hk
  have HX := Lib.hid (show ¬ PathOK K s.data.toList from fun h => h.2.1 ⟨h1, hk⟩)
  clear hv h1
  go_enter Tryf.func61, Tryf.ntmps61
  have HC := HX
  go_wp2_with (first
    | (go_at_call 81; refine HV.out.mono ?_; rintro e w5 ⟨b, rfl, hb, hb5⟩; have HB5 := Lib.hid hb; clear hb)
    | (go_at_call 55; refine (errorf_none _ (by simp) _).mono ?_; rintro e w9 ⟨a9, t9, rfl, hc9, hb9⟩))
  all_goals (go_ret; exact path_no (fun _ h => HX.out h) (ErrS.mono ⟨a9, t9, rfl, hc9, hb9⟩ hb5))

set_option maxHeartbeats 1600000 in
theorem path_twice (K : Int) (s : ByteArray) (hs : s.size ≤ 1099511627776) (w : World) (hv : ValidOK w s) (h0 : 0 < s.size) (h1 : ¬ (gb s 0 = 45 ∧ K ≠ 2)) (h2 : (idxL [47, 47] s.data.toList).isSome = true) :
    Calls Tryf.prog 61 #[.string s, .int .i64 K] w (PathPost w K s.data.toList) := by
  have a1 : ¬ s.toList = [] := by rw [Lib.toList_data]; exact data_ne_nil h0
  have a2 : (s.toList == []) = false := by simpa using a1
  have HV := Lib.hid hv
  have hgb := get_gb s
  have HX := Lib.hid (show ¬ PathOK K s.data.toList from fun h => h.ne (List.mem_of_mem_tail (cut_twice h2)))
  have HC := Lib.hid fun W => zzContains_at s hs h2 W
  have H1 := Lib.hid h1
  clear hv h1 h2
  go_enter Tryf.func61, Tryf.ntmps61
  go_wp2_with (first
    | (go_at_call 81; refine HV.out.mono ?_; rintro e w5 ⟨b, rfl, hb, hb5⟩; have HB5 := Lib.hid hb; clear hb)
    | (go_at_call 54; refine (HC.out _).mono ?_; rintro e w6 ⟨rfl, hb6⟩)
    | (go_at_call 55; refine (errorf_none _ (by simp) _).mono ?_; rintro e w9 ⟨a9, t9, rfl, hc9, hb9⟩))
  all_goals first
    | (go_ret; exact path_no (fun _ h => HX.out h) (ErrS.mono ⟨a9, t9, rfl, hc9, hb9⟩ hb5))
    | (go_ret; exact path_no (fun _ h => HX.out h) (ErrS.mono ⟨a9, t9, rfl, hc9, hb9⟩ (hb5.trans (hb6.mono hb5.size))))

set_option maxHeartbeats 1600000 in
theorem path_last (K : Int) (s : ByteArray) (hs : s.size ≤ 1099511627776) (w : World) (hv : ValidOK w s) (h0 : 0 < s.size) (h1 : ¬ (gb s 0 = 45 ∧ K ≠ 2)) (h2 : (idxL [47, 47] s.data.toList).isSome = false) (h3 : gb s (s.size - 1) = 47) :
    Calls Tryf.prog 61 #[.string s, .int .i64 K] w (PathPost w K s.data.toList) := by
  have a1 : ¬ s.toList = [] := by rw [Lib.toList_data]; exact data_ne_nil h0
  have a2 : (s.toList == []) = false := by simpa using a1
  have HV := Lib.hid hv
  have hgb := get_gb s
  have HX := Lib.hid (show ¬ PathOK K s.data.toList from fun h => h.ne (cut_last (data_ne_nil h0) (by rw [len_size]; exact h3)))
  have HC := Lib.hid fun W => zzContains_at s hs h2 W
  have H1 := Lib.hid h1
  have a4 : (gb s (s.size - 1) == 47) = true := by simpa using h3
  clear hv h1 h2 h3
  go_enter Tryf.func61, Tryf.ntmps61
  go_wp2_with (first
    | (go_at_call 81; refine HV.out.mono ?_; rintro e w5 ⟨b, rfl, hb, hb5⟩; have HB5 := Lib.hid hb; clear hb)
    | (go_at_call 54; refine (HC.out _).mono ?_; rintro e w6 ⟨rfl, hb6⟩)
    | (go_at_call 55; refine (errorf_none _ (by simp) _).mono ?_; rintro e w9 ⟨a9, t9, rfl, hc9, hb9⟩))
  all_goals first
    | (go_ret; exact path_no (fun _ h => HX.out h) (ErrS.mono ⟨a9, t9, rfl, hc9, hb9⟩ hb5))
    | (go_ret; exact path_no (fun _ h => HX.out h) (ErrS.mono ⟨a9, t9, rfl, hc9, hb9⟩ (hb5.trans (hb6.mono hb5.size))))

set_option maxHeartbeats 6000000 in
theorem path_mainA (K : Int) (hK : K = 0 ∨ K = 1 ∨ K = 2) (F : Stop.Interp) (s : ByteArray) (hs : s.size ≤ 1099511627776) (w : World) (hF : F.answers w.tape) (hN : NamesIn w) (hX : K = 2 → asc s.data.toList ∨ HighOK w) (hv : ValidOK w s) (h0 : 0 < s.size) (h1 : gb s 0 ≠ 45) (h2 : (idxL [47, 47] s.data.toList).isSome = false) (h3 : gb s (s.size - 1) ≠ 47) :
    Calls Tryf.prog 61 #[.string s, .int .i64 K] w (PathPost w K s.data.toList) := by
  have a1 : ¬ s.toList = [] := by rw [Lib.toList_data]; exact data_ne_nil h0
  have a2 : (s.toList == []) = false := by simpa using a1
  have a4 : (gb s (s.size - 1) == 47) = false := by simpa using h3
  have a5 : (gb s 0 == 45) = false := by simpa using h1
  have HD := Lib.hid (show ¬ (lb s.data.toList 0 = 45 ∧ K ≠ 2) from fun h => h1 h.1)
  have hgb := get_gb s
  have HV := Lib.hid hv
  have HC := Lib.hid fun W => zzContains_at s hs h2 W
  have HE := Lib.hid fun (W : World) (hb : Below w.heap.size w W) (t : ByteArray) (ht : t.size ≤ 1099511627776) (hl : t.data.toList ∈ cutL 47 s.data.toList) => elem_at hK hF hN hX hb t ht hl
  clear h1 h2 h3 hv hX hN
  go_enter Tryf.func61, Tryf.ntmps61
  go_wp2_with (first
    | (go_at_call 81; refine HV.out.mono ?_; rintro e w5 ⟨b, rfl, hb, hb5⟩; have HB5 := Lib.hid hb; clear hb)
    | (go_at_call 54; refine (HC.out _).mono ?_; rintro e w6 ⟨rfl, hb6⟩)
    | (go_at_call 55; refine (errorf_none _ (by simp) _).mono ?_; rintro e w9 ⟨a9, t9, rfl, hc9, hb9⟩))
  · go_ret
    exact path_no (fun ha _ => absurd (HB5.out ha) (by simp_all)) (ErrS.mono ⟨a9, t9, rfl, hc9, hb9⟩ hb5)
  have hB6 := Lib.hid (hb5.trans (hb6.mono hb5.size))
  go_loopw [5] (fun x wr => ∃ st k : Nat, x = .int .i64 st ∧ k ≤ s.size ∧ st ≤ k ∧ Hid (wr.heap[w6.heap.size]? = some (.stringIter s k)) ∧ Hid (Below w6.heap.size w6 wr) ∧ Hid (Done K s.data.toList st k)) (fun _ wr => s.size - wr.iterPos w6.heap.size)
  case atStart => exact ⟨0, 0, rfl, Nat.zero_le _, Nat.le_refl _, Lib.hid (World.iter_heap w6 s 0), Lib.hid ((Below.refl _ _).alloc (Nat.le_refl _) _), Lib.hid (Done.nil _ _)⟩
  case round =>
    obtain ⟨st, k, rfl, hk, hst, hit, hB, hdone⟩ := hrel
    by_cases hlt : k < s.size
    · by_cases ha1 : (s[k]'hlt).toNat < 128
      · have hnx : ∀ ty, (Instr.next (.pointer (some ⟨w6.heap.size, 0, none⟩)) true ty).run Tryf.prog wr = _ := fun ty => Lib.run_next_ascii_at wr w6.heap.size s k ty hit.out hlt ha1
        have hB2 := Lib.hid (Lib.below_iterAt hB.out (k := w6.heap.size) (Nat.le_refl _) s (k + 1))
        have hit2 := Lib.hid (Lib.iterAt_heap wr w6.heap.size s k (k + 1) hit.out)
        obtain ⟨W1, hW1⟩ : ∃ W1, wr.iterAt w6.heap.size s (k + 1) = W1 := ⟨_, rfl⟩
        rw [hW1] at hnx hB2 hit2
        have hBW := Lib.hid (hB6.out.trans (hB2.out.mono hB6.out.size))
        have hg : ((s[k]'hlt).toNat : Int) = gb s k := (hgb k hlt).symm ▸ rfl
        have HA := Lib.hid ha1
        clear hW1 ha1
        by_cases hc : gb s k = 47
        · have hc2 : (gb s k == 47) = true := by simpa using hc
          have hk47 : s.data.toList[k]? = some 47 := by
            have hk' : k < s.data.toList.length := by rw [len_size]; exact hlt
            rw [List.getElem?_eq_getElem hk']
            congr 1
            apply UInt8.toNat_inj.1
            have e : (s.data.toList[k]'hk').toNat = (s[k]'hlt).toNat := rfl
            rw [e]
            have : (47 : UInt8).toNat = 47 := rfl
            omega
          obtain ⟨t, hte⟩ : ∃ t, s.extract st k = t := ⟨_, rfl⟩
          have htd : t.data.toList = (s.data.toList.drop st).take (k - st) := by rw [← hte]; exact extract_mid s st k
          have hts : t.size ≤ 1099511627776 := by rw [← len_size, htd, List.length_take, List.length_drop, len_size]; omega
          have htm : t.data.toList ∈ cutL 47 s.data.toList := by rw [htd]; exact (piece_at hdone.out hk47).1
          have HEC := Lib.hid (HE.out W1 hBW.out t hts htm)
          have HTM := Lib.hid htm
          have HNX : Hid (EB K t.data.toList true → Done K s.data.toList (k + 1) (k + 1)) := Lib.hid fun h => hdone.out.stroke hk47 (by rw [← htd]; exact h)
          clear htd htm hk47 hc hg
          go_wp2_with (go_at_call 53; refine HEC.out.mono ?_; rintro e w7 ⟨b7, hEB, ⟨rfl, rfl, hb7⟩ | ⟨rfl, a7, t7, rfl, hc7, hb7⟩⟩)
          · have hit3 : Hid (w7.heap[w6.heap.size]? = some (.stringIter s (k + 1))) := Lib.hid (by rw [hb7.block _ (Array.getElem?_eq_some_iff.1 hit2.out).1]; exact hit2.out)
            have hB3 := Lib.hid (hB2.out.trans (hb7.mono hB2.out.size))
            go_roundw
            case rel => exact ⟨k + 1, k + 1, by go_num, by omega, Nat.le_refl _, hit3, hB3, Lib.hid (HNX.out hEB)⟩
            case measure => simp only [World.iterPos, hit.out, hit3.out]; omega
          · go_ret
            exact path_no (PB.elem HTM.out hEB) (ErrS.mono ⟨a7, t7, rfl, hc7, hb7⟩ hBW.out)
        · have hc2 : (gb s k == 47) = false := by simpa using hc
          have hd2 : Hid (Done K s.data.toList st (k + 1)) := Lib.hid (hdone.out.more fun j h1 h2 h3 => hc (by
            have e : j = k := by omega
            subst e
            rw [gb_lb]
            unfold lb
            rw [List.getD_eq_getElem?_getD, h3]
            rfl))
          clear hc hg
          go_wp2
          go_roundw
          case rel => exact ⟨st, k + 1, rfl, by omega, by omega, hit2, hB2, hd2⟩
          case measure => simp only [World.iterPos, hit.out, hit2.out]; omega
      · have hnx : ∀ ty, (Instr.next (.pointer (some ⟨w6.heap.size, 0, none⟩)) true ty).run Tryf.prog wr = _ := fun ty => Lib.run_next_any_at wr w6.heap.size s k ty hit.out hlt
        obtain ⟨hr1, hd1⟩ := decode_high s k hlt (by omega)
        have hle := decode_le s k hlt
        have hd2 := Lib.hid (hdone.out.more (decode_rest s k hlt ha1))
        obtain ⟨r, hr⟩ : ∃ r, (Utf8.decode s k).1 = r := ⟨_, rfl⟩
        obtain ⟨dd, hdd⟩ : ∃ dd, (Utf8.decode s k).2 = dd := ⟨_, rfl⟩
        rw [hr] at hr1 hnx
        rw [hdd] at hd1 hnx hle hd2
        have hB2 := Lib.hid (Lib.below_iterAt hB.out (k := w6.heap.size) (Nat.le_refl _) s (k + dd))
        have hit2 := Lib.hid (Lib.iterAt_heap wr w6.heap.size s k (k + dd) hit.out)
        obtain ⟨W1, hW1⟩ : ∃ W1, wr.iterAt w6.heap.size s (k + dd) = W1 := ⟨_, rfl⟩
        rw [hW1] at hnx hB2 hit2
        have hc2 : ((r : Int) == 47) = false := by simp; omega
        clear hW1 ha1 hr hdd
        go_wp2
        go_roundw
        case rel => exact ⟨st, k + dd, rfl, hle, by omega, hit2, hB2, hd2⟩
        case measure => simp only [World.iterPos, hit.out, hit2.out]; omega
    · have hnx : ∀ ty, (Instr.next (.pointer (some ⟨w6.heap.size, 0, none⟩)) true ty).run Tryf.prog wr = _ := fun ty => Lib.run_next_end_at wr w6.heap.size s k ty hit.out hlt
      have hBW := Lib.hid (hB6.out.trans (hB.out.mono hB6.out.size))
      obtain ⟨hl1, hl2⟩ := hdone.out.last (by rw [len_size]; omega)
      obtain ⟨t, hte⟩ : ∃ t, s.extract st s.size = t := ⟨_, rfl⟩
      have htd : t.data.toList = s.data.toList.drop st := by rw [← hte]; exact extract_drop s st
      have hts : t.size ≤ 1099511627776 := by rw [← len_size, htd, List.length_drop, len_size]; omega
      rw [← htd] at hl1 hl2
      have HEC := Lib.hid (HE.out wr hBW.out t hts hl1)
      have HTM := Lib.hid hl1
      have HL := Lib.hid hl2
      have hst2 : st ≤ s.size := by omega
      clear htd hl1 hl2
      go_wp2_with (go_at_call 53; refine HEC.out.mono ?_; rintro e w7 ⟨b7, hEB, ⟨rfl, rfl, hb7⟩ | ⟨rfl, a7, t7, rfl, hc7, hb7⟩⟩)
      · go_ret
        exact ⟨true, PB.yes (data_ne_nil h0) HD.out (HL.out hEB), .inl ⟨rfl, rfl, hBW.out.trans (hb7.mono hBW.out.size)⟩⟩
      · go_ret
        exact path_no (PB.elem HTM.out hEB) (ErrS.mono ⟨a7, t7, rfl, hc7, hb7⟩ hBW.out)

set_option maxHeartbeats 6000000 in
theorem path_mainB (F : Stop.Interp) (s : ByteArray) (hs : s.size ≤ 1099511627776) (w : World) (hF : F.answers w.tape) (hN : NamesIn w) (hX : (2 : Int) = 2 → asc s.data.toList ∨ HighOK w) (hv : ValidOK w s) (h0 : 0 < s.size) (h1 : gb s 0 = 45) (h2 : (idxL [47, 47] s.data.toList).isSome = false) (h3 : gb s (s.size - 1) ≠ 47) :
    Calls Tryf.prog 61 #[.string s, .int .i64 2] w (PathPost w 2 s.data.toList) := by
  have a1 : ¬ s.toList = [] := by rw [Lib.toList_data]; exact data_ne_nil h0
  have a2 : (s.toList == []) = false := by simpa using a1
  have a4 : (gb s (s.size - 1) == 47) = false := by simpa using h3
  have a5 : (gb s 0 == 45) = true := by simpa using h1
  have HD := Lib.hid (show ¬ (lb s.data.toList 0 = 45 ∧ (2 : Int) ≠ 2) from fun h => h.2 rfl)
  have hgb := get_gb s
  have HV := Lib.hid hv
  have HC := Lib.hid fun W => zzContains_at s hs h2 W
  have HE := Lib.hid fun (W : World) (hb : Below w.heap.size w W) (t : ByteArray) (ht : t.size ≤ 1099511627776) (hl : t.data.toList ∈ cutL 47 s.data.toList) => elem_at (.inr (.inr rfl)) hF hN hX hb t ht hl
  clear h1 h2 h3 hv hX hN
  go_enter Tryf.func61, Tryf.ntmps61
  go_wp2_with (first
    | (go_at_call 81; refine HV.out.mono ?_; rintro e w5 ⟨b, rfl, hb, hb5⟩; have HB5 := Lib.hid hb; clear hb)
    | (go_at_call 54; refine (HC.out _).mono ?_; rintro e w6 ⟨rfl, hb6⟩)
    | (go_at_call 55; refine (errorf_none _ (by simp) _).mono ?_; rintro e w9 ⟨a9, t9, rfl, hc9, hb9⟩))
  · go_ret
    exact path_no (fun ha _ => absurd (HB5.out ha) (by simp_all)) (ErrS.mono ⟨a9, t9, rfl, hc9, hb9⟩ hb5)
  have hB6 := Lib.hid (hb5.trans (hb6.mono hb5.size))
  go_loopw [5] (fun x wr => ∃ st k : Nat, x = .int .i64 st ∧ k ≤ s.size ∧ st ≤ k ∧ Hid (wr.heap[w6.heap.size]? = some (.stringIter s k)) ∧ Hid (Below w6.heap.size w6 wr) ∧ Hid (Done 2 s.data.toList st k)) (fun _ wr => s.size - wr.iterPos w6.heap.size)
  case atStart => exact ⟨0, 0, rfl, Nat.zero_le _, Nat.le_refl _, Lib.hid (World.iter_heap w6 s 0), Lib.hid ((Below.refl _ _).alloc (Nat.le_refl _) _), Lib.hid (Done.nil _ _)⟩
  case round =>
    obtain ⟨st, k, rfl, hk, hst, hit, hB, hdone⟩ := hrel
    by_cases hlt : k < s.size
    · by_cases ha1 : (s[k]'hlt).toNat < 128
      · have hnx : ∀ ty, (Instr.next (.pointer (some ⟨w6.heap.size, 0, none⟩)) true ty).run Tryf.prog wr = _ := fun ty => Lib.run_next_ascii_at wr w6.heap.size s k ty hit.out hlt ha1
        have hB2 := Lib.hid (Lib.below_iterAt hB.out (k := w6.heap.size) (Nat.le_refl _) s (k + 1))
        have hit2 := Lib.hid (Lib.iterAt_heap wr w6.heap.size s k (k + 1) hit.out)
        obtain ⟨W1, hW1⟩ : ∃ W1, wr.iterAt w6.heap.size s (k + 1) = W1 := ⟨_, rfl⟩
        rw [hW1] at hnx hB2 hit2
        have hBW := Lib.hid (hB6.out.trans (hB2.out.mono hB6.out.size))
        have hg : ((s[k]'hlt).toNat : Int) = gb s k := (hgb k hlt).symm ▸ rfl
        have HA := Lib.hid ha1
        clear hW1 ha1
        by_cases hc : gb s k = 47
        · have hc2 : (gb s k == 47) = true := by simpa using hc
          have hk47 : s.data.toList[k]? = some 47 := by
            have hk' : k < s.data.toList.length := by rw [len_size]; exact hlt
            rw [List.getElem?_eq_getElem hk']
            congr 1
            apply UInt8.toNat_inj.1
            have e : (s.data.toList[k]'hk').toNat = (s[k]'hlt).toNat := rfl
            rw [e]
            have : (47 : UInt8).toNat = 47 := rfl
            omega
          obtain ⟨t, hte⟩ : ∃ t, s.extract st k = t := ⟨_, rfl⟩
          have htd : t.data.toList = (s.data.toList.drop st).take (k - st) := by rw [← hte]; exact extract_mid s st k
          have hts : t.size ≤ 1099511627776 := by rw [← len_size, htd, List.length_take, List.length_drop, len_size]; omega
          have htm : t.data.toList ∈ cutL 47 s.data.toList := by rw [htd]; exact (piece_at hdone.out hk47).1
          have HEC := Lib.hid (HE.out W1 hBW.out t hts htm)
          have HTM := Lib.hid htm
          have HNX : Hid (EB 2 t.data.toList true → Done 2 s.data.toList (k + 1) (k + 1)) := Lib.hid fun h => hdone.out.stroke hk47 (by rw [← htd]; exact h)
          clear htd htm hk47 hc hg
          go_wp2_with (go_at_call 53; refine HEC.out.mono ?_; rintro e w7 ⟨b7, hEB, ⟨rfl, rfl, hb7⟩ | ⟨rfl, a7, t7, rfl, hc7, hb7⟩⟩)
          · have hit3 : Hid (w7.heap[w6.heap.size]? = some (.stringIter s (k + 1))) := Lib.hid (by rw [hb7.block _ (Array.getElem?_eq_some_iff.1 hit2.out).1]; exact hit2.out)
            have hB3 := Lib.hid (hB2.out.trans (hb7.mono hB2.out.size))
            go_roundw
            case rel => exact ⟨k + 1, k + 1, by go_num, by omega, Nat.le_refl _, hit3, hB3, Lib.hid (HNX.out hEB)⟩
            case measure => simp only [World.iterPos, hit.out, hit3.out]; omega
          · go_ret
            exact path_no (PB.elem HTM.out hEB) (ErrS.mono ⟨a7, t7, rfl, hc7, hb7⟩ hBW.out)
        · have hc2 : (gb s k == 47) = false := by simpa using hc
          have hd2 : Hid (Done 2 s.data.toList st (k + 1)) := Lib.hid (hdone.out.more fun j h1 h2 h3 => hc (by
            have e : j = k := by omega
            subst e
            rw [gb_lb]
            unfold lb
            rw [List.getD_eq_getElem?_getD, h3]
            rfl))
          clear hc hg
          go_wp2
          go_roundw
          case rel => exact ⟨st, k + 1, rfl, by omega, by omega, hit2, hB2, hd2⟩
          case measure => simp only [World.iterPos, hit.out, hit2.out]; omega
      · have hnx : ∀ ty, (Instr.next (.pointer (some ⟨w6.heap.size, 0, none⟩)) true ty).run Tryf.prog wr = _ := fun ty => Lib.run_next_any_at wr w6.heap.size s k ty hit.out hlt
        obtain ⟨hr1, hd1⟩ := decode_high s k hlt (by omega)
        have hle := decode_le s k hlt
        have hd2 := Lib.hid (hdone.out.more (decode_rest s k hlt ha1))
        obtain ⟨r, hr⟩ : ∃ r, (Utf8.decode s k).1 = r := ⟨_, rfl⟩
        obtain ⟨dd, hdd⟩ : ∃ dd, (Utf8.decode s k).2 = dd := ⟨_, rfl⟩
        rw [hr] at hr1 hnx
        rw [hdd] at hd1 hnx hle hd2
        have hB2 := Lib.hid (Lib.below_iterAt hB.out (k := w6.heap.size) (Nat.le_refl _) s (k + dd))
        have hit2 := Lib.hid (Lib.iterAt_heap wr w6.heap.size s k (k + dd) hit.out)
        obtain ⟨W1, hW1⟩ : ∃ W1, wr.iterAt w6.heap.size s (k + dd) = W1 := ⟨_, rfl⟩
        rw [hW1] at hnx hB2 hit2
        have hc2 : ((r : Int) == 47) = false := by simp; omega
        clear hW1 ha1 hr hdd
        go_wp2
        go_roundw
        case rel => exact ⟨st, k + dd, rfl, hle, by omega, hit2, hB2, hd2⟩
        case measure => simp only [World.iterPos, hit.out, hit2.out]; omega
    · have hnx : ∀ ty, (Instr.next (.pointer (some ⟨w6.heap.size, 0, none⟩)) true ty).run Tryf.prog wr = _ := fun ty => Lib.run_next_end_at wr w6.heap.size s k ty hit.out hlt
      have hBW := Lib.hid (hB6.out.trans (hB.out.mono hB6.out.size))
      obtain ⟨hl1, hl2⟩ := hdone.out.last (by rw [len_size]; omega)
      obtain ⟨t, hte⟩ : ∃ t, s.extract st s.size = t := ⟨_, rfl⟩
      have htd : t.data.toList = s.data.toList.drop st := by rw [← hte]; exact extract_drop s st
      have hts : t.size ≤ 1099511627776 := by rw [← len_size, htd, List.length_drop, len_size]; omega
      rw [← htd] at hl1 hl2
      have HEC := Lib.hid (HE.out wr hBW.out t hts hl1)
      have HTM := Lib.hid hl1
      have HL := Lib.hid hl2
      have hst2 : st ≤ s.size := by omega
      clear htd hl1 hl2
      go_wp2_with (go_at_call 53; refine HEC.out.mono ?_; rintro e w7 ⟨b7, hEB, ⟨rfl, rfl, hb7⟩ | ⟨rfl, a7, t7, rfl, hc7, hb7⟩⟩)
      · go_ret
        exact ⟨true, PB.yes (data_ne_nil h0) HD.out (HL.out hEB), .inl ⟨rfl, rfl, hBW.out.trans (hb7.mono hBW.out.size)⟩⟩
      · go_ret
        exact path_no (PB.elem HTM.out hEB) (ErrS.mono ⟨a7, t7, rfl, hc7, hb7⟩ hBW.out)

theorem path_any (K : Int) (hK : K = 0 ∨ K = 1 ∨ K = 2) (F : Stop.Interp) (s : ByteArray) (hs : s.size ≤ 1099511627776) (w : World) (hF : F.answers w.tape) (hN : NamesIn w) (hX : K = 2 → asc s.data.toList ∨ HighOK w) (hv : ValidOK w s) :
    Calls Tryf.prog 61 #[.string s, .int .i64 K] w (PathPost w K s.data.toList) := by
  by_cases h0 : s.size = 0
  · exact path_empty K s w hv h0
  have h0' : 0 < s.size := by omega
  by_cases h1 : gb s 0 = 45 ∧ K ≠ 2
  · exact path_dash K s hs w hv h0' h1.1 h1.2
  cases h2 : (idxL [47, 47] s.data.toList).isSome with
  | true => exact path_twice K s hs w hv h0' h1 h2
  | false =>
    by_cases h3 : gb s (s.size - 1) = 47
    · exact path_last K s hs w hv h0' h1 h2 h3
    by_cases h4 : gb s 0 = 45
    · have hk : K = 2 := Classical.byContradiction fun h => h1 ⟨h4, h⟩
      subst hk
      exact path_mainB F s hs w hF hN hX hv h0' h4 h2 h3
    · exact path_mainA K hK F s hs w hF hN hX hv h0' h4 h2 h3

end Go.Proofs.YtpbebckhemnooaaFmt.PS
