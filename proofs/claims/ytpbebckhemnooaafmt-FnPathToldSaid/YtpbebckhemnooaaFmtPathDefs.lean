/- What a path must be for package module, on lists of bytes; plain definitions and small lemmas, no condition. -/
import Derived.Test.YtpbebckhemnooaaFmtElem
namespace Go.Proofs.YtpbebckhemnooaaFmt.PS
open Go.RowKit Go.Proofs.YtpbebckhemnooaaFmtW.PrintWords Go.Proofs.YtpbebckhemnooaaFmtW.PrintLast Go.Proofs.YtpbebckhemnooaaFmtW.PrintMore
set_option linter.unusedVariables false
set_option linter.unusedSimpArgs false

/-- The pieces between the strokes b. -/
def cutL (b : UInt8) : List UInt8 → List (List UInt8)
  | [] => [[]]
  | c :: l => if c = b then [] :: cutL b l else (c :: (cutL b l).headD []) :: (cutL b l).tail

theorem cut_ne (b : UInt8) : ∀ l, cutL b l ≠ []
  | [] => by simp [cutL]
  | c :: l => by unfold cutL; split <;> simp
theorem cut_eq (b : UInt8) (l : List UInt8) : cutL b l = (cutL b l).headD [] :: (cutL b l).tail := by
  cases h : cutL b l with
  | nil => exact absurd h (cut_ne b l)
  | cons x xs => rfl
theorem cut_none {b : UInt8} : ∀ {l : List UInt8}, (∀ c ∈ l, c ≠ b) → cutL b l = [l]
  | [], _ => rfl
  | c :: l, h => by
    have hc := h c List.mem_cons_self
    have ih := cut_none (b := b) (l := l) fun d hd => h d (List.mem_cons_of_mem _ hd)
    unfold cutL
    rw [if_neg hc, ih]
    rfl
theorem cut_at {b : UInt8} : ∀ {l : List UInt8} {k : Nat}, (∀ c ∈ l.take k, c ≠ b) → l[k]? = some b → cutL b l = l.take k :: cutL b (l.drop (k + 1))
  | [], k, _, h => by simp at h
  | c :: l, 0, _, h => by
    simp at h
    subst h
    simp [cutL]
  | c :: l, k + 1, h1, h2 => by
    have hc : c ≠ b := h1 c (by simp)
    have ih := cut_at (b := b) (l := l) (k := k) (fun d hd => h1 d (by simp [hd])) (by simpa using h2)
    conv => lhs; unfold cutL
    rw [if_neg hc, ih]
    simp
theorem mem_of_cut {b : UInt8} : ∀ {l e : List UInt8} {c : UInt8}, e ∈ cutL b l → c ∈ e → c ∈ l ∧ c ≠ b
  | [], e, c, h, hc => by
    simp [cutL] at h
    subst h
    simp at hc
  | d :: l, e, c, h, hc => by
    have ih := fun {e : List UInt8} {c : UInt8} => mem_of_cut (b := b) (l := l) (e := e) (c := c)
    unfold cutL at h
    split at h
    · rename_i hd
      rcases List.mem_cons.1 h with rfl | h
      · simp at hc
      · have := ih h hc
        exact ⟨List.mem_cons_of_mem _ this.1, this.2⟩
    · rename_i hd
      rcases List.mem_cons.1 h with rfl | h
      · rcases List.mem_cons.1 hc with rfl | hc
        · exact ⟨List.mem_cons_self, hd⟩
        · have := ih (e := (cutL b l).headD []) (by rw [cut_eq b l]; exact List.mem_cons_self) hc
          exact ⟨List.mem_cons_of_mem _ this.1, this.2⟩
      · have := ih (by rw [cut_eq b l]; exact List.mem_cons_of_mem _ h) hc
        exact ⟨List.mem_cons_of_mem _ this.1, this.2⟩
theorem cut_of_mem {b : UInt8} : ∀ {l : List UInt8} {c : UInt8}, c ∈ l → c ≠ b → ∃ e ∈ cutL b l, c ∈ e
  | [], c, h, _ => by simp at h
  | d :: l, c, h, hc => by
    unfold cutL
    split
    · rename_i hd
      rcases List.mem_cons.1 h with rfl | h
      · exact absurd hd hc
      · obtain ⟨e, he, h2⟩ := cut_of_mem h hc
        exact ⟨e, List.mem_cons_of_mem _ he, h2⟩
    · rcases List.mem_cons.1 h with rfl | h
      · exact ⟨_, List.mem_cons_self, List.mem_cons_self⟩
      · obtain ⟨e, he, h2⟩ := cut_of_mem h hc
        rw [cut_eq b l] at he
        rcases List.mem_cons.1 he with rfl | he
        · exact ⟨_, List.mem_cons_self, List.mem_cons_of_mem _ h2⟩
        · exact ⟨e, List.mem_cons_of_mem _ he, h2⟩
theorem cut_len {b : UInt8} : ∀ {l e : List UInt8}, e ∈ cutL b l → e.length ≤ l.length
  | [], e, h => by
    simp [cutL] at h
    subst h
    simp
  | d :: l, e, h => by
    have ih := fun {e : List UInt8} => cut_len (b := b) (l := l) (e := e)
    unfold cutL at h
    split at h
    · rcases List.mem_cons.1 h with rfl | h
      · simp
      · have := ih h
        simp only [List.length_cons]; omega
    · rcases List.mem_cons.1 h with rfl | h
      · have := ih (e := (cutL b l).headD []) (by rw [cut_eq b l]; exact List.mem_cons_self)
        simp only [List.length_cons]; omega
      · have := ih (e := e) (by rw [cut_eq b l]; exact List.mem_cons_of_mem _ h)
        simp only [List.length_cons]; omega
theorem cut_snoc (b : UInt8) : ∀ l : List UInt8, cutL b (l ++ [b]) = cutL b l ++ [[]]
  | [] => by simp [cutL]
  | d :: l => by
    have ih := cut_snoc b l
    by_cases hd : d = b
    · subst hd
      simp [cutL, ih]
    · have e1 : cutL b (d :: l ++ [b]) = (d :: (cutL b (l ++ [b])).headD []) :: (cutL b (l ++ [b])).tail := by simp [cutL, hd]
      have e2 : cutL b (d :: l) = (d :: (cutL b l).headD []) :: (cutL b l).tail := by simp [cutL, hd]
      rw [e1, e2, ih, cut_eq b l]
      simp
theorem cut_twice : ∀ {l : List UInt8}, (idxL [47, 47] l).isSome = true → [] ∈ (cutL 47 l).tail
  | [], h => by simp [idxL] at h
  | c :: l, h => by
    by_cases h1 : (c :: l).take 2 = [47, 47]
    · match l, h1 with
      | [], h1 => simp at h1
      | d :: l, h1 =>
        simp at h1
        obtain ⟨rfl, rfl⟩ := h1
        simp [cutL]
    · have h2 : (idxL [47, 47] l).isSome = true := by
        have e : idxL [47, 47] (c :: l) = (idxL [47, 47] l).map (· + 1) := by
          conv => lhs; unfold idxL
          exact if_neg h1
        rw [e] at h
        simpa using h
      have ih := cut_twice h2
      unfold cutL
      split
      · simp
        exact List.mem_of_mem_tail ih
      · simpa using ih
theorem cut_last {l : List UInt8} (h0 : l ≠ []) (h : lb l (l.length - 1) = 47) : [] ∈ cutL 47 l := by
  have e := List.dropLast_concat_getLast h0
  have hl : l.getLast h0 = 47 := by
    have h2 : l.getD (l.length - 1) 0 = l.getLast h0 := by
      rw [List.getLast_eq_getElem, List.getD_eq_getElem?_getD, List.getElem?_eq_getElem]
      rfl
    unfold lb at h
    rw [h2] at h
    apply UInt8.toNat_inj.1
    simpa using Int.ofNat.inj h
  rw [← e, hl, cut_snoc]
  simp

theorem extract_mid (s : ByteArray) (a b : Nat) : (s.extract a b).data.toList = (s.data.toList.drop a).take (b - a) := by
  rw [ByteArray.data_extract, Array.toList_extract, List.extract_eq_take_drop]

def PathOK (K : Int) (l : List UInt8) : Prop := l ≠ [] ∧ ¬ (lb l 0 = 45 ∧ K ≠ 2) ∧ ∀ e ∈ cutL 47 l, ElemOK K e
def PathBad (l : List UInt8) : Prop := l = [] ∨ ∃ e ∈ cutL 47 l, ElemBad e
def PB (K : Int) (l : List UInt8) (b : Bool) : Prop := (asc l → (b = true ↔ PathOK K l)) ∧ (¬ asc l → (K ≠ 2 → b = false) ∧ (PathBad l → b = false))
def PathPost (w : World) (K : Int) (l : List UInt8) (e : Ending) (w' : World) : Prop :=
  ∃ b : Bool, PB K l b ∧ ((b = true ∧ e = .returned .nilIface ∧ Below w.heap.size w w') ∨ (b = false ∧ ErrS w e w'))

theorem PB.no {K : Int} {l : List UInt8} (h : asc l → ¬ PathOK K l) : PB K l false :=
  ⟨fun a => ⟨fun e => Bool.noConfusion e, fun e => absurd e (h a)⟩, fun _ => ⟨fun _ => rfl, fun _ => rfl⟩⟩
theorem path_no {w w' : World} {K : Int} {l : List UInt8} {e : Ending} (h : asc l → ¬ PathOK K l) (he : ErrS w e w') : PathPost w K l e w' := ⟨false, PB.no h, .inr ⟨rfl, he⟩⟩
theorem PathOK.ne {K : Int} {l : List UInt8} (h : PathOK K l) : [] ∉ cutL 47 l := fun h2 => (h.2.2 _ h2).1 rfl

theorem asc_cut {l e : List UInt8} (h : asc l) (he : e ∈ cutL 47 l) : asc e := fun c hc => h c (mem_of_cut he hc).1
theorem asc_of_cut {l : List UInt8} (h : ∀ e ∈ cutL 47 l, asc e) : asc l := fun c hc => by
  by_cases h2 : c = 47
  · subst h2; decide
  · obtain ⟨e, he, h3⟩ := cut_of_mem hc h2
    exact h e he c h3

/-- One element that does not serve. -/
theorem PB.elem {K : Int} {l e : List UInt8} (he : e ∈ cutL 47 l) (h : EB K e false) : asc l → ¬ PathOK K l := fun ha hp => by
  have := (h.1 (asc_cut ha he)).2 (hp.2.2 e he)
  cases this
/-- All elements serve. -/
theorem PB.yes {K : Int} {l : List UInt8} (h0 : l ≠ []) (h1 : ¬ (lb l 0 = 45 ∧ K ≠ 2)) (h : ∀ e ∈ cutL 47 l, EB K e true) : PB K l true := by
  refine ⟨fun ha => ⟨fun _ => ⟨h0, h1, fun e he => ((h e he).1 (asc_cut ha he)).1 rfl⟩, fun _ => rfl⟩, fun hn => ⟨fun hk => ?_, fun hb => ?_⟩⟩
  · refine absurd (asc_of_cut fun e he => ?_) hn
    by_cases ha : asc e
    · exact ha
    · have := ((h e he).2 ha).1 hk
      cases this
  · rcases hb with hb | ⟨e, he, hb⟩
    · exact absurd hb h0
    · by_cases ha : asc e
      · have h2 := ((h e he).1 ha).1 rfl
        rcases hb with hb | hb | hb
        · exact absurd hb h2.1
        · exact absurd hb h2.2.2.2.1
        · exact absurd hb h2.2.2.2.2.2.1
      · exact ((h e he).2 ha).2 hb

/-- What the loop over a path has done: the elements ahead of st serve; there is no stroke from st up to k. -/
def Done (K : Int) (l : List UInt8) (st k : Nat) : Prop := st ≤ k ∧ (∃ d, cutL 47 l = d ++ cutL 47 (l.drop st) ∧ ∀ e ∈ d, EB K e true) ∧ ∀ c ∈ (l.drop st).take (k - st), c ≠ 47
theorem Done.nil (K : Int) (l : List UInt8) : Done K l 0 0 := ⟨Nat.le_refl _, ⟨[], by simp, fun e he => by simp at he⟩, fun c hc => by simp at hc⟩
theorem piece_at {K : Int} {l : List UInt8} {st k : Nat} (h : Done K l st k) (hk : l[k]? = some 47) : (l.drop st).take (k - st) ∈ cutL 47 l ∧ cutL 47 (l.drop st) = (l.drop st).take (k - st) :: cutL 47 (l.drop (k + 1)) := by
  obtain ⟨h1, ⟨d, hd, h2⟩, h3⟩ := h
  have e : cutL 47 (l.drop st) = (l.drop st).take (k - st) :: cutL 47 (l.drop (k + 1)) := by
    rw [cut_at h3 (by rw [List.getElem?_drop, show st + (k - st) = k by omega]; exact hk), List.drop_drop, show st + (k - st + 1) = k + 1 by omega]
  refine ⟨?_, e⟩
  rw [hd, e]
  simp
theorem Done.stroke {K : Int} {l : List UInt8} {st k : Nat} (h : Done K l st k) (hk : l[k]? = some 47) (hb : EB K ((l.drop st).take (k - st)) true) : Done K l (k + 1) (k + 1) := by
  have e := (piece_at h hk).2
  obtain ⟨h1, ⟨d, hd, h2⟩, h3⟩ := h
  refine ⟨Nat.le_refl _, ⟨d ++ [(l.drop st).take (k - st)], ?_, ?_⟩, ?_⟩
  · rw [hd, e]; simp
  · intro x hx
    rcases List.mem_append.1 hx with hx | hx
    · exact h2 x hx
    · rw [List.mem_singleton.1 hx]; exact hb
  · intro c hc
    rw [Nat.sub_self] at hc
    simp at hc
theorem Done.more {K : Int} {l : List UInt8} {st k m : Nat} (h : Done K l st k) (hm : ∀ j, k ≤ j → j < k + m → l[j]? ≠ some 47) : Done K l st (k + m) := by
  obtain ⟨h1, h2, h3⟩ := h
  refine ⟨by omega, h2, ?_⟩
  intro c hc
  rw [show k + m - st = (k - st) + m by omega, List.take_add, List.mem_append] at hc
  rcases hc with hc | hc
  · exact h3 c hc
  · rintro rfl
    obtain ⟨j, hj, hj2⟩ := List.mem_iff_getElem.1 hc
    have hjm : j < m := by rw [List.length_take] at hj; omega
    refine hm (k + j) (by omega) (by omega) ?_
    rw [← hj2, List.getElem_take, List.getElem_drop, List.getElem_drop]
    rw [List.getElem?_eq_some_iff]
    refine ⟨?_, ?_⟩
    · rw [List.length_take, List.length_drop, List.length_drop] at hj; omega
    · congr 1; omega
theorem Done.last {K : Int} {l : List UInt8} {st k : Nat} (h : Done K l st k) (hk : l.length ≤ k) : l.drop st ∈ cutL 47 l ∧ (EB K (l.drop st) true → ∀ e ∈ cutL 47 l, EB K e true) := by
  obtain ⟨h1, ⟨d, hd, h2⟩, h3⟩ := h
  rw [List.take_of_length_le (by rw [List.length_drop]; omega)] at h3
  rw [cut_none h3] at hd
  rw [hd]
  exact ⟨by simp, fun hb e he => by
    rcases List.mem_append.1 he with he | he
    · exact h2 e he
    · rw [List.mem_singleton.1 he]; exact hb⟩

end Go.Proofs.YtpbebckhemnooaaFmt.PS
