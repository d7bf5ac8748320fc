/- What is escaped and what is unescaped, on lists of bytes, and the plain laws of both; no program in sight, no condition. fmt.Errorf of a text and an error under %q and %v, and the text of an error of package module's own type; the conditions: that the tape answers fmt's stops, and what lies behind the error. module.escapeString and module.unescapeString: what they answer of a text; the condition: the text's size. -/
import Derived.Test.YtpbebckhemnooaaFmtPlainB
import Derived.Test.YtpbebckhemnooaaFmtMod
import Derived.StillTailTactics
import Derived.OwnWalk
import Derived.Maps.AppendAt

namespace Go.Proofs.YtpbebckhemnooaaFmt.PS
open Go.RowKit
set_option linter.unusedVariables false
set_option linter.unusedSimpArgs false

/-- A great letter, a small one. -/
def grC (c : UInt8) : Bool := decide (65 ≤ c.toNat) && decide (c.toNat ≤ 90)
def smC (c : UInt8) : Bool := decide (97 ≤ c.toNat) && decide (c.toNat ≤ 122)
def escC (c : UInt8) : List UInt8 := if grC c = true then [33, c + 32] else [c]
def escL : List UInt8 → List UInt8
  | [] => []
  | c :: l => escC c ++ escL l
def unescL : Bool → List UInt8 → Option (List UInt8)
  | b, [] => if b = true then none else some []
  | b, c :: l =>
    if b = true then (if smC c = true then (unescL false l).map ((c - 32) :: ·) else none)
    else if c.toNat = 33 then unescL true l
    else if grC c = true ∨ 128 ≤ c.toNat then none
    else (unescL false l).map (c :: ·)

theorem grC_iff (c : UInt8) : grC c = true ↔ 65 ≤ c.toNat ∧ c.toNat ≤ 90 := by simp [grC]
theorem smC_iff (c : UInt8) : smC c = true ↔ 97 ≤ c.toNat ∧ c.toNat ≤ 122 := by simp [smC]
theorem low_nat {c : UInt8} (h : grC c = true) : (c + 32).toNat = c.toNat + 32 := by
  have := (grC_iff c).1 h
  rw [UInt8.toNat_add]
  have : (32 : UInt8).toNat = 32 := rfl
  omega
theorem high_nat {c : UInt8} (h : smC c = true) : (c - 32).toNat = c.toNat - 32 := by
  have h2 := (smC_iff c).1 h
  have h3 : (32 : UInt8).toNat = 32 := rfl
  rw [UInt8.toNat_sub_of_le _ _ (by show (32 : UInt8).toNat ≤ c.toNat; omega)]
  omega
theorem low_small {c : UInt8} (h : grC c = true) : smC (c + 32) = true := by
  have := (grC_iff c).1 h
  rw [smC_iff, low_nat h]
  omega
theorem high_great {c : UInt8} (h : smC c = true) : grC (c - 32) = true := by
  have := (smC_iff c).1 h
  rw [grC_iff, high_nat h]
  omega
theorem low_high {c : UInt8} (h : grC c = true) : c + 32 - 32 = c := by
  apply UInt8.toNat_inj.1
  rw [high_nat (low_small h), low_nat h]
  omega
theorem high_low {c : UInt8} (h : smC c = true) : c - 32 + 32 = c := by
  have := (smC_iff c).1 h
  apply UInt8.toNat_inj.1
  rw [low_nat (high_great h), high_nat h]
  omega
theorem nat33 {c : UInt8} : c.toNat = 33 ↔ c = 33 := by
  rw [← UInt8.toNat_inj]
  exact Iff.rfl

theorem esc_app (a b : List UInt8) : escL (a ++ b) = escL a ++ escL b := by
  induction a with
  | nil => rfl
  | cons c a ih => simp [escL, ih]
theorem esc_same : ∀ {l : List UInt8}, (∀ c ∈ l, grC c = false) → escL l = l
  | [], _ => rfl
  | c :: l, h => by
    have h1 := h c List.mem_cons_self
    rw [escL, esc_same fun d hd => h d (List.mem_cons_of_mem _ hd), escC, h1]
    rfl
theorem esc_len : ∀ l : List UInt8, (escL l).length ≤ 2 * l.length
  | [] => Nat.le_refl _
  | c :: l => by
    have := esc_len l
    rw [escL, List.length_append, List.length_cons, escC]
    split <;> simp <;> omega

/-- What is escaped is unescaped to what it was. -/
theorem unesc_esc : ∀ {l : List UInt8}, asc l → (33 : UInt8) ∉ l → unescL false (escL l) = some l
  | [], _, _ => rfl
  | c :: l, ha, h => by
    have hc : c ≠ 33 := fun e => h (e ▸ List.mem_cons_self)
    have h128 := ha c List.mem_cons_self
    have ih := unesc_esc (l := l) (fun d hd => ha d (List.mem_cons_of_mem _ hd)) fun hm => h (List.mem_cons_of_mem _ hm)
    rw [escL, escC]
    cases hg : grC c with
    | true =>
      rw [if_pos rfl]
      have e33 : (33 : UInt8).toNat = 33 := rfl
      simp only [List.cons_append, List.nil_append, unescL, Bool.false_eq_true, if_false, e33, if_true, low_small hg, ih, Option.map_some, low_high hg]
    | false =>
      rw [if_neg (by decide)]
      have h3 : ¬ c.toNat = 33 := fun e => hc (nat33.1 e)
      simp only [List.cons_append, List.nil_append, unescL, Bool.false_eq_true, if_false, h3, hg, false_or, show ¬ 128 ≤ c.toNat by omega, ih, Option.map_some]
/-- What is unescaped has the text as its escaped form. -/
theorem esc_unesc : ∀ {l : List UInt8} {b : Bool} {r : List UInt8}, unescL b l = some r → escL r = if b = true then 33 :: l else l
  | [], b, r, h => by
    cases b with
    | true => simp [unescL] at h
    | false =>
      simp [unescL] at h
      subst h
      rfl
  | c :: l, b, r, h => by
    have ih := fun {b : Bool} {r : List UInt8} => esc_unesc (l := l) (b := b) (r := r)
    cases b with
    | true =>
      simp only [unescL, if_true] at h
      cases hs : smC c with
      | false => rw [hs] at h; simp at h
      | true =>
        rw [hs, if_pos rfl] at h
        obtain ⟨t, ht, rfl⟩ := Option.map_eq_some_iff.1 h
        have := ih ht
        rw [if_neg (by decide)] at this
        rw [escL, escC, if_pos (high_great hs), this, high_low hs]
        rfl
    | false =>
      simp only [unescL, Bool.false_eq_true, if_false] at h
      by_cases h3 : c.toNat = 33
      · rw [if_pos h3] at h
        have := ih h
        rw [if_pos rfl] at this
        rw [this, nat33.1 h3]
        rfl
      · rw [if_neg h3] at h
        by_cases h4 : grC c = true ∨ 128 ≤ c.toNat
        · rw [if_pos h4] at h; cases h
        · rw [if_neg h4] at h
          obtain ⟨t, ht, rfl⟩ := Option.map_eq_some_iff.1 h
          have := ih ht
          rw [if_neg (by decide)] at this
          rw [escL, escC, if_neg (fun e => h4 (.inl e)), this]
          rfl
/-- What is unescaped is of ASCII and has no exclamation mark. -/
theorem unesc_fine : ∀ {l : List UInt8} {b : Bool} {r : List UInt8}, unescL b l = some r → asc r ∧ (33 : UInt8) ∉ r
  | [], b, r, h => by
    cases b with
    | true => simp [unescL] at h
    | false =>
      simp [unescL] at h
      subst h
      exact ⟨fun c hc => by simp at hc, by simp⟩
  | c :: l, b, r, h => by
    have ih := fun {b : Bool} {r : List UInt8} => unesc_fine (l := l) (b := b) (r := r)
    cases b with
    | true =>
      simp only [unescL, if_true] at h
      cases hs : smC c with
      | false => rw [hs] at h; simp at h
      | true =>
        rw [hs, if_pos rfl] at h
        obtain ⟨t, ht, rfl⟩ := Option.map_eq_some_iff.1 h
        obtain ⟨i1, i2⟩ := ih ht
        have hh := (grC_iff _).1 (high_great hs)
        refine ⟨fun d hd => ?_, fun hm => ?_⟩
        · rcases List.mem_cons.1 hd with rfl | hd
          · omega
          · exact i1 d hd
        · rcases List.mem_cons.1 hm with e | hm
          · have e2 := congrArg UInt8.toNat e
            have : (33 : UInt8).toNat = 33 := rfl
            omega
          · exact i2 hm
    | false =>
      simp only [unescL, Bool.false_eq_true, if_false] at h
      by_cases h3 : c.toNat = 33
      · rw [if_pos h3] at h
        exact ih h
      · rw [if_neg h3] at h
        by_cases h4 : grC c = true ∨ 128 ≤ c.toNat
        · rw [if_pos h4] at h; cases h
        · rw [if_neg h4] at h
          obtain ⟨t, ht, rfl⟩ := Option.map_eq_some_iff.1 h
          obtain ⟨i1, i2⟩ := ih ht
          refine ⟨fun d hd => ?_, fun hm => ?_⟩
          · rcases List.mem_cons.1 hd with rfl | hd
            · exact Nat.lt_of_not_le fun e => h4 (.inr e)
            · exact i1 d hd
          · rcases List.mem_cons.1 hm with e | hm
            · exact h3 (nat33.2 e.symm)
            · exact i2 hm
theorem unesc_len : ∀ {l : List UInt8} {b : Bool} {r : List UInt8}, unescL b l = some r → r.length ≤ l.length
  | [], b, r, h => by
    cases b with
    | true => simp [unescL] at h
    | false =>
      simp [unescL] at h
      subst h
      simp
  | c :: l, b, r, h => by
    have ih := fun {b : Bool} {r : List UInt8} => unesc_len (l := l) (b := b) (r := r)
    have h2 := h
    unfold unescL at h2
    repeat' split at h2
    all_goals first
      | (cases h2; done)
      | (obtain ⟨t, ht, rfl⟩ := Option.map_eq_some_iff.1 h2; have := ih ht; simp; omega)
      | (have := ih h2; simp; omega)

/-- In great letters, too, the escaped form tells the text. -/
theorem up_esc : ∀ {a b : List UInt8}, (33 : UInt8) ∉ a → (33 : UInt8) ∉ b → (escL a).map up = (escL b).map up → a = b
  | [], [], _, _, _ => rfl
  | [], c :: b, _, _, h => by
    simp only [escL, escC] at h
    split at h <;> simp at h
  | c :: a, [], _, _, h => by
    simp only [escL, escC] at h
    split at h <;> simp at h
  | c :: a, d :: b, h1, h2, h => by
    have ih := up_esc (a := a) (b := b) (fun e => h1 (List.mem_cons_of_mem _ e)) (fun e => h2 (List.mem_cons_of_mem _ e))
    have hc : c ≠ 33 := fun e => h1 (e ▸ List.mem_cons_self)
    have hd : d ≠ 33 := fun e => h2 (e ▸ List.mem_cons_self)
    have u33 : up 33 = 33 := by decide
    have no33 : ∀ {x : UInt8}, x ≠ 33 → grC x = false → up x ≠ 33 := by
      intro x hx hg e
      have e2 := congrArg UInt8.toNat e
      rw [up_toNat] at e2
      have e3 : (33 : UInt8).toNat = 33 := rfl
      split at e2
      · omega
      · exact hx (nat33.1 (by omega))
    rw [escL, escL, escC, escC] at h
    cases hg : grC c with
    | true =>
      cases hg2 : grC d with
      | true =>
        rw [hg, hg2, if_pos rfl, if_pos rfl] at h
        simp only [List.cons_append, List.nil_append, List.map_cons, List.cons.injEq] at h
        obtain ⟨-, h3, h4⟩ := h
        have h5 : c = d := by
          have e2 := congrArg UInt8.toNat h3
          have x1 := (smC_iff _).1 (low_small hg)
          have x2 := (smC_iff _).1 (low_small hg2)
          rw [up_toNat, up_toNat, if_pos x1, if_pos x2, low_nat hg, low_nat hg2] at e2
          exact UInt8.toNat_inj.1 (by omega)
        rw [h5, ih h4]
      | false =>
        rw [hg, hg2, if_pos rfl, if_neg (by decide)] at h
        simp only [List.cons_append, List.nil_append, List.map_cons, List.cons.injEq, u33] at h
        exact absurd h.1.symm (no33 hd hg2)
    | false =>
      cases hg2 : grC d with
      | true =>
        rw [hg, hg2, if_neg (by decide), if_pos rfl] at h
        simp only [List.cons_append, List.nil_append, List.map_cons, List.cons.injEq, u33] at h
        exact absurd h.1 (no33 hc hg)
      | false =>
        rw [hg, hg2, if_neg (by decide), if_neg (by decide)] at h
        simp only [List.cons_append, List.nil_append, List.map_cons, List.cons.injEq] at h
        obtain ⟨h3, h4⟩ := h
        have h5 : c = d := by
          have e2 := congrArg UInt8.toNat h3
          have x1 : ¬ (65 ≤ c.toNat ∧ c.toNat ≤ 90) := fun e => by rw [(grC_iff c).2 e] at hg; cases hg
          have x2 : ¬ (65 ≤ d.toNat ∧ d.toNat ≤ 90) := fun e => by rw [(grC_iff d).2 e] at hg2; cases hg2
          rw [up_toNat, up_toNat] at e2
          apply UInt8.toNat_inj.1
          split at e2 <;> split at e2 <;> omega
        rw [h5, ih h4]

/-! ### paths -/
theorem MB.one {l : List UInt8} {b c : Bool} (h : MB l b) (h2 : MB l c) : b = c := by
  by_cases ha : asc l
  · have e : b = true ↔ c = true := (h.1 ha).trans (h2.1 ha).symm
    cases b <;> cases c <;> simp_all
  · rw [h.2 ha, h2.2 ha]
theorem MB.fine {l : List UInt8} (h : MB l true) : asc l ∧ ModOK l := by
  have ha : asc l := Classical.byContradiction fun h2 => by have := h.2 h2; cases this
  exact ⟨ha, (h.1 ha).1 rfl⟩
theorem mod_33 {l : List UInt8} (h : ModOK l) : (33 : UInt8) ∉ l := fun hm => by
  obtain ⟨e, he, h2⟩ := cut_of_mem (b := 47) hm (by decide)
  have := (h.1.2.2 e he).2.2.2.2.1 33 h2
  revert this
  decide
theorem file_47 {l : List UInt8} (h : ElemOK 2 l) : (47 : UInt8) ∉ l := fun hm => by
  have := h.2.2.2.2.1 47 hm
  revert this
  decide

theorem told_wrong {n : Int} {b : Bool} (h : laws_told.f b n = some true) (h2 : n = 2) : b = false := by
  subst h2
  revert h
  cases b <;> decide
theorem told_fine {n : Int} {b : Bool} (h : laws_told.f b n = some true) (h2 : n = 1) : b = true := by
  subst h2
  revert h
  cases b <;> decide

end Go.Proofs.YtpbebckhemnooaaFmt.PS

namespace Go.Proofs.YtpbebckhemnooaaFmt.PS
open Go.RowKit Go.Extern.Stop Go.Stop Go.Extern
set_option linter.unusedVariables false
set_option linter.unusedSimpArgs false

@[go_sem] theorem strP (w : World) : (typeStr 61).run Tryf.prog w = .ok "*module.InvalidPathError" w := by kernel_rfl
@[go_sem] theorem strE (w : World) : (typeStr 79).run Tryf.prog w = .ok "*errors.errorString" w := by kernel_rfl
@[go_sem] theorem isErrP (w : World) : (FmtDoors.textMethod 61 "Error").run Tryf.prog w = .ok true w := by kernel_rfl
@[go_sem] theorem isErrE (w : World) : (FmtDoors.textMethod 79 "Error").run Tryf.prog w = .ok true w := by kernel_rfl
@[go_sem] theorem actP_118w (name : String) (x : Value) (w : World) : (FmtCalls.act name true 118 false (.iface 61 x)).run Tryf.prog w = .ok (.call true) w := by kernel_rfl
@[go_sem] theorem actE_118 (name : String) (x : Value) (w : World) : (FmtCalls.act name false 118 false (.iface 79 x)).run Tryf.prog w = .ok (.closed false) w := by kernel_rfl
@[go_sem] theorem actE_118w (name : String) (x : Value) (w : World) : (FmtCalls.act name true 118 false (.iface 79 x)).run Tryf.prog w = .ok (.closed true) w := by kernel_rfl
theorem invokeP (x : Value) (w : World) : (invoke (.fn (.method "Error") #[]) #[.iface 61 x]).run Tryf.prog w = .ok (.enter 128 #[x]) w := by kernel_rfl
def plainE : List UInt8 := 14 :: FmtStop.pack "*errors.errorString".toUTF8.data.toList
theorem opE_118 (name : String) (a : Addr) (s : ByteArray) (w : World) (hc : w.cell? a = some (.string s)) :
    (FmtStop.operand name false 118 false (.iface 79 (.pointer (some a)))).run Tryf.prog w = .ok (plainE, s.data.toList) w := by
  have h1 : (typeStr 79).run Tryf.prog w = .ok "*errors.errorString" w := by kernel_rfl
  have d2 : Tryf.t79.desc = .pointer 81 := rfl
  have d3 : Tryf.t81.desc = .named "errors.errorString" 80 := rfl
  simp [FmtStop.operand, h1, d2, d3, run_load, hc, plainE]
theorem opE_118w (name : String) (a : Addr) (s : ByteArray) (w : World) (hc : w.cell? a = some (.string s)) :
    (FmtStop.operand name true 118 false (.iface 79 (.pointer (some a)))).run Tryf.prog w = .ok (plainE, s.data.toList) w := by
  have h1 : (typeStr 79).run Tryf.prog w = .ok "*errors.errorString" w := by kernel_rfl
  have d2 : Tryf.t79.desc = .pointer 81 := rfl
  have d3 : Tryf.t81.desc = .named "errors.errorString" 80 := rfl
  simp [FmtStop.operand, h1, d2, d3, run_load, hc, plainE]
@[go_sem] theorem fmtMal0 : FmtStop.printed? ⟨#[109, 97, 108, 102, 111, 114, 109, 101, 100, 32, 37, 115, 32, 112, 97, 116, 104, 32, 37, 113, 58, 32, 37, 118]⟩ 3 = some [(0, 115, false), (1, 113, false), (2, 118, false)] := by kernel_rfl
@[go_sem] theorem fmtMal (w : World) : (FmtDoors.printed ⟨#[109, 97, 108, 102, 111, 114, 109, 101, 100, 32, 37, 115, 32, 112, 97, 116, 104, 32, 37, 113, 58, 32, 37, 118]⟩ 3).run Tryf.prog w = .ok [(0, 115, false), (1, 113, false), (2, 118, false)] w := by kernel_rfl

set_option maxHeartbeats 1600000 in
set_option maxRecDepth 100000 in
/-- (*InvalidPathError).Error. -/
theorem pathErr_text (F : Interp) (g : Nat) (b : Addr) (t : ByteArray) (w : World) (hF : F.answers w.tape) (hp : PathErr w g 79 (.pointer (some b))) (hb : w.cell? b = some (.string t)) :
    Calls Tryf.prog 128 #[.pointer (some ⟨g, 0, none⟩)] w fun e w' => ∃ x : ByteArray, e = .returned (.string x) ∧ Below w.heap.size w w' := by
  obtain ⟨k, p, h0, h1, h2⟩ := hp
  have h1' : w.cell? ⟨g, 0 + 1, none⟩ = some (.string p) := h1
  have h2' : w.cell? ⟨g, 0 + 2, none⟩ = some (.iface 79 (.pointer (some b))) := h2
  have hF' := answers_open hF
  have hop : ∀ o, (FmtStop.operand "fmt.Sprintf" false 118 false (.iface 79 (.pointer (some b)))).run Tryf.prog (w.alloc o).drew = .ok (plainE, t.data.toList) (w.alloc o).drew := fun o => opE_118 _ _ _ _ (show (w.alloc o).cell? b = _ from alloc_keeps hb o)
  clear hb hF
  go_enter Tryf.func128, Tryf.ntmps128
  go_wp2
  go_still_tail 14, (by kernel_rfl)
  change wpList _ _ _ _ _ w.drew
  go_wp2
  apply rows_value nextTurns
  case hr => go_simp; first | exact ⟨rfl, rfl⟩ | rfl
  case h =>
    go_wp2
    go_ret
    exact ⟨_, rfl, ((Below.refl _ _).drew.alloc (Nat.le_refl _) _).drew⟩

/-- What a format of a text under %q and an error under %v comes to. -/
def Fmt2 (f : ByteArray) : Prop := ∀ w : World, (FmtDoors.printed f 2).run Tryf.prog w = .ok [(0, 113, false), (1, 118, false)] w

set_option maxHeartbeats 1600000 in
set_option maxRecDepth 100000 in
/-- fmt.Errorf of a text and an error of package module's own type. -/
theorem errorf_path (F : Interp) (f x : ByteArray) (blk g : Nat) (b : Addr) (t : ByteArray) (w : World) (hF : F.answers w.tape) (hp2 : Fmt2 f) (hc0 : w.cell? ⟨blk, 0, none⟩ = some (.iface 9 (.string x)))
    (hc1 : w.cell? ⟨blk, 1, none⟩ = some (.iface 61 (.pointer (some ⟨g, 0, none⟩)))) (hp : PathErr w g 79 (.pointer (some b))) (hb : w.cell? b = some (.string t)) :
    Calls Tryf.prog 55 #[.string f, .slice (some ⟨blk, 0, none⟩) 2 2] w (ErrS w) := by
  have hF' := answers_open hF
  have hp' : ∀ w : World, (FmtDoors.printed f 2).run Tryf.prog w = .ok [(0, 113, false), (1, 118, false)] w := hp2
  have hbl : blk < w.heap.size := World.block_lt_of_cell? _ _ hc0
  have HE := Lib.hid fun (W : World) (ht : W.tape = w.tape) (h1 : PathErr W g 79 (.pointer (some b))) (h2 : W.cell? b = some (.string t)) => pathErr_text F g b t W (by rw [ht]; exact hF) h1 h2
  clear hp2 hF
  go_enter Tryf.func55, Tryf.ntmps55
  go_wp2
  apply rows_call nextTurns
  case hr => go_simp; exact ⟨⟨rfl, rfl, rfl⟩, rfl⟩
  case hi => exact invokeP _ _
  case hc =>
    refine (HE.out _ rfl hp hb).mono fun e w₃ ⟨y, he, hx⟩ => ?_
    subst he
    have hF3 : ∀ i name reading k range, w₃.tape i (.extern (word name reading k) range) = F name reading k := by rw [hx.tape]; exact hF'
    have hc03 : w₃.cell? ⟨blk, 0, none⟩ = some (.iface 9 (.string x)) := by rw [hx.cell hbl]; exact hc0
    have hc13 : w₃.cell? ⟨blk, 1, none⟩ = some (.iface 61 (.pointer (some ⟨g, 0, none⟩))) := by rw [hx.cell hbl]; exact hc1
    apply rows_value nextReturned
    case hr => go_simp; first | exact ⟨rfl, rfl⟩ | rfl
    case h =>
      go_wp2
      go_ret
      exact ⟨⟨w₃.heap.size, 0, none⟩, _, rfl, (by go_simp; rfl), (hx.alloc hx.size _).drew⟩

set_option maxHeartbeats 1600000 in
set_option maxRecDepth 100000 in
/-- fmt.Errorf of a text and an error of errors.New's make. -/
theorem errorf_new (F : Interp) (f x : ByteArray) (blk : Nat) (b : Addr) (t : ByteArray) (w : World) (hF : F.answers w.tape) (hp2 : Fmt2 f) (hc0 : w.cell? ⟨blk, 0, none⟩ = some (.iface 9 (.string x)))
    (hc1 : w.cell? ⟨blk, 1, none⟩ = some (.iface 79 (.pointer (some b)))) (hb : w.cell? b = some (.string t)) :
    Calls Tryf.prog 55 #[.string f, .slice (some ⟨blk, 0, none⟩) 2 2] w (ErrS w) := by
  have hF' := answers_open hF
  have hp' : ∀ w : World, (FmtDoors.printed f 2).run Tryf.prog w = .ok [(0, 113, false), (1, 118, false)] w := hp2
  have hop := opE_118w "fmt.errorf" b t w hb
  clear hp2 hF hb
  go_enter Tryf.func55, Tryf.ntmps55
  go_wp2
  apply rows_value nextTurns
  case hr => go_simp; first | exact ⟨rfl, rfl⟩ | rfl
  case h =>
    go_wp2
    go_ret
    exact ⟨⟨w.heap.size, 0, none⟩, _, rfl, (by go_simp; rfl), ((Below.refl _ _).alloc (Nat.le_refl _) _).drew⟩

end Go.Proofs.YtpbebckhemnooaaFmt.PS

namespace Go.Proofs.YtpbebckhemnooaaFmt.PS
open Go.RowKit Go.Proofs.YtpbebckhemnooaaFmtW.PrintWords Go.Proofs.YtpbebckhemnooaaFmtW.PrintLast Go.Proofs.YtpbebckhemnooaaFmtW.PrintMore
set_option linter.unusedVariables false
set_option linter.unusedSimpArgs false

section
variable {P : Program} {ops : Array Oper} {rest : List Oper} {o : Oper} {a : Act} {Q : Exit → Act → World → Prop}
theorem append_two {W : World} (base : Nat) (hgd : o.guard = none) (s x : Operand) (t e : TypeId) (k : IntKind) (bytes : Nat)
    (ho : o.op = .call { callee := .builtin .append, args := #[s, x], argTypes := #[t, t] })
    (ht : P.underlying t = some (.slice e)) (hinfo : (P.info? e).map (fun i => (i.zero, i.size, i.bytes)) = some (some (.int k 0), 1, bytes)) (hb0 : 0 < bytes)
    (v : Value) (xs : List Int) (y y' : Int) (hs : a.eval s = v) (hx : a.eval x = .slice (some ⟨W.heap.size, 0, none⟩) 2 2)
    (HO : W.ownsRow base e 1 v xs.length (nums k xs)) (hbase : base ≤ W.heap.size) (hl : (xs.length + 2) * bytes ≤ 140737488355328)
    (h : ∀ v1 w1, w1.ownsRow base e 1 v1 (xs ++ [y, y']).length (nums k (xs ++ [y, y'])) → Below base W w1 → wpList P ops Q rest (a.put o.dst v1) w1) :
    wpList P ops Q (o :: rest) a (W.alloc (.cells #[.int k y, .int k y'] e)) := by
  obtain ⟨i0, hi, hzz⟩ := Option.map_eq_some_iff.1 hinfo
  simp only [Prod.mk.injEq] at hzz
  obtain ⟨hz0, hz1, hz2⟩ := hzz
  have hlen : xs.length + 2 ≤ 140737488355328 := Nat.le_trans (Nat.le_mul_of_pos_right _ hb0) hl
  have hnl : (nums k xs).length = xs.length := by simp [nums]
  refine wpList_append_own_at (W.alloc (.cells #[.int k y, .int k y'] e)) hgd s x t ho base e i0 (.int k 0) 1 bytes ht hi hz0 hz1 hz2 rfl (by omega) v xs.length (nums k xs) hs (HO.alloc _) ⟨W.heap.size, 0, none⟩ 2 2 [.int k y, .int k y'] hx rfl
    (World.news_of_block (cs := #[.int k y, .int k y']) (t := e) (fr := (0, 0)) (heap_alloc_new W _)) (by intro u hu; simp at hu; rcases hu with rfl | rfl <;> rfl) (by simp only [maxLen]; omega) hl (by simp; omega) ?_
  intro v1 w1 hown hg _ hat
  exact h v1 w1 (by simpa [nums] using hown) (((Below.refl base W).alloc hbase _).grown hg (by simp; omega) (own_base HO))
end

theorem own_iterAt {w : World} {k base n size : Nat} {s : ByteArray} {pos : Nat} {e : TypeId} {v : Value} {xs : List Value} (h : w.ownsRow base e size v n xs) (hk : k < base) : (w.iterAt k s pos).ownsRow base e size v n xs :=
  h.kept (row := some k) ⟨rfl, rfl, rfl, by rw [Lib.iterAt_size]; exact Nat.le_refl _, fun j hj hne => Lib.iterAt_other w k j s pos (fun e => hne (by rw [e]))⟩ (by
    cases hv : v.ownBlock with
    | none => exact .inl rfl
    | some b =>
      refine .inr fun e => ?_
      have := own_base h b hv
      cases e
      omega)

/-- Bytes as numbers. -/
def natsL (l : List UInt8) : List Int := l.map fun c => (c.toNat : Int)
theorem nats_str (l : List UInt8) : (strOfNums (natsL l)).data.toList = l := by
  rw [strOfNums_data, natsL, List.map_map]
  conv => rhs; rw [← List.map_id l]
  apply List.map_congr_left
  intro c _
  simp
theorem nats_app (a b : List UInt8) : natsL (a ++ b) = natsL a ++ natsL b := by simp [natsL]
theorem nats_len (l : List UInt8) : (natsL l).length = l.length := by simp [natsL]

def anyGr (l : List UInt8) : Bool := l.any grC
theorem anyGr_snoc (l : List UInt8) (c : UInt8) : anyGr (l ++ [c]) = (anyGr l || grC c) := by simp [anyGr]
def Clean (l : List UInt8) : Prop := asc l ∧ (33 : UInt8) ∉ l
def EscPost (w : World) (l : List UInt8) (e : Ending) (w' : World) : Prop :=
  (asc l ∧ (33 : UInt8) ∉ l ∧ ∃ t : ByteArray, e = .returned (.tuple #[.string t, .nilIface]) ∧ t.data.toList = escL l ∧ Below w.heap.size w w') ∨
  (¬ (asc l ∧ (33 : UInt8) ∉ l) ∧ ∃ a : Addr, e = .returned (.tuple #[.string ⟨#[]⟩, .iface 79 (.pointer (some a))]) ∧ Below w.heap.size w w')
theorem asc_snoc {l : List UInt8} {c : UInt8} (h : asc l) (h1 : c.toNat < 128) : asc (l ++ [c]) := fun d hd => by
  rcases List.mem_append.1 hd with hd | hd
  · exact h d hd
  · rw [List.mem_singleton.1 hd]; exact h1
theorem Clean.snoc {l : List UInt8} {c : UInt8} (h : Clean l) (h1 : c.toNat < 128) (h2 : (c.toNat : Int) ≠ 33) : Clean (l ++ [c]) := by
  refine ⟨asc_snoc h.1 h1, fun hm => ?_⟩
  rcases List.mem_append.1 hm with hm | hm
  · exact h.2 hm
  · rw [← List.mem_singleton.1 hm] at h2
    exact h2 rfl
theorem grC_int (c : UInt8) : grC c = true ↔ 65 ≤ (c.toNat : Int) ∧ (c.toNat : Int) ≤ 90 := by rw [grC_iff]; omega
theorem smC_int (c : UInt8) : smC c = true ↔ 97 ≤ (c.toNat : Int) ∧ (c.toNat : Int) ≤ 122 := by rw [smC_iff]; omega
theorem info_u8 : (Tryf.prog.info? 5).map (fun i => (i.zero, i.size, i.bytes)) = some (some (.int .u8 0), 1, 1) := by kernel_rfl
theorem under_bs : Tryf.prog.underlying 47 = some (.slice 5) := by kernel_rfl
theorem under_u8 : Tryf.prog.underlying 5 = some (.int .u8) := by kernel_rfl
theorem under_str : Tryf.prog.underlying 9 = some .string := by kernel_rfl

set_option maxHeartbeats 8000000 in
set_option maxRecDepth 100000 in
theorem escape_any (s : ByteArray) (hs : s.size ≤ 1099511627776) (w : World) :
    Calls Tryf.prog 56 #[.string s] w (EscPost w s.data.toList) := by
  have hgb := get_gb s
  have HLN := Lib.hid (len_size s)
  go_enter Tryf.func56, Tryf.ntmps56
  go_wp2
  go_loopw [4] (fun u wr => ∃ k : Nat, k ≤ s.size ∧ u = .bool (anyGr (s.data.toList.take k)) ∧ Hid (wr.heap[w.heap.size]? = some (.stringIter s k)) ∧ Hid (Below w.heap.size w wr) ∧ Hid (Clean (s.data.toList.take k))) (fun _ wr => s.size - wr.iterPos w.heap.size)
  case atStart => exact ⟨0, Nat.zero_le _, rfl, Lib.hid (World.iter_heap w s 0), Lib.hid ((Below.refl _ _).alloc (Nat.le_refl _) _), Lib.hid ⟨fun c hc => by simp at hc, by simp⟩⟩
  case round =>
    obtain ⟨k, hk, rfl, hit, hB, hno⟩ := hrel
    by_cases hlt : k < s.size
    · by_cases ha1 : (s[k]'hlt).toNat < 128
      · have hnx : ∀ ty, (Instr.next (.pointer (some ⟨w.heap.size, 0, none⟩)) true ty).run Tryf.prog wr = _ := fun ty => Lib.run_next_ascii_at wr w.heap.size s k ty hit.out hlt ha1
        have hB2 := Lib.hid (Lib.below_iterAt hB.out (k := w.heap.size) (Nat.le_refl _) s (k + 1))
        have hit2 := Lib.hid (Lib.iterAt_heap wr w.heap.size s k (k + 1) hit.out)
        obtain ⟨W1, hW1⟩ : ∃ W1, wr.iterAt w.heap.size s (k + 1) = W1 := ⟨_, rfl⟩
        rw [hW1] at hnx hB2 hit2
        obtain ⟨c, ht, hdr, hgc, hget⟩ := take_succ_gb s hlt
        have hg : ((s[k]'hlt).toNat : Int) = gb s k := (hgb k hlt).symm ▸ rfl
        have HA := Lib.hid (show c.toNat < 128 by omega)
        have hlo := gb_lo s k
        have hhi : gb s k < 128 := by omega
        have HT := Lib.hid ht
        have HG := Lib.hid hgc
        have HM := Lib.hid (List.mem_of_getElem? hget)
        clear hW1 ha1 ht hdr hgc hget
        by_cases hc : gb s k = 33
        · have hc2 : (gb s k == 33) = true := by simpa using hc
          have HX := Lib.hid (show ¬ (asc s.data.toList ∧ (33 : UInt8) ∉ s.data.toList) from fun h => h.2 (by
            have e : c = 33 := nat33.1 (by have := HG.out; omega)
            rw [← e]; exact HM.out))
          clear hc
          go_wp2_with (go_at_call 55; refine (errorf_none _ (by simp) _).mono ?_; rintro e w9 ⟨a9, t9, rfl, hc9, hb9⟩)
          all_goals (go_ret2; exact .inr ⟨HX.out, _, rfl, hB2.out.trans (hb9.mono hB2.out.size)⟩)
        · have hc2 : (gb s k == 33) = false := by simpa using hc
          have hcl := Lib.hid (show Clean (s.data.toList.take (k + 1)) by rw [HT.out]; exact hno.out.snoc HA.out (by have := HG.out; omega))
          have hup : Hid (anyGr (s.data.toList.take (k + 1)) = (anyGr (s.data.toList.take k) || grC c)) := Lib.hid (by rw [HT.out, anyGr_snoc])
          clear hc
          by_cases hgr : 65 ≤ gb s k ∧ gb s k ≤ 90
          · obtain ⟨g1, g2⟩ := hgr
            have e1 : Hid (anyGr (s.data.toList.take (k + 1)) = true) := Lib.hid (by rw [hup.out, (grC_int c).2 (by have := HG.out; omega)]; simp)
            go_wp2
            go_roundw
            case rel => exact ⟨k + 1, by omega, by rw [e1.out], hit2, hB2, hcl⟩
            case measure => simp only [World.iterPos, hit.out, hit2.out]; omega
          · have e1 : Hid (anyGr (s.data.toList.take (k + 1)) = anyGr (s.data.toList.take k)) := Lib.hid (by
              have : grC c = false := Bool.eq_false_iff.2 fun h => hgr (by have h2 := (grC_int c).1 h; have := HG.out; omega)
              rw [hup.out, this]; simp)
            have HGR := Lib.hid hgr
            clear hgr
            by_cases g1 : 65 ≤ gb s k
            · have g2 : ¬ gb s k ≤ 90 := fun h => HGR.out ⟨g1, h⟩
              go_wp2
              go_roundw
              case rel => exact ⟨k + 1, by omega, by rw [e1.out], hit2, hB2, hcl⟩
              case measure => simp only [World.iterPos, hit.out, hit2.out]; omega
            · go_wp2
              go_roundw
              case rel => exact ⟨k + 1, by omega, by rw [e1.out], hit2, hB2, hcl⟩
              case measure => simp only [World.iterPos, hit.out, hit2.out]; omega
      · have hnx : ∀ ty, (Instr.next (.pointer (some ⟨w.heap.size, 0, none⟩)) true ty).run Tryf.prog wr = _ := fun ty => Lib.run_next_any_at wr w.heap.size s k ty hit.out hlt
        obtain ⟨hr1, hd1⟩ := decode_high s k hlt (by omega)
        obtain ⟨r, hr⟩ : ∃ r, (Utf8.decode s k).1 = r := ⟨_, rfl⟩
        obtain ⟨dd, hdd⟩ : ∃ dd, (Utf8.decode s k).2 = dd := ⟨_, rfl⟩
        have hrm := decode_small s k
        rw [hr] at hr1 hnx hrm
        rw [hdd] at hd1 hnx
        have hB2 := Lib.hid (Lib.below_iterAt hB.out (k := w.heap.size) (Nat.le_refl _) s (k + dd))
        obtain ⟨W1, hW1⟩ : ∃ W1, wr.iterAt w.heap.size s (k + dd) = W1 := ⟨_, rfl⟩
        rw [hW1] at hnx hB2
        have HX : Hid (¬ (asc s.data.toList ∧ (33 : UInt8) ∉ s.data.toList)) := Lib.hid fun h => ha1 (h.1 _ (byte_mem s k hlt))
        have hc2 : ((r : Int) == 33) = false := by simp; omega
        have h128 : (128 : Int) ≤ (r : Int) := by omega
        clear hW1 ha1 hr hdd
        go_wp2_with (go_at_call 55; refine (errorf_none _ (by simp) _).mono ?_; rintro e w9 ⟨a9, t9, rfl, hc9, hb9⟩)
        all_goals (go_ret2; exact .inr ⟨HX.out, _, rfl, hB2.out.trans (hb9.mono hB2.out.size)⟩)
    · have hnx : ∀ ty, (Instr.next (.pointer (some ⟨w.heap.size, 0, none⟩)) true ty).run Tryf.prog wr = _ := fun ty => Lib.run_next_end_at wr w.heap.size s k ty hit.out hlt
      have hfull : s.data.toList.take k = s.data.toList := List.take_of_length_le (by rw [len_size]; omega)
      rw [hfull] at hno ⊢
      have HC := hno
      clear hno hfull
      cases hu : anyGr s.data.toList with
      | false =>
        have HE := Lib.hid (esc_same (l := s.data.toList) fun c hc => by
          unfold anyGr at hu
          exact Bool.eq_false_iff.2 fun h => by
            have := List.any_eq_false.1 hu c hc
            exact this h)
        clear hu
        go_wp2
        go_ret2
        exact .inl ⟨HC.out.1, HC.out.2, s, rfl, HE.out.symm, hB.out⟩
      | true =>
        clear hu hnx
        obtain ⟨wo, rfl⟩ : ∃ wo, wo = wr := ⟨_, rfl⟩
        have hnx : ∀ ty, (Instr.next (.pointer (some ⟨w.heap.size, 0, none⟩)) true ty).run Tryf.prog wo = _ := fun ty => Lib.run_next_end_at wo w.heap.size s k ty hit.out hlt
        go_wp2
        clear hnx
        go_loopw [7] (fun v w2 => ∃ j : Nat, j ≤ s.size ∧ Hid (w2.heap[wo.heap.size]? = some (.stringIter s j)) ∧ Hid (Below wo.heap.size wo w2) ∧ Hid (w2.ownsRow (wo.heap.size + 1) 5 1 v (natsL (escL (s.data.toList.take j))).length (nums .u8 (natsL (escL (s.data.toList.take j)))))) (fun _ w2 => s.size - w2.iterPos wo.heap.size)
        case atStart => exact ⟨0, Nat.zero_le _, Lib.hid (World.iter_heap wo s 0), Lib.hid ((Below.refl _ _).alloc (Nat.le_refl _) _), Lib.hid (World.ownsRow_nil _ _ _ _)⟩
        case round =>
          obtain ⟨j, hj, hit5, hB5, hown⟩ := hrel
          have hlj := List.length_take_le j s.data.toList
          have hlen2 : (natsL (escL (s.data.toList.take j))).length ≤ 2199023255552 := by
            have := esc_len (s.data.toList.take j)
            rw [nats_len]
            omega
          clear hlj
          by_cases hlt2 : j < s.size
          · have ha2 : (s[j]'hlt2).toNat < 128 := HC.out.1 _ (byte_mem s j hlt2)
            have hnx2 : ∀ ty, (Instr.next (.pointer (some ⟨wo.heap.size, 0, none⟩)) true ty).run Tryf.prog wr = _ := fun ty => Lib.run_next_ascii_at wr wo.heap.size s j ty hit5.out hlt2 ha2
            have hB6 := Lib.hid (Lib.below_iterAt hB5.out (k := wo.heap.size) (Nat.le_refl _) s (j + 1))
            have hit6 := Lib.hid (Lib.iterAt_heap wr wo.heap.size s j (j + 1) hit5.out)
            have hown2 := Lib.hid (own_iterAt (k := wo.heap.size) (s := s) (pos := j + 1) hown.out (Nat.lt_succ_self _))
            obtain ⟨W2, hW2⟩ : ∃ W2, wr.iterAt wo.heap.size s (j + 1) = W2 := ⟨_, rfl⟩
            rw [hW2] at hnx2 hB6 hit6 hown2
            obtain ⟨c, ht, -, hgc, -⟩ := take_succ_gb s hlt2
            have hsz2 : wo.heap.size + 1 ≤ W2.heap.size := (Array.getElem?_eq_some_iff.1 hit6.out).1
            have hg : ((s[j]'hlt2).toNat : Int) = gb s j := (hgb j hlt2).symm ▸ rfl
            have hlo := gb_lo s j
            have hhi : gb s j < 128 := by omega
            have HT := Lib.hid ht
            have HG := Lib.hid hgc
            clear hW2 ha2 ht hgc
            obtain ⟨xs, hxs⟩ : ∃ xs, natsL (escL (s.data.toList.take j)) = xs := ⟨_, rfl⟩
            rw [hxs] at hown2 hlen2
            have HXS := Lib.hid hxs
            clear hxs hown
            by_cases hgr : 65 ≤ gb s j ∧ gb s j ≤ 90
            · obtain ⟨g1, g2⟩ := hgr
              have hE : Hid (natsL (escL (s.data.toList.take (j + 1))) = xs ++ [33, gb s j + 32]) := Lib.hid (by
                have hc : grC c = true := (grC_int c).2 (by have := HG.out; omega)
                rw [HT.out, esc_app, nats_app, HXS.out]
                have := low_nat hc
                have := HG.out
                simp [escL, escC, hc, natsL]
                omega)
              go_wp2_with (at_builtin; refine append_two (wo.heap.size + 1) rfl (.tmp 42) (.tmp 47) 47 5 .u8 1 rfl under_bs info_u8 (by decide) _ xs _ _ rfl rfl hown2.out hsz2 (by omega) ?_; intro v1 w7 hown3 hB7; have hown4 := Lib.hid hown3; have hB8 := Lib.hid hB7; clear hown3 hB7)
              have hit7 : Hid (w7.heap[wo.heap.size]? = some (.stringIter s (j + 1))) := Lib.hid (by rw [hB8.out.block _ (Nat.lt_succ_self _)]; exact hit6.out)
              go_roundw
              case rel => exact ⟨j + 1, by omega, hit7, Lib.hid (hB6.out.trans (hB8.out.mono (Nat.le_succ _))), Lib.hid (by rw [hE.out]; have := hown4.out; rw [show gb s j + 97 - 65 = gb s j + 32 by omega] at this; exact this)⟩
              case measure => simp only [World.iterPos, hit5.out, hit7.out]; omega
            · have hE : Hid (natsL (escL (s.data.toList.take (j + 1))) = xs ++ [gb s j]) := Lib.hid (by
                have hc : grC c = false := Bool.eq_false_iff.2 fun h => hgr (by have h2 := (grC_int c).1 h; have := HG.out; omega)
                rw [HT.out, esc_app, nats_app, HXS.out]
                simp [escL, escC, hc, natsL, HG.out])
              have HGR := Lib.hid hgr
              clear hgr
              by_cases g1 : 65 ≤ gb s j
              · have g2 : ¬ gb s j ≤ 90 := fun h => HGR.out ⟨g1, h⟩
                go_wp2_with (at_builtin; refine print_append_num (w0 := W2) (wo.heap.size + 1) rfl (.tmp 49) (.tmp 52) 47 5 .u8 1 rfl under_bs info_u8 (by decide) _ xs _ rfl rfl hown2.out (Below.refl _ _) hsz2 (by omega) ?_; intro v1 w7 hown3 hB7 hx1 hx2; have hown4 := Lib.hid hown3; have hB8 := Lib.hid hB7; clear hown3 hB7 hx1 hx2)
                have hit7 : Hid (w7.heap[wo.heap.size]? = some (.stringIter s (j + 1))) := Lib.hid (by rw [hB8.out.block _ (Nat.lt_succ_self _)]; exact hit6.out)
                go_roundw
                case rel => exact ⟨j + 1, by omega, hit7, Lib.hid (hB6.out.trans (hB8.out.mono (Nat.le_succ _))), Lib.hid (by rw [hE.out]; exact hown4.out)⟩
                case measure => simp only [World.iterPos, hit5.out, hit7.out]; omega
              · go_wp2_with (at_builtin; refine print_append_num (w0 := W2) (wo.heap.size + 1) rfl (.tmp 49) (.tmp 52) 47 5 .u8 1 rfl under_bs info_u8 (by decide) _ xs _ rfl rfl hown2.out (Below.refl _ _) hsz2 (by omega) ?_; intro v1 w7 hown3 hB7 hx1 hx2; have hown4 := Lib.hid hown3; have hB8 := Lib.hid hB7; clear hown3 hB7 hx1 hx2)
                have hit7 : Hid (w7.heap[wo.heap.size]? = some (.stringIter s (j + 1))) := Lib.hid (by rw [hB8.out.block _ (Nat.lt_succ_self _)]; exact hit6.out)
                go_roundw
                case rel => exact ⟨j + 1, by omega, hit7, Lib.hid (hB6.out.trans (hB8.out.mono (Nat.le_succ _))), Lib.hid (by rw [hE.out]; exact hown4.out)⟩
                case measure => simp only [World.iterPos, hit5.out, hit7.out]; omega
          · have hnx2 : ∀ ty, (Instr.next (.pointer (some ⟨wo.heap.size, 0, none⟩)) true ty).run Tryf.prog wr = _ := fun ty => Lib.run_next_end_at wr wo.heap.size s j ty hit5.out hlt2
            have hfull : s.data.toList.take j = s.data.toList := List.take_of_length_le (by rw [len_size]; omega)
            rw [hfull] at hown
            have hconv := own_string (P := Tryf.prog) (src := 47) (dst := 9) under_bs under_u8 under_str hown.out
            clear hfull hlen2
            go_wp2
            go_ret2
            exact .inl ⟨HC.out.1, HC.out.2, _, rfl, nats_str _, hB.out.trans (hB5.out.mono hB.out.size)⟩

def UnescPost (w : World) (l : List UInt8) (e : Ending) (w' : World) : Prop :=
  ∃ (b : Bool) (t : ByteArray), e = .returned (.tuple #[.string t, .bool b]) ∧ ((b = true ∧ unescL false l = some t.data.toList) ∨ (b = false ∧ unescL false l = none ∧ t = ⟨#[]⟩)) ∧ Below w.heap.size w w'

theorem unesc_step (acc : List UInt8) (c : UInt8) (o : Option (List UInt8)) : (o.map (c :: ·)).map (acc ++ ·) = o.map ((acc ++ [c]) ++ ·) := by
  cases o <;> simp

set_option maxHeartbeats 8000000 in
set_option maxRecDepth 100000 in
theorem unescape_any (s : ByteArray) (hs : s.size ≤ 1099511627776) (w : World) :
    Calls Tryf.prog 60 #[.string s] w (UnescPost w s.data.toList) := by
  have hgb := get_gb s
  go_enter Tryf.func60, Tryf.ntmps60
  go_wp2
  go_loopw [4, 5] (fun v u w2 => ∃ (j : Nat) (b : Bool) (acc : List UInt8), j ≤ s.size ∧ u = .bool b ∧ acc.length ≤ j ∧ Hid (w2.heap[w.heap.size]? = some (.stringIter s j)) ∧ Hid (Below w.heap.size w w2) ∧ Hid (w2.ownsRow (w.heap.size + 1) 5 1 v (natsL acc).length (nums .u8 (natsL acc))) ∧ Hid ((unescL b (s.data.toList.drop j)).map (acc ++ ·) = unescL false s.data.toList)) (fun _ _ w2 => s.size - w2.iterPos w.heap.size)
  case atStart => exact ⟨0, false, [], Nat.zero_le _, rfl, Nat.le_refl _, Lib.hid (World.iter_heap w s 0), Lib.hid ((Below.refl _ _).alloc (Nat.le_refl _) _), Lib.hid (World.ownsRow_nil _ _ _ _), Lib.hid (by simp)⟩
  case round =>
    obtain ⟨j, b, acc, hj, rfl, hal, hit, hB, hown, hun⟩ := hrel
    by_cases hlt : j < s.size
    · obtain ⟨c, -, hdr, hgc, hget⟩ := take_succ_gb s hlt
      rw [hdr] at hun
      clear hdr
      by_cases ha1 : (s[j]'hlt).toNat < 128
      · have hnx : ∀ ty, (Instr.next (.pointer (some ⟨w.heap.size, 0, none⟩)) true ty).run Tryf.prog wr = _ := fun ty => Lib.run_next_ascii_at wr w.heap.size s j ty hit.out hlt ha1
        have hB2 := Lib.hid (Lib.below_iterAt hB.out (k := w.heap.size) (Nat.le_refl _) s (j + 1))
        have hit2 := Lib.hid (Lib.iterAt_heap wr w.heap.size s j (j + 1) hit.out)
        have hown2 := Lib.hid (own_iterAt (k := w.heap.size) (s := s) (pos := j + 1) hown.out (Nat.lt_succ_self _))
        obtain ⟨W1, hW1⟩ : ∃ W1, wr.iterAt w.heap.size s (j + 1) = W1 := ⟨_, rfl⟩
        rw [hW1] at hnx hB2 hit2 hown2
        have hsz : w.heap.size + 1 ≤ W1.heap.size := (Array.getElem?_eq_some_iff.1 hit2.out).1
        have hg : ((s[j]'hlt).toNat : Int) = gb s j := (hgb j hlt).symm ▸ rfl
        have hlo := gb_lo s j
        have hhi : gb s j < 128 := by omega
        have HG := Lib.hid hgc
        have hnl := nats_len acc
        obtain ⟨xs, hxs⟩ : ∃ xs, natsL acc = xs := ⟨_, rfl⟩
        rw [hxs] at hown2 hnl
        have HXS := Lib.hid hxs
        have hxl : xs.length ≤ 1099511627776 := by omega
        clear hW1 ha1 hgc hget hxs hown hnl
        cases b with
        | true =>
          by_cases hsm : smC c = true
          · have hr := (smC_int c).1 hsm
            have g1 : ¬ gb s j < 97 := by have := HG.out; omega
            have g2 : ¬ 122 < gb s j := by have := HG.out; omega
            have hx : Hid (natsL (acc ++ [c - 32]) = xs ++ [gb s j - 32]) := Lib.hid (by
              have := high_nat hsm
              have := HG.out
              rw [nats_app, HXS.out]
              simp [natsL]
              omega)
            have hun2 : Hid ((unescL false (s.data.toList.drop (j + 1))).map ((acc ++ [c - 32]) ++ ·) = unescL false s.data.toList) := Lib.hid (by
              rw [← unesc_step, ← hun.out]
              simp [unescL, hsm])
            clear hr hsm
            go_wp2_with (at_builtin; refine print_append_num (w0 := W1) (w.heap.size + 1) rfl (.tmp 22) (.tmp 27) 47 5 .u8 1 rfl under_bs info_u8 (by decide) _ xs _ rfl rfl hown2.out (Below.refl _ _) hsz (by omega) ?_; intro v1 w7 hown3 hB7 hx1 hx2; have hown4 := Lib.hid hown3; have hB8 := Lib.hid hB7; clear hown3 hB7 hx1 hx2)
            have hit7 : Hid (w7.heap[w.heap.size]? = some (.stringIter s (j + 1))) := Lib.hid (by rw [hB8.out.block _ (Nat.lt_succ_self _)]; exact hit2.out)
            go_roundw
            case rel => exact ⟨j + 1, false, acc ++ [c - 32], by omega, rfl, by simp; omega, hit7, Lib.hid (hB2.out.trans (hB8.out.mono (Nat.le_succ _))), Lib.hid (by rw [hx.out]; have := hown4.out; rw [show gb s j + 65 - 97 = gb s j - 32 by omega] at this; exact this), hun2⟩
            case measure => simp only [World.iterPos, hit.out, hit7.out]; omega
          · have hno : Hid (unescL false s.data.toList = none) := Lib.hid (by rw [← hun.out]; simp [unescL, hsm])
            have HS : Hid (¬ (97 ≤ gb s j ∧ gb s j ≤ 122)) := Lib.hid fun h => hsm ((smC_int c).2 (by have := HG.out; omega))
            clear hsm
            by_cases g1 : gb s j < 97
            · go_wp2
              all_goals (go_ret2; exact ⟨false, _, rfl, .inr ⟨rfl, hno.out, rfl⟩, hB2.out⟩)
            · have g2 : 122 < gb s j := by have := HS.out; omega
              go_wp2
              all_goals (go_ret2; exact ⟨false, _, rfl, .inr ⟨rfl, hno.out, rfl⟩, hB2.out⟩)
        | false =>
          by_cases h3 : c.toNat = 33
          · have hc2 : (gb s j == 33) = true := by have := HG.out; simp; omega
            have hun2 : Hid ((unescL true (s.data.toList.drop (j + 1))).map (acc ++ ·) = unescL false s.data.toList) := Lib.hid (by
              rw [← hun.out]
              simp [unescL, h3])
            clear h3
            go_wp2
            go_roundw
            case rel => exact ⟨j + 1, true, acc, by omega, rfl, by omega, hit2, hB2, by rw [HXS.out]; exact hown2, hun2⟩
            case measure => simp only [World.iterPos, hit.out, hit2.out]; omega
          · have hc2 : (gb s j == 33) = false := by have := HG.out; simp; omega
            by_cases hgr : grC c = true
            · have hr := (grC_int c).1 hgr
              have g1 : 65 ≤ gb s j := by have := HG.out; omega
              have g2 : gb s j ≤ 90 := by have := HG.out; omega
              have hno : Hid (unescL false s.data.toList = none) := Lib.hid (by rw [← hun.out]; simp [unescL, h3, hgr])
              clear hr hgr h3
              go_wp2
              all_goals (go_ret2; exact ⟨false, _, rfl, .inr ⟨rfl, hno.out, rfl⟩, hB2.out⟩)
            · have hx : Hid (natsL (acc ++ [c]) = xs ++ [gb s j]) := Lib.hid (by
                rw [nats_app, HXS.out]
                simp [natsL, HG.out])
              have hun2 : Hid ((unescL false (s.data.toList.drop (j + 1))).map ((acc ++ [c]) ++ ·) = unescL false s.data.toList) := Lib.hid (by
                rw [← unesc_step, ← hun.out]
                have h128 : ¬ 128 ≤ c.toNat := by have := HG.out; omega
                simp [unescL, h3, hgr, h128])
              have HS : Hid (¬ (65 ≤ gb s j ∧ gb s j ≤ 90)) := Lib.hid fun h => hgr ((grC_int c).2 (by have := HG.out; omega))
              clear hgr h3
              by_cases g1 : 65 ≤ gb s j
              · have g2 : ¬ gb s j ≤ 90 := fun h => HS.out ⟨g1, h⟩
                go_wp2_with (at_builtin; refine print_append_num (w0 := W1) (w.heap.size + 1) rfl (.tmp 37) (.tmp 40) 47 5 .u8 1 rfl under_bs info_u8 (by decide) _ xs _ rfl rfl hown2.out (Below.refl _ _) hsz (by omega) ?_; intro v1 w7 hown3 hB7 hx1 hx2; have hown4 := Lib.hid hown3; have hB8 := Lib.hid hB7; clear hown3 hB7 hx1 hx2)
                have hit7 : Hid (w7.heap[w.heap.size]? = some (.stringIter s (j + 1))) := Lib.hid (by rw [hB8.out.block _ (Nat.lt_succ_self _)]; exact hit2.out)
                go_roundw
                case rel => exact ⟨j + 1, false, acc ++ [c], by omega, rfl, by simp; omega, hit7, Lib.hid (hB2.out.trans (hB8.out.mono (Nat.le_succ _))), Lib.hid (by rw [hx.out]; exact hown4.out), hun2⟩
                case measure => simp only [World.iterPos, hit.out, hit7.out]; omega
              · go_wp2_with (at_builtin; refine print_append_num (w0 := W1) (w.heap.size + 1) rfl (.tmp 37) (.tmp 40) 47 5 .u8 1 rfl under_bs info_u8 (by decide) _ xs _ rfl rfl hown2.out (Below.refl _ _) hsz (by omega) ?_; intro v1 w7 hown3 hB7 hx1 hx2; have hown4 := Lib.hid hown3; have hB8 := Lib.hid hB7; clear hown3 hB7 hx1 hx2)
                have hit7 : Hid (w7.heap[w.heap.size]? = some (.stringIter s (j + 1))) := Lib.hid (by rw [hB8.out.block _ (Nat.lt_succ_self _)]; exact hit2.out)
                go_roundw
                case rel => exact ⟨j + 1, false, acc ++ [c], by omega, rfl, by simp; omega, hit7, Lib.hid (hB2.out.trans (hB8.out.mono (Nat.le_succ _))), Lib.hid (by rw [hx.out]; exact hown4.out), hun2⟩
                case measure => simp only [World.iterPos, hit.out, hit7.out]; omega
      · have hnx : ∀ ty, (Instr.next (.pointer (some ⟨w.heap.size, 0, none⟩)) true ty).run Tryf.prog wr = _ := fun ty => Lib.run_next_any_at wr w.heap.size s j ty hit.out hlt
        have hno : Hid (unescL false s.data.toList = none) := Lib.hid (by
          have h128 : 128 ≤ c.toNat := by have := hgb j hlt; omega
          have h33 : ¬ c.toNat = 33 := by omega
          have hsm : smC c = false := Bool.eq_false_iff.2 fun h => by have := (smC_iff c).1 h; omega
          rw [← hun.out]
          cases b <;> simp [unescL, h128, h33, hsm])
        obtain ⟨hr1, hd1⟩ := decode_high s j hlt (by omega)
        obtain ⟨r, hr⟩ : ∃ r, (Utf8.decode s j).1 = r := ⟨_, rfl⟩
        obtain ⟨dd, hdd⟩ : ∃ dd, (Utf8.decode s j).2 = dd := ⟨_, rfl⟩
        have hrm := decode_small s j
        rw [hr] at hr1 hnx hrm
        rw [hdd] at hd1 hnx
        have hB2 := Lib.hid (Lib.below_iterAt hB.out (k := w.heap.size) (Nat.le_refl _) s (j + dd))
        obtain ⟨W1, hW1⟩ : ∃ W1, wr.iterAt w.heap.size s (j + dd) = W1 := ⟨_, rfl⟩
        rw [hW1] at hnx hB2
        have h128 : (128 : Int) ≤ (r : Int) := by omega
        clear hW1 ha1 hr hdd hgc hget
        go_wp2
        all_goals (go_ret2; exact ⟨false, _, rfl, .inr ⟨rfl, hno.out, rfl⟩, hB2.out⟩)
    · have hnx : ∀ ty, (Instr.next (.pointer (some ⟨w.heap.size, 0, none⟩)) true ty).run Tryf.prog wr = _ := fun ty => Lib.run_next_end_at wr w.heap.size s j ty hit.out hlt
      have hfull : s.data.toList.drop j = [] := List.drop_eq_nil_of_le (by rw [len_size]; omega)
      rw [hfull] at hun
      clear hfull
      cases b with
      | true =>
        go_wp2
        go_ret2
        exact ⟨false, _, rfl, .inr ⟨rfl, by rw [← hun.out]; rfl, rfl⟩, hB.out⟩
      | false =>
        have hconv := own_string (P := Tryf.prog) (src := 47) (dst := 9) under_bs under_u8 under_str hown.out
        go_wp2
        go_ret2
        exact ⟨true, _, rfl, .inl ⟨rfl, by rw [← hun.out, nats_str]; simp [unescL]⟩, hB.out⟩

end Go.Proofs.YtpbebckhemnooaaFmt.PS
