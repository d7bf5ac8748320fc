/- fmt.Errorf at the forms in which the program calls it: an error of errors.New's make comes back; its conditions are that the tape answers fmt's stop and what lies in the operands' cells. fmt.Errorf at the forms in which the program calls it: an error of errors.New's make comes back; the conditions are that the tape answers fmt's stop, and what lies in the operands' cells. What an element of a path must be for package module, on lists of bytes; plain definitions and small lemmas, no condition. -/
import Derived.Test.YtpbebckhemnooaaFmtProg
import Derived.WalkKit
import Derived.WalkSpells
import Derived.Stop.CallBack
import Derived.Stop.IfaceNil
import Derived.Lib.Hide
import Derived.BigCall
import GoSem.ClaimData
import Derived.Test.YtpbebckhemnooaaFmtSearch

namespace Go.Proofs.YtpbebckhemnooaaFmt
open Go.RowKit Go.Extern.Stop Go.Stop Go.Extern
set_option linter.unusedVariables false
set_option linter.unusedSimpArgs false

/-! ### closed facts for the stops -/
@[go_sem] theorem callErrorf (args : Array Value) (w : World) : (callFunc 79 args).run Tryf.prog w = (FmtCalls.errorf #[9, 73] #[43] args).run Tryf.prog w :=
  run_callFunc_next Tryf.func79 (by kernel_rfl) (by kernel_rfl) (by kernel_rfl) args w
@[go_sem] theorem stopGuard (name : String) (w : World) : (FmtStop.guard name).run Tryf.prog w = .ok () w := by kernel_rfl
theorem nextTurns : Extern.next FmtCalls.turnsRow = some (FmtCalls.begun #[] #[]) := by kernel_rfl
def shapeS : List UInt8 := [12, 6, 0, 0, 0, 0, 0, 0, 0, 115, 116, 114, 105, 110, 103]
@[go_sem] theorem actS_113w (name : String) (x : Value) (w : World) : (FmtCalls.act name true 113 false (.iface 9 x)).run Tryf.prog w = .ok (.closed true) w := by kernel_rfl
@[go_sem] theorem opS_113w (name : String) (x : ByteArray) (w : World) : (FmtStop.operand name true 113 false (.iface 9 (.string x))).run Tryf.prog w = .ok (shapeS, FmtStop.pack x.data.toList) w := by kernel_rfl
@[go_sem] theorem actS_115w (name : String) (x : Value) (w : World) : (FmtCalls.act name true 115 false (.iface 9 x)).run Tryf.prog w = .ok (.closed true) w := by kernel_rfl
@[go_sem] theorem opS_115w (name : String) (x : ByteArray) (w : World) : (FmtStop.operand name true 115 false (.iface 9 (.string x))).run Tryf.prog w = .ok (shapeS, FmtStop.pack x.data.toList) w := by kernel_rfl
def shapeR : List UInt8 := [4, 5, 0, 0, 0, 0, 0, 0, 0, 105, 110, 116, 51, 50]
@[go_sem] theorem actR_113w (name : String) (x : Value) (w : World) : (FmtCalls.act name true 113 false (.iface 21 x)).run Tryf.prog w = .ok (.closed true) w := by kernel_rfl
@[go_sem] theorem opR_113w (name : String) (x : Int) (w : World) : (FmtStop.operand name true 113 false (.iface 21 (.int .i32 x))).run Tryf.prog w = .ok (shapeR, Go.Extern.Stop.digits 8 (x % 2 ^ 64).toNat) w := by kernel_rfl

@[go_sem] theorem ptrE (w : World) : (FmtStop.ptrTo "errors.errorString").run Tryf.prog w = .ok 79 w := by kernel_rfl
@[go_sem] theorem elemE (w : World) : (elemOf 79).run Tryf.prog w = .ok 81 w := by kernel_rfl

end Go.Proofs.YtpbebckhemnooaaFmt

namespace Go.Proofs.YtpbebckhemnooaaFmt
open Go.RowKit Go.Extern.Stop Go.Stop Go.Extern
set_option linter.unusedVariables false
set_option linter.unusedSimpArgs false

/-- An error of errors.New's make, in memory that is new; what was there is there. -/
def ErrS (w : World) (e : Ending) (w' : World) : Prop :=
  ∃ (a : Addr) (s : ByteArray), e = .returned (.iface 79 (.pointer (some a))) ∧ w'.cell? a = some (.string s) ∧ Below w.heap.size w w'

theorem ErrS.mono {w0 w w' : World} {e : Ending} (h : ErrS w e w') (hb : Below w0.heap.size w0 w) : ErrS w0 e w' := by
  obtain ⟨a, s, h1, h2, h3⟩ := h
  exact ⟨a, s, h1, h2, hb.trans (h3.mono hb.size)⟩

set_option maxHeartbeats 800000 in
/-- fmt.Errorf of a format without operands. -/
theorem errorf_none (f : ByteArray) (hf : ¬ 37 ∈ f.data) (w : World) :
    Calls Tryf.prog 55 #[.string f, .slice none 0 0] w (ErrS w) := by
  go_enter Tryf.func55, Tryf.ntmps55
  go_wp2
  go_ret
  exact ⟨⟨w.heap.size, 0, none⟩, f, rfl, by go_simp, (Below.refl _ _).alloc (Nat.le_refl _) _⟩

/-- What a format of one operand under %q comes to. -/
def Fmt1 (f : ByteArray) (v : UInt8) : Prop := ∀ w : World, (FmtDoors.printed f 1).run Tryf.prog w = .ok [(0, v, false)] w

set_option maxHeartbeats 800000 in
/-- fmt.Errorf of a format with one text under %q. -/
theorem errorf_str (F : Interp) (f x : ByteArray) (blk : Nat) (w : World) (hF : F.answers w.tape) (hp : Fmt1 f 113) (hc : w.cell? ⟨blk, 0, none⟩ = some (.iface 9 (.string x))) :
    Calls Tryf.prog 55 #[.string f, .slice (some ⟨blk, 0, none⟩) 1 1] w (ErrS w) := by
  have hF' := answers_open hF
  have hp' : ∀ w : World, (FmtDoors.printed f 1).run Tryf.prog w = .ok [(0, 113, false)] w := hp
  clear hp
  go_enter Tryf.func55, Tryf.ntmps55
  go_wp2
  apply rows_value nextTurns
  case hr => go_simp; exact ⟨rfl, rfl⟩
  case h =>
    go_wp2
    go_ret
    exact ⟨⟨w.heap.size, 0, none⟩, _, rfl, (by go_simp; rfl), ((Below.refl _ _).alloc (Nat.le_refl _) _).drew⟩

set_option maxHeartbeats 800000 in
/-- fmt.Errorf of a format with one rune under %q. -/
theorem errorf_rune (F : Interp) (f : ByteArray) (x : Int) (blk : Nat) (w : World) (hF : F.answers w.tape) (hp : Fmt1 f 113) (hc : w.cell? ⟨blk, 0, none⟩ = some (.iface 21 (.int .i32 x))) :
    Calls Tryf.prog 55 #[.string f, .slice (some ⟨blk, 0, none⟩) 1 1] w (ErrS w) := by
  have hF' := answers_open hF
  have hp' : ∀ w : World, (FmtDoors.printed f 1).run Tryf.prog w = .ok [(0, 113, false)] w := hp
  clear hp
  go_enter Tryf.func55, Tryf.ntmps55
  go_wp2
  apply rows_value nextTurns
  case hr => go_simp; exact ⟨rfl, rfl⟩
  case h =>
    go_wp2
    go_ret
    exact ⟨⟨w.heap.size, 0, none⟩, _, rfl, (by go_simp; rfl), ((Below.refl _ _).alloc (Nat.le_refl _) _).drew⟩

end Go.Proofs.YtpbebckhemnooaaFmt

namespace Go.Proofs.YtpbebckhemnooaaFmt.PS
open Go.RowKit Go.Proofs.YtpbebckhemnooaaFmtW.PrintWords Go.Proofs.YtpbebckhemnooaaFmtW.PrintLast Go.Proofs.YtpbebckhemnooaaFmtW.PrintMore
set_option linter.unusedVariables false
set_option linter.unusedSimpArgs false

def asc (l : List UInt8) : Prop := ∀ c ∈ l, c.toNat < 128
/-- Byte n of a list, as a number. -/
def lb (l : List UInt8) (n : Nat) : Int := ((l.getD n 0).toNat : Int)
theorem gb_lb (s : ByteArray) (n : Nat) : gb s n = lb s.data.toList n := rfl
def charI (k r : Int) : Bool := if k = 0 then modI r else if k = 1 then (modI r || r == 43) else fileOK r
def shortL (l : List UInt8) : List UInt8 := l.takeWhile (· != 46)
def namesL : List (List UInt8) := [[67, 79, 78], [80, 82, 78], [65, 85, 88], [78, 85, 76], [67, 79, 77, 49], [67, 79, 77, 50], [67, 79, 77, 51], [67, 79, 77, 52], [67, 79, 77, 53], [67, 79, 77, 54], [67, 79, 77, 55], [67, 79, 77, 56], [67, 79, 77, 57], [76, 80, 84, 49], [76, 80, 84, 50], [76, 80, 84, 51], [76, 80, 84, 52], [76, 80, 84, 53], [76, 80, 84, 54], [76, 80, 84, 55], [76, 80, 84, 56], [76, 80, 84, 57]]
def nameB (j : Nat) : ByteArray := ⟨(namesL.getD j []).toArray⟩
def badN (l : List UInt8) : Prop := ∃ j, j < 22 ∧ Lib.equalFold (namesL.getD j []) l = true
def digC (c : UInt8) : Prop := 48 ≤ c.toNat ∧ c.toNat ≤ 57
def tildeBad (l : List UInt8) : Prop := 0 ≤ lastI 126 l ∧ lastI 126 l < (l.length : Int) - 1 ∧ ∀ c ∈ l.drop ((lastI 126 l).toNat + 1), digC c

def ElemOK (k : Int) (l : List UInt8) : Prop :=
  l ≠ [] ∧ dots l ≠ l.length ∧ ¬ (lb l 0 = 46 ∧ k = 0) ∧ lb l (l.length - 1) ≠ 46 ∧ (∀ c ∈ l, charI k (c.toNat : Int) = true) ∧ ¬ badN (shortL l) ∧ (k = 2 ∨ ¬ tildeBad (shortL l))
def ElemBad (l : List UInt8) : Prop := l = [] ∨ lb l (l.length - 1) = 46 ∨ badN (shortL l)
/-- What is known of the answer. -/
def EB (k : Int) (l : List UInt8) (b : Bool) : Prop := (asc l → (b = true ↔ ElemOK k l)) ∧ (¬ asc l → (k ≠ 2 → b = false) ∧ (ElemBad l → b = false))

def ElemPost (w : World) (k : Int) (l : List UInt8) (e : Ending) (w' : World) : Prop :=
  ∃ b : Bool, EB k l b ∧ ((b = true ∧ e = .returned .nilIface ∧ Below w.heap.size w w') ∨ (b = false ∧ ErrS w e w'))

theorem EB.no {k : Int} {l : List UInt8} (h : asc l → ¬ ElemOK k l) : EB k l false :=
  ⟨fun a => ⟨fun e => Bool.noConfusion e, fun e => absurd e (h a)⟩, fun _ => ⟨fun _ => rfl, fun _ => rfl⟩⟩

theorem post_no {w w' : World} {k : Int} {l : List UInt8} {e : Ending} (h : asc l → ¬ ElemOK k l) (he : ErrS w e w') : ElemPost w k l e w' := ⟨false, EB.no h, .inr ⟨rfl, he⟩⟩

/-- Where the names lie. -/
def NamesIn (w : World) : Prop := ∃ (nb no cap : Nat), w.cell? ⟨0, 0, none⟩ = some (.slice (some ⟨nb, no, none⟩) 22 cap) ∧ ∀ j, j < 22 → w.cell? ⟨nb, no + j, none⟩ = some (.string (nameB j))

theorem NamesIn.below {w w' : World} (h : NamesIn w) (hb : Below w.heap.size w w') : NamesIn w' := by
  obtain ⟨nb, no, cap, h1, h2⟩ := h
  exact ⟨nb, no, cap, by rw [hb.cell (World.block_lt_of_cell? _ _ h1)]; exact h1, fun j hj => by rw [hb.cell (World.block_lt_of_cell? _ _ (h2 j hj))]; exact h2 j hj⟩

/-- strings.EqualFold of the names and a text. -/
def FoldOK (w : World) (t : ByteArray) : Prop := ∀ W, Below w.heap.size w W → ∀ j, j < 22 → Calls Tryf.prog 77 #[.string (nameB j), .string t] W fun e w' =>
  ∃ b : Bool, e = .returned (.bool b) ∧ (asc t.data.toList → b = Lib.equalFold (namesL.getD j []) t.data.toList) ∧ Below W.heap.size W w'

theorem names_small : ∀ j, j < 22 → (nameB j).size < 5 ∧ ∀ c ∈ (nameB j).data.toList, c.toNat < 128 := by decide

theorem FoldOK.ascii (w : World) (t : ByteArray) (ha : asc t.data.toList) : FoldOK w t := by
  intro W _ j hj
  obtain ⟨h1, h2⟩ := names_small j hj
  refine (fold_ascii (nameB j) t W (by omega) (fun i b hb => h2 b (List.mem_of_getElem? hb)) (fun i b hb => ha b (List.mem_of_getElem? hb))).mono fun e w' ⟨he, hw⟩ => ?_
  subst hw
  exact ⟨_, he, fun _ => rfl, Below.refl _ _⟩

/-- unicode.IsLetter of what is beyond ASCII. -/
def LetterOK (w : World) : Prop := ∀ W, Below w.heap.size w W → ∀ r : Int, 128 ≤ r → r ≤ 1114111 → Calls Tryf.prog 91 #[.int .i32 r] W fun e w' => ∃ b : Bool, e = .returned (.bool b) ∧ Below W.heap.size W w'

/-- The part ahead of the first dot. -/
theorem idx_short : ∀ l : List UInt8, (∀ i, idxL [46] l = some i → l.take i = shortL l ∧ i ≤ l.length) ∧ (idxL [46] l = none → shortL l = l)
  | [] => by simp [idxL, shortL]
  | c :: l => by
    obtain ⟨h1, h2⟩ := idx_short l
    by_cases hc : c = 46
    · subst hc
      have e : idxL [46] (46 :: l) = some 0 := by simp [idxL]
      rw [e]
      refine ⟨fun i hi => ?_, fun h => by cases h⟩
      obtain rfl := Option.some.inj hi
      simp [shortL]
    · have e : idxL [46] (c :: l) = (idxL [46] l).map (· + 1) := by simp [idxL, hc]
      have e2 : shortL (c :: l) = c :: shortL l := by simp [shortL, List.takeWhile_cons, hc]
      rw [e, e2]
      cases hx : idxL [46] l with
      | none => exact ⟨fun i hi => by simp at hi, fun _ => by rw [h2 hx]⟩
      | some j =>
        refine ⟨fun i hi => ?_, fun h => by simp at h⟩
        simp at hi
        subst hi
        obtain ⟨a, b⟩ := h1 j hx
        simp [a, b]

theorem shortL_sub (l : List UInt8) : ∀ c ∈ shortL l, c ∈ l := fun c hc => (List.takeWhile_prefix _).sublist.subset hc
theorem shortL_len (l : List UInt8) : (shortL l).length ≤ l.length := (List.takeWhile_prefix _).length_le

theorem data_eq_nil {s : ByteArray} (h : s.size = 0) : s.data.toList = [] := by
  have := len_size s
  exact List.eq_nil_of_length_eq_zero (by omega)
theorem data_ne_nil {s : ByteArray} (h : 0 < s.size) : s.data.toList ≠ [] := fun e => by
  have := len_size s
  rw [e] at this
  simp at this
  omega

theorem below_tape {F : Stop.Interp} {w w' : World} {B : Nat} (h : F.answers w.tape) (hb : Below B w w') : F.answers w'.tape := by rw [hb.tape]; exact h

/-- What a loop over the runes has seen. -/
def CharsTo (K : Int) (l : List UInt8) (k : Nat) : Prop := (asc l → ∀ c ∈ l.take k, charI K (c.toNat : Int) = true) ∧ (K ≠ 2 → ∀ c ∈ l.take k, c.toNat < 128)
theorem CharsTo.nil (K : Int) (l : List UInt8) : CharsTo K l 0 := ⟨fun _ c hc => by simp at hc, fun _ c hc => by simp at hc⟩
theorem CharsTo.succ {K : Int} {s : ByteArray} {k : Nat} (h : CharsTo K s.data.toList k) (hlt : k < s.size) (h1 : (s[k]'hlt).toNat < 128) (h2 : charI K ((s[k]'hlt).toNat : Int) = true) : CharsTo K s.data.toList (k + 1) := by
  obtain ⟨c, ht, hdr, hg, -⟩ := take_succ_gb s hlt
  have hc : c.toNat = (s[k]'hlt).toNat := by
    have := get_gb s k hlt
    omega
  constructor
  · intro ha d hd
    rw [ht, List.mem_append] at hd
    rcases hd with hd | hd
    · exact h.1 ha d hd
    · obtain rfl := List.mem_singleton.1 hd
      rw [hc]; exact h2
  · intro hk d hd
    rw [ht, List.mem_append] at hd
    rcases hd with hd | hd
    · exact h.2 hk d hd
    · obtain rfl := List.mem_singleton.1 hd
      omega
theorem CharsTo.all {K : Int} {l : List UInt8} {k : Nat} (h : CharsTo K l k) (hk : l.length ≤ k) : (asc l → ∀ c ∈ l, charI K (c.toNat : Int) = true) ∧ (K ≠ 2 → asc l) := by
  unfold CharsTo at h
  rw [List.take_of_length_le hk] at h
  exact h
theorem byte_mem (s : ByteArray) (k : Nat) (h : k < s.size) : s[k]'h ∈ s.data.toList := by
  have h' : k < s.data.toList.length := by rw [len_size]; exact h
  exact List.getElem_mem h'

theorem idx_none (s : ByteArray) (hs : s.size ≤ 1099511627776) (h : idxL [46] s.data.toList = none) (w : World) :
    Calls Tryf.prog 63 #[.string s, .string ⟨#[46]⟩] w fun e w' => e = .returned (.int .i64 (-1)) ∧ Below w.heap.size w w' := by
  refine (zzIndex_any s ⟨#[46]⟩ hs (by decide) (by decide) w).mono fun e w' ⟨he, hb⟩ => ⟨?_, hb⟩
  rw [he]
  simp [idxI, h]
theorem idx_some (s : ByteArray) (hs : s.size ≤ 1099511627776) {i : Nat} (h : idxL [46] s.data.toList = some i) (w : World) :
    Calls Tryf.prog 63 #[.string s, .string ⟨#[46]⟩] w fun e w' => e = .returned (.int .i64 (i : Int)) ∧ Below w.heap.size w w' := by
  refine (zzIndex_any s ⟨#[46]⟩ hs (by decide) (by decide) w).mono fun e w' ⟨he, hb⟩ => ⟨?_, hb⟩
  rw [he]
  simp [idxI, h]

/-- None of the first j names is the text. -/
def Names (t : ByteArray) (j : Nat) : Prop := asc t.data.toList → ∀ i, i < j → Lib.equalFold (namesL.getD i []) t.data.toList = false
theorem Names.nil (t : ByteArray) : Names t 0 := fun _ _ h => absurd h (Nat.not_lt_zero _)
theorem Names.succ {t : ByteArray} {j : Nat} (h : Names t j) (h2 : asc t.data.toList → false = Lib.equalFold (namesL.getD j []) t.data.toList) : Names t (j + 1) := fun ha i hi => by
  by_cases e : i = j
  · subst e; exact (h2 ha).symm
  · exact h ha i (by omega)

theorem lastByte_at (s : ByteArray) (c m : Int) (hs : s.size ≤ 1099511627776) (h : lastI c s.data.toList = m) (w : World) :
    Calls Tryf.prog 78 #[.string s, .int .u8 c] w fun e w' => e = .returned (.int .i64 m) ∧ Below w.heap.size w w' := by
  rw [← h]; exact lastByte_any s c hs w

theorem extract_drop (s : ByteArray) (k : Nat) : (s.extract k s.size).data.toList = s.data.toList.drop k := by
  rw [ByteArray.data_extract, Array.toList_extract, List.extract_eq_take_drop, List.take_of_length_le]
  rw [List.length_drop, len_size]
  exact Nat.le_refl _
theorem extract_take (s : ByteArray) (k : Nat) : (s.extract 0 k).data.toList = s.data.toList.take k := by
  rw [ByteArray.data_extract, Array.toList_extract, List.extract_eq_take_drop, List.drop_zero, Nat.sub_zero]

/-- fileNameOK of a rune beyond ASCII. -/
theorem fileName_high {w : World} (h : LetterOK w) (W : World) (hb : Below w.heap.size w W) (r : Int) (h0 : 128 ≤ r) (h1 : r ≤ 1114111) :
    Calls Tryf.prog 75 #[.int .i32 r] W fun e w' => ∃ b : Bool, e = .returned (.bool b) ∧ Below W.heap.size W w' := by
  have HC := Lib.hid (h W hb r h0 h1)
  go_enter Tryf.func75, Tryf.ntmps75
  go_wp2_with (go_at_call 91; refine HC.out.mono ?_; rintro e w5 ⟨b, rfl, hb5⟩)
  go_ret
  exact ⟨b, rfl, hb5⟩

theorem decode_small (s : ByteArray) (i : Nat) : (Utf8.decode s i).1 ≤ 1114111 := by
  have b0 : (s.get! i).toNat < 256 := (s.get! i).toNat_lt
  have b1 : (s.get! (i + 1)).toNat < 256 := (s.get! (i + 1)).toNat_lt
  have b2 : (s.get! (i + 2)).toNat < 256 := (s.get! (i + 2)).toNat_lt
  have b3 : (s.get! (i + 3)).toNat < 256 := (s.get! (i + 3)).toNat_lt
  rw [Lib.decode_at]
  unfold Lib.decodeN
  repeat' split
  all_goals simp [Utf8.runeError]
  all_goals omega

theorem foldEq_asc {x y : UInt8} (h : x.toNat < 128) (he : Lib.foldEq x y = true) : y.toNat < 128 := by
  have := of_decide_eq_true he
  omega
theorem fold_asc_of : ∀ {n l : List UInt8}, asc n → Lib.equalFold n l = true → asc l
  | [], [], _, _ => fun c hc => by simp at hc
  | x :: n, y :: l, ha, h => by
    simp only [Lib.equalFold, Bool.and_eq_true] at h
    intro c hc
    rcases List.mem_cons.1 hc with rfl | hc
    · exact foldEq_asc (ha x List.mem_cons_self) h.1
    · exact fold_asc_of (fun d hd => ha d (List.mem_cons_of_mem _ hd)) h.2 c hc
  | [], _ :: _, _, h => by simp [Lib.equalFold] at h
  | _ :: _, [], _, h => by simp [Lib.equalFold] at h
theorem decode_le (s : ByteArray) (i : Nat) (h : i < s.size) : i + (Utf8.decode s i).2 ≤ s.size := by
  rw [Lib.decode_at]
  unfold Lib.decodeN
  repeat' split
  all_goals dsimp only
  all_goals omega
/-- What folds as a name is of ASCII. -/
theorem fold_asc {l : List UInt8} (j : Nat) (hj : j < 22) (h : Lib.equalFold (namesL.getD j []) l = true) : asc l := fold_asc_of (fun c hc => (names_small j hj).2 c (by simpa [nameB] using hc)) h

end Go.Proofs.YtpbebckhemnooaaFmt.PS
