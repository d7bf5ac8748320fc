/- unicode.IsLetter and strings.EqualFold of what is beyond ASCII: they answer; the conditions: where unicode.Letter, unicode.asciiFold and the tables of unicode/utf8 lie, and that unicode.properties holds bytes. -/
import Derived.Test.YtpbebckhemnooaaFmtShelf
import Derived.Test.YtpbebckhemnooaaFmtPath
import Derived.Shelf.Unicode.PredsAny
import Derived.Shelf.Unicode.PredsPay
namespace Go.Proofs.YtpbebckhemnooaaFmt.PS
open Go.RowKit Go.Lib Go.Shelf
set_option linter.unusedVariables false
set_option linter.unusedSimpArgs false

def foldT : List Int := [0, 1, 2, 3, 4, 5, 6, 7, 8, 9, 10, 11, 12, 13, 14, 15, 16, 17, 18, 19, 20, 21, 22, 23, 24, 25, 26, 27, 28, 29, 30, 31, 32, 33, 34, 35, 36, 37, 38, 39, 40, 41, 42, 43, 44, 45, 46, 47, 48, 49, 50, 51, 52, 53, 54, 55, 56, 57, 58, 59, 60, 61, 62, 63, 64, 97, 98, 99, 100, 101, 102, 103, 104, 105, 106, 107, 108, 109, 110, 111, 112, 113, 114, 115, 116, 117, 118, 119, 120, 121, 122, 91, 92, 93, 94, 95, 96, 65, 66, 67, 68, 69, 70, 71, 72, 73, 74, 8490, 76, 77, 78, 79, 80, 81, 82, 383, 84, 85, 86, 87, 88, 89, 90, 123, 124, 125, 126, 127]
/-- Where the tables lie. -/
structure Tabs (w : World) : Prop where
  letter : RVar 4 letterT w
  prop : ∀ i, i < 256 → ∃ x : Int, w.cell? ⟨3, i, none⟩ = some (.int .u8 x)
  fold : ∀ i, i < 128 → w.cell? ⟨5, i, none⟩ = some (.int .u16 (foldT.getD i 0))
  utf8 : Lib.Utf8Tabs 1 2 w
theorem Tabs.below {w w' : World} (h : Tabs w) (hb : Below w.heap.size w w') : Tabs w' :=
  ⟨RVar_below h.letter hb, fun i hi => by
    obtain ⟨x, hx⟩ := h.prop i hi
    exact ⟨x, by rw [hb.cell (World.block_lt_of_cell? _ _ hx)]; exact hx⟩, fun i hi => by rw [hb.cell (World.block_lt_of_cell? _ _ (h.fold i hi))]; exact h.fold i hi, Utf8Tabs_below h.utf8 hb⟩

def BoolAny (w : World) (e : Ending) (w' : World) : Prop := ∃ b : Bool, e = .returned (.bool b) ∧ Below w.heap.size w w'

set_option maxHeartbeats 1600000 in
set_option maxRecDepth 100000 in
theorem letter_any (n : Nat) (h0 : 128 ≤ n) (h1 : n ≤ 1114111) (w : World) (hT : Tabs w) : Calls Tryf.prog 91 #[.int .i32 (n : Int)] w (BoolAny w) := by
  have z0 : (128 : Int) ≤ (n : Int) := by omega
  have z1 : (n : Int) ≤ 1114111 := by omega
  by_cases h2 : n ≤ 255
  · have z2 : (n : Int) ≤ 255 := by omega
    obtain ⟨x, hx⟩ := hT.prop n (by omega)
    have e1 : (n : Int) % 256 = (n : Int) := by omega
    have e2 : (n : Int) % 4294967296 = (n : Int) := by omega
    clear hT
    go_enter Tryf.func91, Tryf.ntmps91
    go_wp2
    go_ret
    exact ⟨_, rfl, Below.refl _ _⟩
  · have z2 : ¬ (n : Int) ≤ 255 := by omega
    have e2 : (n : Int) % 4294967296 = (n : Int) := by omega
    obtain ⟨Tb, oT, hc, hA⟩ := hT.letter
    have HC := Lib.hid (Tryf.unicode_isExcludingLatin_any Tb oT letterT (n : Int) w (by omega) (by omega) hA letterT_ok)
    clear hT hA
    go_enter Tryf.func91, Tryf.ntmps91
    go_wp2_with (go_at_call 103; refine HC.out.mono ?_; rintro e w5 ⟨rfl, hb5⟩)
    go_ret
    exact ⟨_, rfl, hb5⟩

theorem Tabs.letterOK {w : World} (h : Tabs w) : LetterOK w := fun W hb r h0 h1 => by
  obtain ⟨n, rfl⟩ := Int.eq_ofNat_of_zero_le (by omega : 0 ≤ r)
  exact letter_any n (by omega) (by omega) W (h.below hb)

set_option maxHeartbeats 1600000 in
set_option maxRecDepth 100000 in
theorem simple_any (n : Nat) (x : Int) (hn : n < 128) (hx0 : 0 ≤ x) (hx1 : x ≤ 65535) (w : World) (hc : w.cell? ⟨5, n, none⟩ = some (.int .u16 x)) :
    Calls Tryf.prog 93 #[.int .i32 (n : Int)] w fun e w' => e = .returned (.int .i32 x) ∧ w = w' := by
  have z0 : (0 : Int) ≤ (n : Int) := by omega
  have z1 : (n : Int) < 128 := by omega
  go_enter Tryf.func93, Tryf.ntmps93
  go_wp2
  go_ret
  exact ⟨rfl, rfl⟩

set_option maxRecDepth 100000 in
theorem fold_names : ∀ j, j < 22 → ∀ c ∈ namesL.getD j [], 0 ≤ foldT.getD c.toNat 0 ∧ foldT.getD c.toNat 0 < 128 ∧ foldT.getD (foldT.getD c.toNat 0).toNat 0 = (c.toNat : Int) := by decide

/-- Where the walk of strings.EqualFold jumps: the byte i of the second text is beyond ASCII. -/
def JumpAt (s t : ByteArray) (w : World) (a : Act) (w' : World) : Prop :=
  w' = w ∧ ∃ (i : Nat) (_ : i < s.size) (ht : i < t.size), 128 ≤ (t[i]'ht).toNat ∧ ∃ u : Nat → Value, a = { tmps := #[.string s, .string t, u 2, u 3, u 4, .int .i64 i, u 6, u 7, u 8, u 9, u 10, u 11, u 12, u 13, u 14, u 15, u 16, u 17, u 18, u 19, u 20, u 21, u 22, u 23, u 24, u 25, u 26, u 27, u 28, u 29, u 30, u 31, u 32, u 33, u 34, u 35, u 36, u 37, u 38, u 39, u 40, u 41, u 42, u 43, u 44, u 45, u 46, u 47, u 48, u 49, u 50, u 51, u 52, u 53, u 54, u 55, u 56, u 57, u 58, u 59, u 60, u 61, u 62, u 63, u 64, u 65, u 66, u 67, u 68, u 69, u 70, u 71, u 72, u 73, u 74, u 75, u 76, u 77, u 78, u 79, u 80, u 81, u 82, u 83, u 84, u 85, u 86, u 87, u 88, u 89, u 90, u 91, u 92, u 93, u 94, u 95, u 96, u 97, u 98, u 99, u 100, u 101, u 102, u 103, u 104, u 105, u 106, u 107, u 108, u 109, u 110, u 111, u 112, u 113, u 114, u 115, u 116, u 117, u 118, u 119, u 120, u 121, u 122], defers := [] }
theorem jump_mk {s t : ByteArray} {w : World} {tm : Array Value} (i : Nat) (hs : i < s.size) (ht : i < t.size) (hy : 128 ≤ (t[i]'ht).toNat)
    (h : tm = #[.string s, .string t, tm.getD 2 undef, tm.getD 3 undef, tm.getD 4 undef, .int .i64 i, tm.getD 6 undef, tm.getD 7 undef, tm.getD 8 undef, tm.getD 9 undef, tm.getD 10 undef, tm.getD 11 undef, tm.getD 12 undef, tm.getD 13 undef, tm.getD 14 undef, tm.getD 15 undef, tm.getD 16 undef, tm.getD 17 undef, tm.getD 18 undef, tm.getD 19 undef, tm.getD 20 undef, tm.getD 21 undef, tm.getD 22 undef, tm.getD 23 undef, tm.getD 24 undef, tm.getD 25 undef, tm.getD 26 undef, tm.getD 27 undef, tm.getD 28 undef, tm.getD 29 undef, tm.getD 30 undef, tm.getD 31 undef, tm.getD 32 undef, tm.getD 33 undef, tm.getD 34 undef, tm.getD 35 undef, tm.getD 36 undef, tm.getD 37 undef, tm.getD 38 undef, tm.getD 39 undef, tm.getD 40 undef, tm.getD 41 undef, tm.getD 42 undef, tm.getD 43 undef, tm.getD 44 undef, tm.getD 45 undef, tm.getD 46 undef, tm.getD 47 undef, tm.getD 48 undef, tm.getD 49 undef, tm.getD 50 undef, tm.getD 51 undef, tm.getD 52 undef, tm.getD 53 undef, tm.getD 54 undef, tm.getD 55 undef, tm.getD 56 undef, tm.getD 57 undef, tm.getD 58 undef, tm.getD 59 undef, tm.getD 60 undef, tm.getD 61 undef, tm.getD 62 undef, tm.getD 63 undef, tm.getD 64 undef, tm.getD 65 undef, tm.getD 66 undef, tm.getD 67 undef, tm.getD 68 undef, tm.getD 69 undef, tm.getD 70 undef, tm.getD 71 undef, tm.getD 72 undef, tm.getD 73 undef, tm.getD 74 undef, tm.getD 75 undef, tm.getD 76 undef, tm.getD 77 undef, tm.getD 78 undef, tm.getD 79 undef, tm.getD 80 undef, tm.getD 81 undef, tm.getD 82 undef, tm.getD 83 undef, tm.getD 84 undef, tm.getD 85 undef, tm.getD 86 undef, tm.getD 87 undef, tm.getD 88 undef, tm.getD 89 undef, tm.getD 90 undef, tm.getD 91 undef, tm.getD 92 undef, tm.getD 93 undef, tm.getD 94 undef, tm.getD 95 undef, tm.getD 96 undef, tm.getD 97 undef, tm.getD 98 undef, tm.getD 99 undef, tm.getD 100 undef, tm.getD 101 undef, tm.getD 102 undef, tm.getD 103 undef, tm.getD 104 undef, tm.getD 105 undef, tm.getD 106 undef, tm.getD 107 undef, tm.getD 108 undef, tm.getD 109 undef, tm.getD 110 undef, tm.getD 111 undef, tm.getD 112 undef, tm.getD 113 undef, tm.getD 114 undef, tm.getD 115 undef, tm.getD 116 undef, tm.getD 117 undef, tm.getD 118 undef, tm.getD 119 undef, tm.getD 120 undef, tm.getD 121 undef, tm.getD 122 undef]) : JumpAt s t w { tmps := tm, defers := [] } w :=
  ⟨rfl, i, hs, ht, hy, fun n => tm.getD n undef, congrArg (fun x => Act.mk x []) h⟩

set_option maxHeartbeats 8000000 in
set_option maxRecDepth 1000000 in
theorem fold_high (s t : ByteArray) (hs5 : s.size < 5) (ht : t.size ≤ 1099511627776) (hsa : ∀ c ∈ s.data.toList, c.toNat < 128)
    (hsf : ∀ c ∈ s.data.toList, 0 ≤ foldT.getD c.toNat 0 ∧ foldT.getD c.toNat 0 < 128 ∧ foldT.getD (foldT.getD c.toNat 0).toNat 0 = (c.toNat : Int)) (w : World) (hT : Tabs w) :
    Calls Tryf.prog 77 #[.string s, .string t] w (BoolAny w) := by
  have HSA := Lib.hid hsa
  have HSF := Lib.hid hsf
  have HT := Lib.hid hT
  clear hsa hsf hT
  obtain ⟨M, hM⟩ : ∃ M : Nat, min (s.size : Int) (t.size : Int) = (M : Int) := ⟨min s.size t.size, by omega⟩
  have hMs : M ≤ s.size := by omega
  have hMt : M ≤ t.size := by omega
  go_enter Tryf.func77, Tryf.ntmps77
  go_wp2
  refine wp_scope_jumps 0 (JumpAt s t w) (fun _ _ => 0) rfl ?_ ?_
  · go_wp2
    go_loopg [5] M (fun g s5 wx => w = wx ∧ ∃ i : Nat, i + g = M ∧ s5 = .int .i64 i)
    case atStart => exact ⟨rfl, 0, by omega, rfl⟩
    case round =>
      obtain ⟨rfl, i, hig, rfl⟩ := hrel
      clear hM
      cases gk with
      | zero =>
        have hiM : ¬ ((i : Int) < (M : Int)) := by omega
        go_wp2
        (try simp only [Exit.jump])
        go_ret
        exact ⟨_, rfl, Below.refl _ _⟩
      | succ g =>
        have hiM : (i : Int) < (M : Int) := by omega
        have hisz : (i : Int) < (s.size : Int) := by omega
        have hitz : (i : Int) < (t.size : Int) := by omega
        have his : i < s.size := by omega
        have hit : i < t.size := by omega
        have hsm := HSA.out _ (byte_mem s i his)
        obtain ⟨x, hx⟩ : ∃ x : UInt8, s[i]'(by omega) = x := ⟨_, rfl⟩
        obtain ⟨y, hy⟩ : ∃ y : UInt8, t[i]'(by omega) = y := ⟨_, rfl⟩
        rw [hx] at hsm
        have hx128 : x.toNat < 128 := hsm
        by_cases hy128 : y.toNat < 128
        · have hor : bits .or .u8 (x.toNat : Int) (y.toNat : Int) = ((x.toNat ||| y.toNat : Nat) : Int) := u8_or_nat _ _ (by omega) (by omega)
          have hor128 : ¬ ((128 : Int) ≤ ((x.toNat ||| y.toNat : Nat) : Int)) := by have := Nat.or_lt_two_pow (n := 7) hx128 hy128; omega
          go_wp2
          all_goals (try simp only [beq_iff_eq, beq_eq_false_iff_ne, ne_eq] at *)
          all_goals first
            | (go_roundg g
               case measure => omega
               case rel => exact ⟨rfl, i + 1, by omega, by first | rfl | simp⟩)
            | ((try simp only [Exit.jump])
               go_ret
               exact ⟨_, rfl, Below.refl _ _⟩)
        · have hylt := y.toNat_lt
          have hor : bits .or .u8 (x.toNat : Int) (y.toNat : Int) = ((x.toNat ||| y.toNat : Nat) : Int) := u8_or_nat _ _ (by omega) (by omega)
          have hor128 : (128 : Int) ≤ ((x.toNat ||| y.toNat : Nat) : Int) := by have := @Nat.right_le_or x.toNat y.toNat; omega
          have HY : Hid (128 ≤ (t[i]'hit).toNat) := Lib.hid (by rw [hy]; omega)
          go_wp2
          go_step3
          exact ⟨rfl, jump_mk i his hit HY.out rfl⟩
  · rintro a' w' ⟨hw, i, his, hit, hy128, u, rfl⟩
    rw [hw]
    clear hw
    clear hM
    have hsm := HSA.out _ (byte_mem s i his)
    have hsf := HSF.out _ (byte_mem s i his)
    obtain ⟨x, hx⟩ : ∃ x : UInt8, s[i]'(by omega) = x := ⟨_, rfl⟩
    obtain ⟨y, hy⟩ : ∃ y : UInt8, t[i]'(by omega) = y := ⟨_, rfl⟩
    rw [hx] at hsm hsf
    rw [hy] at hy128
    have hx128 : x.toNat < 128 := hsm
    have hisz : (i : Int) ≤ (s.size : Int) := by omega
    have hitz : (i : Int) ≤ (t.size : Int) := by omega
    obtain ⟨s2, hs2⟩ : ∃ s2, s.extract i s.size = s2 := ⟨_, rfl⟩
    obtain ⟨t2, ht2⟩ : ∃ t2, t.extract i t.size = t2 := ⟨_, rfl⟩
    have zs2 : s2.size + i = s.size := by rw [← hs2, Lib.ext_size]; omega
    have zt2 : t2.size + i = t.size := by rw [← ht2, Lib.ext_size]; omega
    have hs0 : 0 < s2.size := by omega
    have ht0 : 0 < t2.size := by omega
    have hx0 : (s2[0]'hs0) = x := by subst hs2; rw [← hx]; simp [ByteArray.getElem_extract]
    have hy0 : (t2[0]'ht0) = y := by subst ht2; rw [← hy]; simp [ByteArray.getElem_extract]
    have hdg : Lib.decodeGo t2 = Utf8.decode t2 0 := by unfold Lib.decodeGo; rw [if_neg (by omega)]
    obtain ⟨hr1, hd1⟩ := decode_high t2 0 ht0 (by rw [hy0]; omega)
    have hdl := decode_le t2 0 ht0
    have hrm := decode_small t2 0
    obtain ⟨r, hr⟩ : ∃ r, (Utf8.decode t2 0).1 = r := ⟨_, rfl⟩
    obtain ⟨dd, hdd⟩ : ∃ dd, (Utf8.decode t2 0).2 = dd := ⟨_, rfl⟩
    have HDEC := Lib.hid fun (W : World) (hb : Below w.heap.size w W) => Tryf.utf8_DecodeRuneInString t2 W (HT.out.below hb).utf8
    rw [hdg, hr, hdd] at HDEC
    rw [hr] at hr1 hrm
    rw [hdd] at hd1 hdl
    have zdd : (dd : Int) ≤ (t2.size : Int) := by omega
    have zr : (128 : Int) ≤ (r : Int) := by omega
    have zr2 : (r : Int) ≤ 1114111 := by omega
    obtain ⟨d, hd⟩ : ∃ d : Nat, foldT.getD x.toNat 0 = (d : Int) := ⟨(foldT.getD x.toNat 0).toNat, by omega⟩
    have hd128 : d < 128 := by omega
    have hdd2 : foldT.getD d 0 = (x.toNat : Int) := by have := hsf.2.2; rw [hd] at this; simpa using this
    have HS1 := Lib.hid fun (W : World) (hb : Below w.heap.size w W) => simple_any x.toNat (d : Int) hx128 (by omega) (by omega) W (by rw [← hd]; exact (HT.out.below hb).fold _ hx128)
    have HS2 := Lib.hid fun (W : World) (hb : Below w.heap.size w W) => simple_any d (x.toNat : Int) hd128 (by omega) (by omega) W (by rw [← hdd2]; exact (HT.out.below hb).fold _ hd128)
    have hx1 : (x.toNat : Int) < 128 := by omega
    have hx00 : (0 : Int) ≤ (x.toNat : Int) := by omega
    have hdz : (d : Int) < 128 := by omega
    have hne1 : ((r : Int) == (x.toNat : Int)) = false := by simp; omega
    have hne2 : ((d : Int) == (r : Int)) = false := by simp; omega
    have hne3 : ((x.toNat : Int) == (r : Int)) = false := by simp; omega
    have hlt1 : ¬ (r : Int) < (x.toNat : Int) := by omega
    have hlt2 : ¬ (r : Int) < 128 := by omega
    have hlt3 : (d : Int) < (r : Int) := by omega
    have zt0 : ((t2.size : Int) == 0) = false := beq_eq_false_iff_ne.2 (by omega)
    have HX0 := Lib.hid hx0
    have hnz : ∀ (W : World) ty, W.heap[w.heap.size]? = some (.stringIter s2 0) → (Instr.next (.pointer (some ⟨w.heap.size, 0, none⟩)) true ty).run Tryf.prog W = _ := fun W ty hi => Lib.run_next_ascii_at W w.heap.size s2 0 ty hi hs0 (by rw [hx0]; exact hx128)
    rw [hx0] at hnz
    have HNZ := Lib.hid hnz
    clear hsf hsm hr hdd hdg hd hdd2 hy0 hnz hx hy hx0
    go_wp2
    clear hs2 ht2
    go_loopw [1] (fun v wr => v = .string t2 ∧ Hid (wr.heap[w.heap.size]? = some (.stringIter s2 0)) ∧ Hid (Below w.heap.size w wr)) (fun _ _ => 0)
    case atStart => exact ⟨rfl, Lib.hid (World.iter_heap w s2 0), Lib.hid ((Below.refl _ _).alloc (Nat.le_refl _) _)⟩
    case round =>
      obtain ⟨rfl, hit2, hB⟩ := hrel
      have hnx : ∀ ty, (Instr.next (.pointer (some ⟨w.heap.size, 0, none⟩)) true ty).run Tryf.prog wr = _ := fun ty => HNZ.out wr ty hit2.out
      have hB2 := Lib.hid (Lib.below_iterAt hB.out (k := w.heap.size) (Nat.le_refl _) s2 (0 + 1))
      obtain ⟨W1, hW1⟩ : ∃ W1, wr.iterAt w.heap.size s2 (0 + 1) = W1 := ⟨_, rfl⟩
      rw [hW1] at hnx hB2
      clear hW1
      go_wp2_with (first
        | (go_at_call 92; refine (HDEC.out _ hB2.out).mono ?_; rintro e w5 ⟨rfl, hb5⟩; have hk5 := hB2.out.trans (hb5.mono hB2.out.size))
        | (go_at_call 93; refine (HS1.out _ hk5).mono ?_; rintro e w6 ⟨rfl, rfl⟩))
      clear hnx
      go_loopw [13] (fun q wx => (q = .int .i32 (d : Int) ∨ q = .int .i32 (x.toNat : Int)) ∧ Hid (Below w.heap.size w wx)) (fun q _ => if intOf q = (x.toNat : Int) then 0 else 1)
      case atStart => exact ⟨.inl rfl, Lib.hid hk5⟩
      case round =>
        obtain ⟨hq, hBx⟩ := hrel
        by_cases hdx : (d : Int) = (x.toNat : Int)
        · have heq : ((x.toNat : Int) == (x.toNat : Int)) = true := by simp
          rw [hdx, or_self] at hq
          subst hq
          go_wp2
          (try simp only [Exit.jump])
          go_ret
          exact ⟨_, rfl, hBx.out⟩
        · rcases hq with rfl | rfl
          · have heq : ((d : Int) == (x.toNat : Int)) = false := by simpa using hdx
            have heq2 : ((d : Int) != (x.toNat : Int)) = true := by simpa using hdx
            go_wp2_with (go_at_call 93; refine (HS2.out _ hBx.out).mono ?_; rintro e w6 ⟨rfl, rfl⟩)
            go_roundw
            case rel => exact ⟨.inr rfl, hBx⟩
            case measure => simp [intOf, hdx]
          · have heq : ((x.toNat : Int) == (x.toNat : Int)) = true := by simp
            go_wp2
            (try simp only [Exit.jump])
            go_ret
            exact ⟨_, rfl, hBx.out⟩

theorem Tabs.foldAll {w : World} (h : Tabs w) : FoldAll w := fun t ht => by
  by_cases ha : asc t.data.toList
  · exact FoldOK.ascii w t ha
  · intro W hb j hj
    obtain ⟨h1, h2⟩ := names_small j hj
    refine (fold_high (nameB j) t h1 ht h2 (by simpa [nameB] using fold_names j hj) W (h.below hb)).mono fun e w' ⟨b, he, hw⟩ => ?_
    exact ⟨b, he, fun h => absurd h ha, hw⟩
theorem Tabs.high {w : World} (h : Tabs w) : HighOK w := ⟨h.letterOK, h.foldAll⟩

end Go.Proofs.YtpbebckhemnooaaFmt.PS
