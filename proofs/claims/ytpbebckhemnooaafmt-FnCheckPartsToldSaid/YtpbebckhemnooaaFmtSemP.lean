/- What package semver's small functions compute (isIdentChar, isBadNum, parseInt, parsePrerelease, parseBuild), on lists of bytes; the condition is the text's size. What semver.parse answers, as a function on lists of bytes, and the words for its walk; no condition. -/
import Derived.Test.YtpbebckhemnooaaFmtPath
import Derived.OwnWalk
import Derived.Handy

namespace Go.Proofs.YtpbebckhemnooaaFmt.PS
open Go.RowKit
set_option linter.unusedVariables false
set_option linter.unusedSimpArgs false

def figI (r : Int) : Bool := decide (48 ≤ r) && decide (r ≤ 57)
def figC (c : UInt8) : Bool := figI (c.toNat : Int)
def identI (r : Int) : Bool := (decide (65 ≤ r) && decide (r ≤ 90)) || (decide (97 ≤ r) && decide (r ≤ 122)) || (decide (48 ≤ r) && decide (r ≤ 57)) || (r == 45)
/-- How many figures stand ahead. -/
def figN (l : List UInt8) : Nat := (l.takeWhile figC).length
def badNumB (l : List UInt8) : Bool := decide (figN l = l.length) && decide (1 < l.length) && decide (lb l 0 = 48)
def intB (l : List UInt8) : Bool := decide (1 ≤ figN l) && (decide (lb l 0 ≠ 48) || decide (figN l = 1))

theorem figI_iff (r : Int) : figI r = true ↔ 48 ≤ r ∧ r ≤ 57 := by simp [figI]
theorem figN_at {l : List UInt8} {k : Nat} (h1 : ∀ c ∈ l.take k, figC c = true) (h2 : ∀ c r, l.drop k = c :: r → figC c = false) (hk : k ≤ l.length) : figN l = k := by
  have e : l = l.take k ++ l.drop k := (List.take_append_drop k l).symm
  unfold figN
  rw [e, List.takeWhile_append_of_pos h1]
  have : (l.drop k).takeWhile figC = [] := by
    cases hd : l.drop k with
    | nil => rfl
    | cons c r => rw [List.takeWhile_cons, h2 c r hd]; rfl
  rw [this, List.append_nil, List.length_take]
  omega
theorem figN_le (l : List UInt8) : figN l ≤ l.length := (List.takeWhile_prefix _).length_le
theorem figs_snoc {s : ByteArray} {k : Nat} (h : k < s.size) (h1 : ∀ c ∈ s.data.toList.take k, figC c = true) (hf : 48 ≤ gb s k ∧ gb s k ≤ 57) : ∀ c ∈ s.data.toList.take (k + 1), figC c = true := by
  obtain ⟨c, ht, -, hgc, -⟩ := take_succ_gb s h
  intro d hd
  rw [ht, List.mem_append] at hd
  rcases hd with hd | hd
  · exact h1 d hd
  · obtain rfl := List.mem_singleton.1 hd
    unfold figC
    rw [figI_iff, ← hgc]
    exact hf
theorem figs_end {s : ByteArray} {k : Nat} (hk : k ≤ s.size) (h1 : ∀ c ∈ s.data.toList.take k, figC c = true) (hf : k < s.size → ¬ (48 ≤ gb s k ∧ gb s k ≤ 57)) : figN s.data.toList = k := by
  refine figN_at h1 ?_ (by rw [len_size]; exact hk)
  intro c r hd
  have hlt : k < s.size := by
    have := congrArg List.length hd
    rw [List.length_drop, len_size] at this
    simp at this
    omega
  obtain ⟨c', -, hd', hgc, -⟩ := take_succ_gb s hlt
  rw [hd] at hd'
  obtain ⟨rfl, -⟩ := List.cons.inj hd'
  have h2 := hf hlt
  rw [hgc] at h2
  unfold figC
  exact Bool.eq_false_iff.2 fun h => h2 ((figI_iff _).1 h)
theorem figN_zero {s : ByteArray} (h : s.size = 0 ∨ ¬ (48 ≤ gb s 0 ∧ gb s 0 ≤ 57)) : figN s.data.toList = 0 :=
  figs_end (Nat.zero_le _) (fun c hc => by simp at hc) (fun hlt => by rcases h with h | h; (· omega); exact h)
theorem intB_false {s : ByteArray} (h : s.size = 0 ∨ ¬ (48 ≤ gb s 0 ∧ gb s 0 ≤ 57)) : intB s.data.toList = false := by
  unfold intB
  rw [figN_zero h]
  rfl

theorem empty_of_size {s : ByteArray} (h : s.size = 0) : s = ⟨#[]⟩ := by
  have h2 : s.data.size = 0 := h
  have h3 : s.data = #[] := Array.eq_empty_of_size_eq_zero h2
  cases s
  simp only at h3
  rw [h3]
theorem nonempty_ne {s : ByteArray} (h : s.size ≠ 0) : (s.toList == []) = false := by
  have : s.toList ≠ [] := fun h2 => h (by rw [Lib.toList_data] at h2; rw [← len_size, h2]; rfl)
  simpa using this

set_option maxHeartbeats 1600000 in
theorem ident_any (r : Int) (w : World) : Calls Tryf.prog 107 #[.int .u8 r] w fun e w' => e = .returned (.bool (identI r)) ∧ w = w' := by
  go_enter Tryf.func107, Tryf.ntmps107
  have hiv : r < 45 ∨ r = 45 ∨ (45 < r ∧ r < 48) ∨ (48 ≤ r ∧ r ≤ 57) ∨ (57 < r ∧ r < 65) ∨ (65 ≤ r ∧ r ≤ 90) ∨ (90 < r ∧ r < 97) ∨ (97 ≤ r ∧ r ≤ 122) ∨ (122 < r) := by omega
  rcases hiv with h | h | h | h | h | h | h | h | h <;>
  · have d1 : decide (65 ≤ r) = decide (65 ≤ r) := rfl
    first | (have a1 : (65 ≤ r) = True := eq_true (by omega)) | (have a1 : (65 ≤ r) = False := eq_false (by omega))
    first | (have a2 : (r ≤ 90) = True := eq_true (by omega)) | (have a2 : (r ≤ 90) = False := eq_false (by omega))
    first | (have a3 : (97 ≤ r) = True := eq_true (by omega)) | (have a3 : (97 ≤ r) = False := eq_false (by omega))
    first | (have a4 : (r ≤ 122) = True := eq_true (by omega)) | (have a4 : (r ≤ 122) = False := eq_false (by omega))
    first | (have a5 : (48 ≤ r) = True := eq_true (by omega)) | (have a5 : (48 ≤ r) = False := eq_false (by omega))
    first | (have a6 : (r ≤ 57) = True := eq_true (by omega)) | (have a6 : (r ≤ 57) = False := eq_false (by omega))
    first | (have a7 : (r == 45) = true := by simp; omega) | (have a7 : (r == 45) = false := by simp; omega)
    have HI : identI r = identI r := rfl
    conv at HI => rhs; unfold identI
    simp only [a1, a2, a3, a4, a5, a6, a7, decide_true, decide_false, Bool.and_true, Bool.and_false, Bool.true_and, Bool.false_and, Bool.or_true, Bool.or_false, Bool.true_or, Bool.false_or, Bool.false_eq_true] at HI
    have HI := Lib.hid HI
    clear h d1
    go_wp2
    go_ret
    exact ⟨by rw [HI.out]; rfl, rfl⟩

set_option maxHeartbeats 1600000 in
theorem bad_any (s : ByteArray) (hs : s.size ≤ 1099511627776) (w : World) : Calls Tryf.prog 108 #[.string s] w fun e w' => e = .returned (.bool (badNumB s.data.toList)) ∧ w = w' := by
  have hgb := get_gb s
  go_enter Tryf.func108, Tryf.ntmps108
  go_wp2
  go_loop [3] (fun i => ∃ k : Nat, k ≤ s.size ∧ i = .int .i64 k ∧ Hid (∀ c ∈ s.data.toList.take k, figC c = true)) (fun i => s.size - (intOf i).toNat)
  case atStart => exact ⟨0, Nat.zero_le _, rfl, Lib.hid fun c hc => by simp at hc⟩
  case round =>
    obtain ⟨k, hk, rfl, hf⟩ := hrel
    by_cases hlt : k < s.size
    · by_cases h1 : 48 ≤ gb s k
      · by_cases h2 : gb s k ≤ 57
        · have hf2 := Lib.hid (figs_snoc hlt hf.out ⟨h1, h2⟩)
          go_wp2
          go_round
          case rel => exact ⟨k + 1, by omega, by go_num, hf2⟩
          case measure => simp [intOf]; omega
        · have hB := Lib.hid (show badNumB s.data.toList = false by
            have := figs_end hk hf.out (fun _ h => h2 h.2)
            unfold badNumB
            rw [this, len_size]
            simp; omega)
          have hne : (((k : Nat) : Int) == ((s.size : Nat) : Int)) = false := by simp; omega
          go_wp2
          go_ret
          exact ⟨by rw [hB.out]; rfl, rfl⟩
      · have hB := Lib.hid (show badNumB s.data.toList = false by
          have := figs_end hk hf.out (fun _ h => h1 h.1)
          unfold badNumB
          rw [this, len_size]
          simp; omega)
        have hne : (((k : Nat) : Int) == ((s.size : Nat) : Int)) = false := by simp; omega
        go_wp2
        go_ret
        exact ⟨by rw [hB.out]; rfl, rfl⟩
    · obtain rfl : k = s.size := by omega
      have hN := figs_end (Nat.le_refl _) hf.out (fun h => absurd h (Nat.lt_irrefl _))
      by_cases h1 : 1 < s.size
      · have h0 : 0 < s.size := by omega
        have hB := Lib.hid (show badNumB s.data.toList = (gb s 0 == 48) by
          unfold badNumB
          rw [hN, len_size]
          simp [h1, gb_lb]; rfl)
        have h1i : (1 : Int) < (s.size : Int) := by omega
        clear hN
        go_wp2
        go_ret
        exact ⟨by rw [hB.out]; rfl, rfl⟩
      · have hB := Lib.hid (show badNumB s.data.toList = false by
          unfold badNumB
          rw [len_size]
          simp [h1])
        have h1i : ¬ (1 : Int) < (s.size : Int) := by omega
        clear hN
        go_wp2
        go_ret
        exact ⟨by rw [hB.out]; rfl, rfl⟩

theorem drewN_below (w : World) (n : Nat) : Below w.heap.size w (w.drewN n) := ⟨rfl, rfl, rfl, Nat.le_refl _, fun _ _ => rfl⟩
/-- What parseInt answers. -/
def IntPost (s : ByteArray) (w : World) (e : Ending) (w' : World) : Prop :=
  Below w.heap.size w w' ∧ ((intB s.data.toList = true ∧ e = .returned (.tuple #[.string (s.extract 0 (figN s.data.toList)), .string (s.extract (figN s.data.toList) s.size), .bool true])) ∨
    (intB s.data.toList = false ∧ e = .returned (.tuple #[.string ⟨#[]⟩, .string ⟨#[]⟩, .bool false])))

set_option maxHeartbeats 1600000 in
theorem int_any (s : ByteArray) (hs : s.size ≤ 1099511627776) (w : World) : Calls Tryf.prog 97 #[.string s] w (IntPost s w) := by
  have hgb := get_gb s
  by_cases h0 : s.size = 0
  · have hB := Lib.hid (intB_false (.inl h0))
    obtain rfl : s = ⟨#[]⟩ := empty_of_size h0
    go_enter Tryf.func97, Tryf.ntmps97
    go_wp2
    go_ret3
    exact ⟨Below.refl _ _, .inr ⟨hB.out, rfl⟩⟩
  have hne : (s.toList == []) = false := nonempty_ne h0
  have h0' : 0 < s.size := by omega
  by_cases h1 : 48 ≤ gb s 0
  case neg =>
    have hB := Lib.hid (intB_false (s := s) (.inr fun h => h1 h.1))
    have h1' : gb s 0 < 48 := by omega
    clear h1
    go_enter Tryf.func97, Tryf.ntmps97
    go_wp2
    go_ret3
    exact ⟨Below.refl _ _, .inr ⟨hB.out, rfl⟩⟩
  have h1' : ¬ gb s 0 < 48 := by omega
  by_cases h2 : gb s 0 ≤ 57
  case neg =>
    have hB := Lib.hid (intB_false (s := s) (.inr fun h => h2 h.2))
    have h2' : 57 < gb s 0 := by omega
    clear h1 h2
    go_enter Tryf.func97, Tryf.ntmps97
    go_wp2
    go_ret3
    exact ⟨Below.refl _ _, .inr ⟨hB.out, rfl⟩⟩
  have h2' : ¬ 57 < gb s 0 := by omega
  have hf1 := Lib.hid (figs_snoc h0' (fun c hc => by simp at hc) ⟨h1, h2⟩)
  go_enter Tryf.func97, Tryf.ntmps97
  go_wp2
  go_loop [5] (fun i => ∃ k : Nat, 1 ≤ k ∧ k ≤ s.size ∧ i = .int .i64 k ∧ Hid (∀ c ∈ s.data.toList.take k, figC c = true)) (fun i => s.size - (intOf i).toNat)
  case atStart => exact ⟨1, Nat.le_refl _, h0', rfl, hf1⟩
  case round =>
    obtain ⟨k, hk1, hk, rfl, hf⟩ := hrel
    by_cases hgo : k < s.size ∧ 48 ≤ gb s k ∧ gb s k ≤ 57
    · obtain ⟨hlt, g1, g2⟩ := hgo
      have hf2 := Lib.hid (figs_snoc hlt hf.out ⟨g1, g2⟩)
      go_wp2
      go_round
      case rel => exact ⟨k + 1, by omega, by omega, by go_num, hf2⟩
      case measure => simp [intOf]; omega
    · have hN := figs_end hk hf.out (fun h hh => hgo ⟨h, hh⟩)
      have HN := Lib.hid hN
      have hki : (0 : Int) ≤ (k : Int) := by omega
      have hks : (k : Int) ≤ (s.size : Int) := by omega
      by_cases hz : gb s 0 = 48 ∧ k ≠ 1
      · obtain ⟨z1, z2⟩ := hz
        have hB := Lib.hid (show intB s.data.toList = false by unfold intB; rw [hN, ← gb_lb, z1]; simp [z2])
        have q1 : (gb s 0 == 48) = true := by simpa using z1
        have q2 : ((k : Int) != 1) = true := by simp; omega
        clear z1 z2 hN
        by_cases hlt : k < s.size
        · by_cases g1 : 48 ≤ gb s k
          · have g2 : ¬ gb s k ≤ 57 := fun h => hgo ⟨hlt, g1, h⟩
            clear hgo
            go_wp2
            go_ret3
            exact ⟨Below.refl _ _, .inr ⟨hB.out, rfl⟩⟩
          · clear hgo
            go_wp2
            go_ret3
            exact ⟨Below.refl _ _, .inr ⟨hB.out, rfl⟩⟩
        · clear hgo
          go_wp2
          go_ret3
          exact ⟨Below.refl _ _, .inr ⟨hB.out, rfl⟩⟩
      · have hB := Lib.hid (show intB s.data.toList = true by
          unfold intB; rw [hN, ← gb_lb]
          by_cases z1 : gb s 0 = 48
          · have : k = 1 := Decidable.byContradiction fun h => hz ⟨z1, h⟩
            simp [this]
          · simp [z1, hk1])
        have hZ : (gb s 0 == 48) = false ∨ ((gb s 0 == 48) = true ∧ ((k : Int) != 1) = false) := by
          by_cases z1 : gb s 0 = 48
          · have : k = 1 := Decidable.byContradiction fun h => hz ⟨z1, h⟩
            exact .inr ⟨by simpa using z1, by simp [this]⟩
          · exact .inl (by simpa using z1)
        clear hz hN
        have hG : k < s.size → ¬ (48 ≤ gb s k ∧ gb s k ≤ 57) := fun h hh => hgo ⟨h, hh⟩
        have HG := Lib.hid hG
        clear hgo hG
        rcases hZ with q1 | ⟨q1, q2⟩ <;>
        · by_cases hlt : k < s.size
          · by_cases g1 : 48 ≤ gb s k
            · have g2 : ¬ gb s k ≤ 57 := fun h => HG.out hlt ⟨g1, h⟩
              go_wp2
              repeat (go_quiet (fail); try go_wp2)
              go_ret3
              exact ⟨drewN_below _ _, .inl ⟨hB.out, by rw [HN.out]; rfl⟩⟩
            · go_wp2
              repeat (go_quiet (fail); try go_wp2)
              go_ret3
              exact ⟨drewN_below _ _, .inl ⟨hB.out, by rw [HN.out]; rfl⟩⟩
          · go_wp2
            repeat (go_quiet (fail); try go_wp2)
            go_ret3
            exact ⟨drewN_below _ _, .inl ⟨hB.out, by rw [HN.out]; rfl⟩⟩

/-! ### identifiers between dots -/
def identC (c : UInt8) : Bool := identI (c.toNat : Int)
def partB (sb : Bool) (x : List UInt8) : Bool := decide (x ≠ []) && x.all identC && !(sb && badNumB x)
def partsB (sb : Bool) (p : List UInt8) : Bool := (cutL 46 p).all (partB sb)
theorem nat_eq {c : UInt8} {n : Nat} (hn : n < 256) : (c.toNat : Int) = (n : Int) ↔ c = UInt8.ofNat n := by
  rw [← UInt8.toNat_inj, UInt8.toNat_ofNat']
  have : n % 2 ^ 8 = n := Nat.mod_eq_of_lt (by omega)
  rw [this]
  omega
theorem ident_ne46 {c : UInt8} (h : identC c = true) : c ≠ 46 := fun e => by rw [e] at h; exact absurd h (by decide)
theorem ident_ne43 {c : UInt8} (h : identC c = true) : c ≠ 43 := fun e => by rw [e] at h; exact absurd h (by decide)
theorem parts_dot (sb : Bool) {a r : List UInt8} (h : ∀ c ∈ a, identC c = true) : partsB sb (a ++ 46 :: r) = (partB sb a && partsB sb r) := by
  unfold partsB
  rw [cut_at (k := a.length) (by simp; exact fun c hc => ident_ne46 (h c hc)) (by simp)]
  simp
theorem parts_one (sb : Bool) {a : List UInt8} (h : ∀ c ∈ a, identC c = true) : partsB sb a = partB sb a := by
  unfold partsB
  rw [cut_none fun c hc => ident_ne46 (h c hc)]
  simp
theorem parts_bad (sb : Bool) {l : List UInt8} {c : UInt8} (h : c ∈ l) (h1 : c ≠ 46) (h2 : identC c = false) : partsB sb l = false := by
  obtain ⟨e, he, hc⟩ := cut_of_mem h h1
  unfold partsB
  refine Bool.eq_false_iff.2 fun h3 => ?_
  have h4 := List.all_eq_true.1 h3 e he
  simp only [partB, Bool.and_eq_true] at h4
  have h5 := List.all_eq_true.1 h4.1.2 c hc
  rw [h2] at h5
  cases h5
/-- Where the walk of the identifiers stands. -/
structure PartsAt (q : UInt8 → Bool) (sb : Bool) (s : ByteArray) (st i : Nat) : Prop where
  one : 1 ≤ st
  le : st ≤ i
  size : i ≤ s.size
  cur : ∀ c ∈ (s.data.toList.drop st).take (i - st), identC c = true
  ok : ∀ c ∈ (s.data.toList.drop 1).take (i - 1), q c = true
  eq : partsB sb ((s.data.toList.drop 1).takeWhile q) = partsB sb ((s.data.toList.drop st).takeWhile q)
theorem PartsAt.start (q : UInt8 → Bool) (sb : Bool) (s : ByteArray) (h : 0 < s.size) : PartsAt q sb s 1 1 := ⟨Nat.le_refl _, Nat.le_refl _, h, fun c hc => by simp at hc, fun c hc => by simp at hc, rfl⟩
theorem drop_take_succ {s : ByteArray} {i : Nat} (h : i < s.size) : ∃ c : UInt8, gb s i = (c.toNat : Int) ∧ ∀ st, st ≤ i → (s.data.toList.drop st).take (i + 1 - st) = (s.data.toList.drop st).take (i - st) ++ [c] ∧ s.data.toList.drop st = (s.data.toList.drop st).take (i - st) ++ c :: s.data.toList.drop (i + 1) := by
  obtain ⟨c, -, hd, hg, hget⟩ := take_succ_gb s h
  refine ⟨c, hg, fun st hst => ?_⟩
  have e1 : (s.data.toList.drop st).drop (i - st) = c :: s.data.toList.drop (i + 1) := by rw [List.drop_drop, ← hd]; congr 1; omega
  have e2 : s.data.toList.drop st = (s.data.toList.drop st).take (i - st) ++ c :: s.data.toList.drop (i + 1) := by
    conv => lhs; rw [← List.take_append_drop (i - st) (s.data.toList.drop st), e1]
  refine ⟨?_, e2⟩
  have hl : ((s.data.toList.drop st).take (i - st)).length = i - st := by
    rw [List.length_take, List.length_drop, len_size]; omega
  conv => lhs; rw [e2]
  rw [show i + 1 - st = ((s.data.toList.drop st).take (i - st)).length + 1 by omega, List.take_length_add_append]
  simp
theorem PartsAt.step {q : UInt8 → Bool} {sb : Bool} {s : ByteArray} {st i : Nat} (h : PartsAt q sb s st i) (hq : ∀ c, identC c = true → q c = true) (hi : i < s.size) (hc : identI (gb s i) = true) : PartsAt q sb s st (i + 1) := by
  have h1 := h.one
  have h2 := h.le
  obtain ⟨c, hg, ht⟩ := drop_take_succ hi
  rw [hg] at hc
  have hc : identC c = true := hc
  refine ⟨h.one, by omega, hi, ?_, ?_, h.eq⟩
  · rw [(ht st h2).1]
    intro d hd
    rcases List.mem_append.1 hd with hd | hd
    · exact h.cur d hd
    · obtain rfl := List.mem_singleton.1 hd; exact hc
  · rw [(ht 1 (by omega)).1]
    intro d hd
    rcases List.mem_append.1 hd with hd | hd
    · exact h.ok d hd
    · obtain rfl := List.mem_singleton.1 hd; exact hq _ hc
theorem PartsAt.until {q : UInt8 → Bool} {sb : Bool} {s : ByteArray} {st i : Nat} (h : PartsAt q sb s st i) (hq : ∀ c, identC c = true → q c = true) (hi : i < s.size) : ∃ c : UInt8, gb s i = (c.toNat : Int) ∧
    (q c = true → (s.data.toList.drop st).takeWhile q = (s.data.toList.drop st).take (i - st) ++ c :: (s.data.toList.drop (i + 1)).takeWhile q) ∧ (q c = false → (s.data.toList.drop st).takeWhile q = (s.data.toList.drop st).take (i - st)) ∧ (q c = true → ∀ d ∈ (s.data.toList.drop 1).take (i + 1 - 1), q d = true) ∧ (q c = false → ((s.data.toList.drop 1).takeWhile q).length = i - 1) := by
  have h1 := h.one
  have h2 := h.le
  obtain ⟨c, hg, ht⟩ := drop_take_succ hi
  refine ⟨c, hg, fun hc => ?_, fun hc => ?_, fun hc d hd => ?_, fun hc => ?_⟩
  · conv => lhs; rw [(ht st h2).2]
    rw [List.takeWhile_append_of_pos (fun d hd => hq _ (h.cur d hd)), List.takeWhile_cons, hc]
    rfl
  · conv => lhs; rw [(ht st h2).2]
    rw [List.takeWhile_append_of_pos (fun d hd => hq _ (h.cur d hd)), List.takeWhile_cons, hc]
    simp
  · rw [(ht 1 (by omega)).1] at hd
    rcases List.mem_append.1 hd with hd | hd
    · exact h.ok d hd
    · obtain rfl := List.mem_singleton.1 hd; exact hc
  · conv => lhs; rw [(ht 1 (by omega)).2]
    rw [List.takeWhile_append_of_pos h.ok, List.takeWhile_cons, hc]
    simp only [if_false, Bool.false_eq_true, List.append_nil, List.length_take, List.length_drop, len_size]
    omega
theorem PartsAt.wrong {q : UInt8 → Bool} {sb : Bool} {s : ByteArray} {st i : Nat} (h : PartsAt q sb s st i) (hq : ∀ c, identC c = true → q c = true) (hi : i < s.size) (hc : identI (gb s i) = false) (h46 : gb s i ≠ 46) (hqc : ∀ c : UInt8, gb s i = (c.toNat : Int) → q c = true) : partsB sb ((s.data.toList.drop 1).takeWhile q) = false := by
  obtain ⟨c, hg, h1, -⟩ := h.until hq hi
  rw [h.eq, h1 (hqc c hg)]
  refine parts_bad sb (c := c) (by simp) (fun e => h46 (by rw [hg, e]; rfl)) ?_
  rw [hg] at hc
  exact hc
theorem PartsAt.dot {q : UInt8 → Bool} {sb : Bool} {s : ByteArray} {st i : Nat} (h : PartsAt q sb s st i) (hq : ∀ c, identC c = true → q c = true) (h46q : q 46 = true) (hi : i < s.size) (h46 : gb s i = 46) :
    (partB sb ((s.data.toList.drop st).take (i - st)) = false → partsB sb ((s.data.toList.drop 1).takeWhile q) = false) ∧ (partB sb ((s.data.toList.drop st).take (i - st)) = true → PartsAt q sb s (i + 1) (i + 1)) := by
  obtain ⟨c, hg, h1, -, h3, -⟩ := h.until hq hi
  obtain rfl : c = 46 := (nat_eq (n := 46) (by omega)).1 (by rw [← hg, h46]; rfl)
  have e := h.eq
  rw [h1 h46q, parts_dot sb h.cur] at e
  refine ⟨fun hp => by rw [e, hp]; rfl, fun hp => ⟨by omega, Nat.le_refl _, hi, fun d hd => by simp at hd, h3 h46q, by rw [e, hp]; rfl⟩⟩
theorem PartsAt.last {q : UInt8 → Bool} {sb : Bool} {s : ByteArray} {st i : Nat} (h : PartsAt q sb s st i) (hq : ∀ c, identC c = true → q c = true) (hi : i < s.size → ∀ c : UInt8, gb s i = (c.toNat : Int) → q c = false) :
    partsB sb ((s.data.toList.drop 1).takeWhile q) = partB sb ((s.data.toList.drop st).take (i - st)) ∧ ((s.data.toList.drop 1).takeWhile q).length = i - 1 := by
  have h1 := h.one
  have h2 := h.le
  by_cases hlt : i < s.size
  · obtain ⟨c, hg, -, h4, -, h5⟩ := h.until hq hlt
    have hc := hi hlt c hg
    exact ⟨by rw [h.eq, h4 hc, parts_one sb h.cur], h5 hc⟩
  · have hs := h.size
    obtain rfl : i = s.size := by omega
    have e1 : (s.data.toList.drop st).take (s.size - st) = s.data.toList.drop st := List.take_of_length_le (by rw [List.length_drop, len_size]; exact Nat.le_refl _)
    have e2 : (s.data.toList.drop 1).take (s.size - 1) = s.data.toList.drop 1 := List.take_of_length_le (by rw [List.length_drop, len_size]; exact Nat.le_refl _)
    have c1 := h.cur
    have c2 := h.ok
    rw [e1] at c1
    rw [e2] at c2
    have e3 : (s.data.toList.drop st).takeWhile q = s.data.toList.drop st := by
      have := List.takeWhile_append_of_pos (p := q) (l₁ := s.data.toList.drop st) (l₂ := []) (fun d hd => hq _ (c1 d hd))
      simpa using this
    have e4 : (s.data.toList.drop 1).takeWhile q = s.data.toList.drop 1 := by
      have := List.takeWhile_append_of_pos (p := q) (l₁ := s.data.toList.drop 1) (l₂ := []) c2
      simpa using this
    refine ⟨by rw [h.eq, e3, e1, parts_one sb c1], by rw [e4, List.length_drop, len_size]⟩
theorem part_cur {q : UInt8 → Bool} {sb : Bool} {s : ByteArray} {st i : Nat} (h : PartsAt q sb s st i) : partB sb ((s.data.toList.drop st).take (i - st)) = (decide (st ≠ i) && !(sb && badNumB ((s.data.toList.drop st).take (i - st)))) := by
  have h1 : ((s.data.toList.drop st).take (i - st)).all identC = true := List.all_eq_true.2 h.cur
  have h2 := h.le
  have h3 := h.size
  have h4 : decide ((s.data.toList.drop st).take (i - st) ≠ []) = decide (st ≠ i) := by
    congr 1
    refine propext ⟨fun hn he => hn (by rw [he]; simp), fun hn he => hn ?_⟩
    have := congrArg List.length he
    rw [List.length_take, List.length_drop, len_size] at this
    simp at this
    omega
  unfold partB
  rw [h1, h4, Bool.and_true]

def PartsPost (q : UInt8 → Bool) (sb : Bool) (s : ByteArray) (w : World) (e : Ending) (w' : World) : Prop :=
  Below w.heap.size w w' ∧ ((partsB sb ((s.data.toList.drop 1).takeWhile q) = true ∧ e = .returned (.tuple #[.string (s.extract 0 (1 + ((s.data.toList.drop 1).takeWhile q).length)), .string (s.extract (1 + ((s.data.toList.drop 1).takeWhile q).length) s.size), .bool true])) ∨
    (partsB sb ((s.data.toList.drop 1).takeWhile q) = false ∧ e = .returned (.tuple #[.string ⟨#[]⟩, .string ⟨#[]⟩, .bool false])))
theorem ident_at (r : Int) (b : Bool) (h : identI r = b) (w : World) : Calls Tryf.prog 107 #[.int .u8 r] w fun e w' => e = .returned (.bool b) ∧ w = w' := by
  rw [← h]; exact ident_any r w
theorem bad_at (s : ByteArray) (hs : s.size ≤ 1099511627776) (b : Bool) (h : badNumB s.data.toList = b) (w : World) : Calls Tryf.prog 108 #[.string s] w fun e w' => e = .returned (.bool b) ∧ w = w' := by
  rw [← h]; exact bad_any s hs w
def q43 (c : UInt8) : Bool := c != 43
def qAll (c : UInt8) : Bool := true
theorem q43_ident (c : UInt8) (h : identC c = true) : q43 c = true := by simpa [q43] using ident_ne43 h
theorem q43_of {r : Int} (h : r ≠ 43) (c : UInt8) (hc : r = (c.toNat : Int)) : q43 c = true := by
  simp only [q43, bne_iff_ne]
  intro e
  exact h (by rw [hc, e]; rfl)
theorem q43_no {r : Int} (h : r = 43) (c : UInt8) (hc : r = (c.toNat : Int)) : q43 c = false := by
  have : c = 43 := (nat_eq (n := 43) (by omega)).1 (by rw [← hc, h]; rfl)
  rw [this]; rfl
theorem extract_size_le (s : ByteArray) (a b : Nat) : (s.extract a b).size ≤ s.size := by
  have : (s.extract a b).size = min b s.size - a := by simp
  omega

set_option maxHeartbeats 3200000 in
theorem pre_any (s : ByteArray) (hs : s.size ≤ 1099511627776) (h0 : 0 < s.size) (h45 : gb s 0 = 45) (w : World) : Calls Tryf.prog 98 #[.string s] w (PartsPost q43 true s w) := by
  have hgb := get_gb s
  have hne : (s.toList == []) = false := nonempty_ne (by omega)
  have h45' : (gb s 0 != 45) = false := by simp [h45]
  have hE := Lib.hid (extract_size_le s)
  clear h45
  go_enter Tryf.func98, Tryf.ntmps98
  go_wp2
  go_loop [5, 6] (fun i u => ∃ k st : Nat, i = .int .i64 k ∧ u = .int .i64 st ∧ st ≤ k ∧ k ≤ s.size ∧ Hid (PartsAt q43 true s st k)) (fun i _ => s.size - (intOf i).toNat)
  case atStart => exact ⟨1, 1, rfl, rfl, Nat.le_refl _, h0, Lib.hid (.start _ _ _ h0)⟩
  case round =>
    obtain ⟨k, st, rfl, rfl, hst, hk, hP⟩ := hrel
    have hst0 : (0 : Int) ≤ (st : Int) := by omega
    have hsti : (st : Int) ≤ (k : Int) := by omega
    have hki : (k : Int) ≤ (s.size : Int) := by omega
    have hk0 : (0 : Int) ≤ (k : Int) := by omega
    have hPC := Lib.hid (part_cur hP.out)
    by_cases hgo : k < s.size ∧ gb s k ≠ 43
    · obtain ⟨hlt, h43⟩ := hgo
      have n43 : (gb s k != 43) = true := by simpa using h43
      by_cases hI : identI (gb s k) = true
      · have n46 : (gb s k == 46) = false := by simp; intro e; rw [e] at hI; exact absurd hI (by decide)
        have hP2 := Lib.hid (hP.out.step q43_ident hlt hI)
        have HI := Lib.hid fun W => ident_at (gb s k) true hI W
        clear hI h43
        go_wp2_with (go_at_call 107; refine (HI.out _).mono ?_; rintro e w7 ⟨rfl, rfl⟩)
        go_round
        case rel => exact ⟨k + 1, st, by go_num, rfl, by omega, by omega, hP2⟩
        case measure => simp [intOf]; omega
      · have hI : identI (gb s k) = false := by simpa using hI
        have HI := Lib.hid fun W => ident_at (gb s k) false hI W
        by_cases h46 : gb s k = 46
        · have e46 : (gb s k == 46) = true := by simpa using h46
          have e46' : (gb s k != 46) = false := by simpa using h46
          have hD := Lib.hid (hP.out.dot q43_ident rfl hlt h46)
          clear hI h43 h46
          by_cases hse : st = k
          · have hB := Lib.hid (hD.out.1 (by rw [hPC.out]; simp [hse]))
            have hq : ((st : Int) == (k : Int)) = true := by simp [hse]
            clear hse
            go_wp2_with (go_at_call 107; refine (HI.out _).mono ?_; rintro e w7 ⟨rfl, rfl⟩)
            go_ret3
            exact ⟨Below.refl _ _, .inr ⟨hB.out, rfl⟩⟩
          · have hq : ((st : Int) == (k : Int)) = false := by simp; omega
            obtain ⟨b, hb⟩ : ∃ b, badNumB (s.extract st k).data.toList = b := ⟨_, rfl⟩
            have HB := Lib.hid fun W => bad_at (s.extract st k) (by have := hE.out st k; omega) b hb W
            rw [extract_mid s st k] at hb
            have hc : partB true ((s.data.toList.drop st).take (k - st)) = !b := by rw [hPC.out, hb]; simp [hse]
            cases b with
            | true =>
              have hB := Lib.hid (hD.out.1 (by rw [hc]; rfl))
              clear hse hb hc
              go_wp2_with (first
                | (go_at_call 107; refine (HI.out _).mono ?_; rintro e w7 ⟨rfl, rfl⟩)
                | (go_at_call 108; refine (HB.out _).mono ?_; rintro e w7 ⟨rfl, rfl⟩))
              go_ret3
              exact ⟨Below.refl _ _, .inr ⟨hB.out, rfl⟩⟩
            | false =>
              have hP2 := Lib.hid (hD.out.2 (by rw [hc]; rfl))
              clear hse hb hc
              go_wp2_with (first
                | (go_at_call 107; refine (HI.out _).mono ?_; rintro e w7 ⟨rfl, rfl⟩)
                | (go_at_call 108; refine (HB.out _).mono ?_; rintro e w7 ⟨rfl, rfl⟩))
              go_round
              case rel => exact ⟨k + 1, k + 1, by go_num, by go_num, by omega, by omega, hP2⟩
              case measure => simp [intOf]; omega
        · have e46' : (gb s k != 46) = true := by simpa using h46
          have hB := Lib.hid (hP.out.wrong q43_ident hlt hI h46 (q43_of h43))
          clear hI h43 h46
          go_wp2_with (go_at_call 107; refine (HI.out _).mono ?_; rintro e w7 ⟨rfl, rfl⟩)
          go_ret3
          exact ⟨Below.refl _ _, .inr ⟨hB.out, rfl⟩⟩
    · have hL := hP.out.last q43_ident (fun hlt c hc => q43_no (Decidable.byContradiction fun h => hgo ⟨hlt, h⟩) c hc)
      obtain ⟨hL1, hL2⟩ := hL
      have hL2 := Lib.hid (show 1 + ((s.data.toList.drop 1).takeWhile q43).length = k by have := hP.out.one; omega)
      have hEX : (k < s.size ∧ (gb s k != 43) = false) ∨ ¬ k < s.size := by
        by_cases hlt : k < s.size
        · exact .inl ⟨hlt, by simpa using Decidable.byContradiction fun h => hgo ⟨hlt, h⟩⟩
        · exact .inr hlt
      clear hgo
      by_cases hse : st = k
      · have hB := Lib.hid (show partsB true ((s.data.toList.drop 1).takeWhile q43) = false by rw [hL1, hPC.out]; simp [hse])
        have hq : ((st : Int) == (k : Int)) = true := by simp [hse]
        clear hse hL1
        rcases hEX with ⟨hlt, n43⟩ | hlt <;>
        · go_wp2
          go_ret3
          exact ⟨Below.refl _ _, .inr ⟨hB.out, rfl⟩⟩
      · have hq : ((st : Int) == (k : Int)) = false := by simp; omega
        obtain ⟨b, hb⟩ : ∃ b, badNumB (s.extract st k).data.toList = b := ⟨_, rfl⟩
        have HB := Lib.hid fun W => bad_at (s.extract st k) (by have := hE.out st k; omega) b hb W
        rw [extract_mid s st k] at hb
        have hc : partsB true ((s.data.toList.drop 1).takeWhile q43) = !b := by rw [hL1, hPC.out, hb]; simp [hse]
        have HC := Lib.hid hc
        clear hse hb hc hL1
        cases b with
        | true =>
          rcases hEX with ⟨hlt, n43⟩ | hlt <;>
          · go_wp2_with (go_at_call 108; refine (HB.out _).mono ?_; rintro e w7 ⟨rfl, rfl⟩)
            go_ret3
            exact ⟨Below.refl _ _, .inr ⟨HC.out, rfl⟩⟩
        | false =>
          rcases hEX with ⟨hlt, n43⟩ | hlt <;>
          · go_wp2_with (go_at_call 108; refine (HB.out _).mono ?_; rintro e w7 ⟨rfl, rfl⟩)
            repeat (go_quiet (fail); try go_wp2)
            go_ret3
            exact ⟨drewN_below _ _, .inl ⟨HC.out, by rw [hL2.out]; rfl⟩⟩

theorem qAll_ident (c : UInt8) (h : identC c = true) : qAll c = true := rfl
theorem takeAll (l : List UInt8) : l.takeWhile qAll = l := by
  induction l with
  | nil => rfl
  | cons c l ih => rw [List.takeWhile_cons]; simp [qAll, ih]

set_option maxHeartbeats 3200000 in
theorem build_any (s : ByteArray) (hs : s.size ≤ 1099511627776) (h0 : 0 < s.size) (h43 : gb s 0 = 43) (w : World) : Calls Tryf.prog 99 #[.string s] w (PartsPost qAll false s w) := by
  have hgb := get_gb s
  have hne : (s.toList == []) = false := nonempty_ne (by omega)
  have h43' : (gb s 0 != 43) = false := by simp [h43]
  clear h43
  go_enter Tryf.func99, Tryf.ntmps99
  go_wp2
  go_loop [5, 6] (fun i u => ∃ k st : Nat, i = .int .i64 k ∧ u = .int .i64 st ∧ st ≤ k ∧ k ≤ s.size ∧ Hid (PartsAt qAll false s st k)) (fun i _ => s.size - (intOf i).toNat)
  case atStart => exact ⟨1, 1, rfl, rfl, Nat.le_refl _, h0, Lib.hid (.start _ _ _ h0)⟩
  case round =>
    obtain ⟨k, st, rfl, rfl, hst, hk, hP⟩ := hrel
    have hst0 : (0 : Int) ≤ (st : Int) := by omega
    have hsti : (st : Int) ≤ (k : Int) := by omega
    have hki : (k : Int) ≤ (s.size : Int) := by omega
    have hk0 : (0 : Int) ≤ (k : Int) := by omega
    have hPC := Lib.hid (part_cur hP.out)
    by_cases hlt : k < s.size
    · by_cases hI : identI (gb s k) = true
      · have n46 : (gb s k == 46) = false := by simp; intro e; rw [e] at hI; exact absurd hI (by decide)
        have hP2 := Lib.hid (hP.out.step qAll_ident hlt hI)
        have HI := Lib.hid fun W => ident_at (gb s k) true hI W
        clear hI
        go_wp2_with (go_at_call 107; refine (HI.out _).mono ?_; rintro e w7 ⟨rfl, rfl⟩)
        go_round
        case rel => exact ⟨k + 1, st, by go_num, rfl, by omega, by omega, hP2⟩
        case measure => simp [intOf]; omega
      · have hI : identI (gb s k) = false := by simpa using hI
        have HI := Lib.hid fun W => ident_at (gb s k) false hI W
        by_cases h46 : gb s k = 46
        · have e46 : (gb s k == 46) = true := by simpa using h46
          have e46' : (gb s k != 46) = false := by simpa using h46
          have hD := Lib.hid (hP.out.dot qAll_ident rfl hlt h46)
          clear hI h46
          by_cases hse : st = k
          · have hB := Lib.hid (hD.out.1 (by rw [hPC.out]; simp [hse]))
            have hq : ((st : Int) == (k : Int)) = true := by simp [hse]
            clear hse
            go_wp2_with (go_at_call 107; refine (HI.out _).mono ?_; rintro e w7 ⟨rfl, rfl⟩)
            go_ret3
            exact ⟨Below.refl _ _, .inr ⟨hB.out, rfl⟩⟩
          · have hq : ((st : Int) == (k : Int)) = false := by simp; omega
            have hP2 := Lib.hid (hD.out.2 (by rw [hPC.out]; simp [hse]))
            clear hse
            go_wp2_with (go_at_call 107; refine (HI.out _).mono ?_; rintro e w7 ⟨rfl, rfl⟩)
            go_round
            case rel => exact ⟨k + 1, k + 1, by go_num, by go_num, by omega, by omega, hP2⟩
            case measure => simp [intOf]; omega
        · have e46' : (gb s k != 46) = true := by simpa using h46
          have hB := Lib.hid (hP.out.wrong qAll_ident hlt hI h46 (fun _ _ => rfl))
          clear hI h46
          go_wp2_with (go_at_call 107; refine (HI.out _).mono ?_; rintro e w7 ⟨rfl, rfl⟩)
          go_ret3
          exact ⟨Below.refl _ _, .inr ⟨hB.out, rfl⟩⟩
    · obtain ⟨hL1, hL2⟩ := hP.out.last qAll_ident (fun h => absurd h hlt)
      have hL2 := Lib.hid (show 1 + ((s.data.toList.drop 1).takeWhile qAll).length = k by have := hP.out.one; omega)
      by_cases hse : st = k
      · have hB := Lib.hid (show partsB false ((s.data.toList.drop 1).takeWhile qAll) = false by rw [hL1, hPC.out]; simp [hse])
        have hq : ((st : Int) == (k : Int)) = true := by simp [hse]
        clear hse hL1
        go_wp2
        go_ret3
        exact ⟨Below.refl _ _, .inr ⟨hB.out, rfl⟩⟩
      · have hq : ((st : Int) == (k : Int)) = false := by simp; omega
        have HC := Lib.hid (show partsB false ((s.data.toList.drop 1).takeWhile qAll) = true by rw [hL1, hPC.out]; simp [hse])
        clear hse hL1
        go_wp2
        repeat (go_quiet (fail); try go_wp2)
        go_ret3
        exact ⟨drewN_below _ _, .inl ⟨HC.out, by rw [hL2.out]; rfl⟩⟩

end Go.Proofs.YtpbebckhemnooaaFmt.PS

namespace Go.Proofs.YtpbebckhemnooaaFmt.PS
open Go.RowKit Go.Proofs.YtpbebckhemnooaaFmtW.PrintWords Go.Proofs.YtpbebckhemnooaaFmtW.PrintLast Go.Proofs.YtpbebckhemnooaaFmtW.PrintMore
set_option linter.unusedVariables false
set_option linter.unusedSimpArgs false

theorem info_par : (Tryf.prog.info? 76).map (fun i => (i.zero, i.size, i.bytes)) = some (some (.agg #[.string ⟨#[]⟩, .string ⟨#[]⟩, .string ⟨#[]⟩, .string ⟨#[]⟩, .string ⟨#[]⟩, .string ⟨#[]⟩]), 6, 96) := by kernel_rfl

/-- The result's variable. -/
def ParAt (w W : World) (a b c d p q : ByteArray) : Prop := W.heap[w.heap.size]? = some (.cells #[.string a, .string b, .string c, .string d, .string p, .string q] 76 (0, 0)) ∧ Below w.heap.size w W
section
variable {w W W' : World} {a b c d p q : ByteArray}
theorem ParAt.later (h : ParAt w W a b c d p q) (hb : Below W.heap.size W W') : ParAt w W' a b c d p q := ⟨blk_below h.1 hb, h.2.trans (hb.mono h.2.size)⟩
theorem ParAt.put0 (h : ParAt w W a b c d p q) (x : ByteArray) : ParAt w (W.setCell ⟨w.heap.size, 0, none⟩ (.string x)) x b c d p q := ⟨blk_put h.1 0 _ rfl, below_set h.2 (Nat.le_refl _)⟩
theorem ParAt.put1 (h : ParAt w W a b c d p q) (x : ByteArray) : ParAt w (W.setCell ⟨w.heap.size, 1, none⟩ (.string x)) a x c d p q := ⟨blk_put h.1 1 _ rfl, below_set h.2 (Nat.le_refl _)⟩
theorem ParAt.put2 (h : ParAt w W a b c d p q) (x : ByteArray) : ParAt w (W.setCell ⟨w.heap.size, 2, none⟩ (.string x)) a b x d p q := ⟨blk_put h.1 2 _ rfl, below_set h.2 (Nat.le_refl _)⟩
theorem ParAt.put3 (h : ParAt w W a b c d p q) (x : ByteArray) : ParAt w (W.setCell ⟨w.heap.size, 3, none⟩ (.string x)) a b c x p q := ⟨blk_put h.1 3 _ rfl, below_set h.2 (Nat.le_refl _)⟩
theorem ParAt.put4 (h : ParAt w W a b c d p q) (x : ByteArray) : ParAt w (W.setCell ⟨w.heap.size, 4, none⟩ (.string x)) a b c d x q := ⟨blk_put h.1 4 _ rfl, below_set h.2 (Nat.le_refl _)⟩
theorem ParAt.put5 (h : ParAt w W a b c d p q) (x : ByteArray) : ParAt w (W.setCell ⟨w.heap.size, 5, none⟩ (.string x)) a b c d p x := ⟨blk_put h.1 5 _ rfl, below_set h.2 (Nat.le_refl _)⟩
theorem ParAt.cells (h : ParAt w W a b c d p q) : W.cell? ⟨w.heap.size, 0, none⟩ = some (.string a) ∧ W.cell? ⟨w.heap.size, 1, none⟩ = some (.string b) ∧ W.cell? ⟨w.heap.size, 2, none⟩ = some (.string c) ∧ W.cell? ⟨w.heap.size, 3, none⟩ = some (.string d) ∧ W.cell? ⟨w.heap.size, 4, none⟩ = some (.string p) ∧ W.cell? ⟨w.heap.size, 5, none⟩ = some (.string q) :=
  ⟨(blk_cell h.1 0).trans rfl, (blk_cell h.1 1).trans rfl, (blk_cell h.1 2).trans rfl, (blk_cell h.1 3).trans rfl, (blk_cell h.1 4).trans rfl, (blk_cell h.1 5).trans rfl⟩
theorem ParAt.free (h : ParAt w W a b c d p q) : W.frozen? ⟨w.heap.size, 0, none⟩ = false ∧ W.frozen? ⟨w.heap.size, 1, none⟩ = false ∧ W.frozen? ⟨w.heap.size, 2, none⟩ = false ∧ W.frozen? ⟨w.heap.size, 3, none⟩ = false ∧ W.frozen? ⟨w.heap.size, 4, none⟩ = false ∧ W.frozen? ⟨w.heap.size, 5, none⟩ = false :=
  ⟨blk_frozen h.1 0, blk_frozen h.1 1, blk_frozen h.1 2, blk_frozen h.1 3, blk_frozen h.1 4, blk_frozen h.1 5⟩
end
theorem ParAt.start (w : World) : ParAt w (w.alloc (.cells #[.string ⟨#[]⟩, .string ⟨#[]⟩, .string ⟨#[]⟩, .string ⟨#[]⟩, .string ⟨#[]⟩, .string ⟨#[]⟩] 76)) ⟨#[]⟩ ⟨#[]⟩ ⟨#[]⟩ ⟨#[]⟩ ⟨#[]⟩ ⟨#[]⟩ := ⟨blk_new w _, (Below.refl _ _).alloc (Nat.le_refl _) _⟩

def intL (l : List UInt8) : Option (List UInt8 × List UInt8) := if intB l = true then some (l.take (figN l), l.drop (figN l)) else none
def preL (r : List UInt8) : Option (List UInt8) := if lb r 0 = 45 then (if partsB true ((r.drop 1).takeWhile q43) = true then some (r.drop (1 + ((r.drop 1).takeWhile q43).length)) else none) else some r
def bldL (r : List UInt8) : Option (List UInt8) := if lb r 0 = 43 then (if partsB false (r.drop 1) = true then some r else none) else if r = [] then some [] else none
/-- What parse answers: the first number, and what stands from + on. -/
def semL (l : List UInt8) : Option (List UInt8 × List UInt8) :=
  if lb l 0 = 118 then (intL (l.drop 1)).bind fun x => if x.2 = [] then some (x.1, []) else if lb x.2 0 = 46 then (intL (x.2.drop 1)).bind fun y => if y.2 = [] then some (x.1, []) else if lb y.2 0 = 46 then (intL (y.2.drop 1)).bind fun z => (preL z.2).bind fun r => (bldL r).map fun b => (x.1, b) else none else none
  else none

def ParPost (o : Option (List UInt8 × List UInt8)) (w : World) (e : Ending) (w' : World) : Prop :=
  ∃ (a b c d p q : ByteArray) (ok : Bool), e = .returned (.tuple #[.agg #[.string a, .string b, .string c, .string d, .string p, .string q], .bool ok]) ∧ Below w.heap.size w w' ∧ ok = o.isSome ∧ ∀ x, o = some x → a.data.toList = x.1 ∧ q.data.toList = x.2

/-- parseInt, its answer named. -/
theorem int_named (x : ByteArray) (hx : x.size ≤ 1099511627776) : ∃ (a t : ByteArray) (ok : Bool), t.size ≤ 1099511627776 ∧ a.size ≤ x.size ∧ (ok = true → intL x.data.toList = some (a.data.toList, t.data.toList)) ∧ (ok = false → intL x.data.toList = none) ∧
    ∀ W : World, Calls Tryf.prog 97 #[.string x] W fun e w' => e = .returned (.tuple #[.string a, .string t, .bool ok]) ∧ Below W.heap.size W w' := by
  cases h : intB x.data.toList with
  | true =>
    refine ⟨x.extract 0 (figN x.data.toList), x.extract (figN x.data.toList) x.size, true, Nat.le_trans (extract_size_le _ _ _) hx, extract_size_le _ _ _, fun _ => ?_, fun h => (by cases h), fun W => (int_any x hx W).mono fun e w' hp => ?_⟩
    · unfold intL
      rw [if_pos h, extract_take, extract_drop]
    · obtain ⟨hb, ⟨-, he⟩ | ⟨h2, -⟩⟩ := hp
      · exact ⟨he, hb⟩
      · rw [h] at h2; cases h2
  | false =>
    refine ⟨⟨#[]⟩, ⟨#[]⟩, false, by decide, Nat.zero_le _, fun h => (by cases h), fun _ => ?_, fun W => (int_any x hx W).mono fun e w' hp => ?_⟩
    · unfold intL
      rw [if_neg (by rw [h]; decide)]
    · obtain ⟨hb, ⟨h2, -⟩ | ⟨-, he⟩⟩ := hp
      · rw [h] at h2; cases h2
      · exact ⟨he, hb⟩
theorem pre_named (x : ByteArray) (hx : x.size ≤ 1099511627776) (h0 : 0 < x.size) (h1 : gb x 0 = 45) : ∃ (a t : ByteArray) (ok : Bool), t.size ≤ 1099511627776 ∧ (ok = true → preL x.data.toList = some t.data.toList) ∧ (ok = false → preL x.data.toList = none) ∧
    ∀ W : World, Calls Tryf.prog 98 #[.string x] W fun e w' => e = .returned (.tuple #[.string a, .string t, .bool ok]) ∧ Below W.heap.size W w' := by
  rw [gb_lb] at h1
  cases h : partsB true ((x.data.toList.drop 1).takeWhile q43) with
  | true =>
    refine ⟨x.extract 0 (1 + ((x.data.toList.drop 1).takeWhile q43).length), x.extract (1 + ((x.data.toList.drop 1).takeWhile q43).length) x.size, true, Nat.le_trans (extract_size_le _ _ _) hx, fun _ => ?_, fun h => (by cases h), fun W => (pre_any x hx h0 h1 W).mono fun e w' hp => ?_⟩
    · unfold preL
      rw [if_pos h1, if_pos h, extract_drop]
    · obtain ⟨hb, ⟨-, he⟩ | ⟨h2, -⟩⟩ := hp
      · exact ⟨he, hb⟩
      · rw [h] at h2; cases h2
  | false =>
    refine ⟨⟨#[]⟩, ⟨#[]⟩, false, by decide, fun h => (by cases h), fun _ => ?_, fun W => (pre_any x hx h0 h1 W).mono fun e w' hp => ?_⟩
    · unfold preL
      rw [if_pos h1, if_neg (by rw [h]; decide)]
    · obtain ⟨hb, ⟨h2, -⟩ | ⟨-, he⟩⟩ := hp
      · rw [h] at h2; cases h2
      · exact ⟨he, hb⟩
theorem bld_named (x : ByteArray) (hx : x.size ≤ 1099511627776) (h0 : 0 < x.size) (h1 : gb x 0 = 43) : ∃ (a t : ByteArray) (ok : Bool), (ok = true → bldL x.data.toList = some a.data.toList ∧ t.toList = []) ∧ (ok = false → bldL x.data.toList = none) ∧
    ∀ W : World, Calls Tryf.prog 99 #[.string x] W fun e w' => e = .returned (.tuple #[.string a, .string t, .bool ok]) ∧ Below W.heap.size W w' := by
  rw [gb_lb] at h1
  have hl : ((x.data.toList.drop 1).takeWhile qAll).length = x.size - 1 := by rw [takeAll, List.length_drop, len_size]
  cases h : partsB false ((x.data.toList.drop 1).takeWhile qAll) with
  | true =>
    refine ⟨x.extract 0 (1 + ((x.data.toList.drop 1).takeWhile qAll).length), x.extract (1 + ((x.data.toList.drop 1).takeWhile qAll).length) x.size, true, fun _ => ?_, fun h => (by cases h), fun W => (build_any x hx h0 h1 W).mono fun e w' hp => ?_⟩
    · unfold bldL
      rw [takeAll] at h
      rw [if_pos h1, if_pos h, extract_take, Lib.toList_data, extract_drop, hl]
      exact ⟨by rw [List.take_of_length_le (by rw [len_size]; omega)], List.drop_eq_nil_of_le (by rw [len_size]; omega)⟩
    · obtain ⟨hb, ⟨-, he⟩ | ⟨h2, -⟩⟩ := hp
      · exact ⟨he, hb⟩
      · rw [h] at h2; cases h2
  | false =>
    refine ⟨⟨#[]⟩, ⟨#[]⟩, false, fun h => (by cases h), fun _ => ?_, fun W => (build_any x hx h0 h1 W).mono fun e w' hp => ?_⟩
    · unfold bldL
      rw [takeAll] at h
      rw [if_pos h1, if_neg (by rw [h]; decide)]
    · obtain ⟨hb, ⟨h2, -⟩ | ⟨-, he⟩⟩ := hp
      · rw [h] at h2; cases h2
      · exact ⟨he, hb⟩

theorem par_none {w W : World} {a b c d p q : ByteArray} {o : Option (List UInt8 × List UInt8)} (h : ParAt w W a b c d p q) (ho : o = none) :
    ParPost o w (.returned (.tuple #[.agg #[.string a, .string b, .string c, .string d, .string p, .string q], .bool false])) W := ⟨a, b, c, d, p, q, false, rfl, h.2, by rw [ho]; rfl, fun x hx => by rw [ho] at hx; cases hx⟩
theorem par_some {w W : World} {a b c d p q : ByteArray} {o : Option (List UInt8 × List UInt8)} (h : ParAt w W a b c d p q) (ho : o = some (a.data.toList, q.data.toList)) :
    ParPost o w (.returned (.tuple #[.agg #[.string a, .string b, .string c, .string d, .string p, .string q], .bool true])) W := ⟨a, b, c, d, p, q, true, rfl, h.2, by rw [ho]; rfl, fun x hx => by rw [ho] at hx; obtain rfl := Option.some.inj hx; exact ⟨rfl, rfl⟩⟩

end Go.Proofs.YtpbebckhemnooaaFmt.PS
