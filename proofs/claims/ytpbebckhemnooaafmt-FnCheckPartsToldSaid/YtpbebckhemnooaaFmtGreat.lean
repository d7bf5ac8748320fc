/- spec.Great gives its text with small letters as great ones; its one condition is that the text's size is at most 2^47. -/
import Derived.Test.YtpbebckhemnooaaFmtProg
import Derived.WalkKit
import Derived.WalkSpells
import Derived.Lib.ConvBytes
import Derived.Laws.BytesArg
import Derived.Laws.IdiomStrings
import Derived.Laws.NewBlocks
import Derived.Lib.Hide
namespace Go.Proofs.YtpbebckhemnooaaFmt.PS
open Go.RowKit
set_option linter.unusedVariables false
set_option linter.unusedSimpArgs false

theorem len_size (s : ByteArray) : s.data.toList.length = s.size := by rw [Array.length_toList]; rfl

def up (c : UInt8) : UInt8 := if 97 ≤ c ∧ c ≤ 122 then c - 32 else c
def greatB (s : ByteArray) : ByteArray := ⟨(s.data.toList.map up).toArray⟩
def spec_Great.f (a0 : ByteArray) : Option ByteArray := if a0.size ≤ 140737488355328 then some (greatB a0) else none

/-- The row that Great writes: behind k rounds. -/
def GreatRow (w : World) (B k : Nat) (l : List UInt8) : Prop :=
  ∃ cur : Array Value, w.heap[B]? = some (.cells cur 5 (cur.size, cur.size + 1)) ∧ l.length ≤ cur.size ∧ ∀ j, j < l.length → cur[j]? = some (.int .u8 ((if j < k then up (l.getD j 0) else l.getD j 0).toNat : Int))

theorem GreatRow.cell {w : World} {B k j : Nat} {l : List UInt8} (h : GreatRow w B k l) (hj : j < l.length) : w.cell? ⟨B, j, none⟩ = some (.int .u8 ((if j < k then up (l.getD j 0) else l.getD j 0).toNat : Int)) := by
  obtain ⟨cur, hb, _, hc⟩ := h
  simp [World.cell?, hb, hc j hj]

theorem GreatRow.free {w : World} {B k j : Nat} {l : List UInt8} (h : GreatRow w B k l) (hj : j < l.length) : w.frozen? ⟨B, j, none⟩ = false := by
  obtain ⟨cur, hb, hl, hc⟩ := h
  simp [World.frozen?, hb]
  omega

theorem GreatRow.start (w : World) (s : ByteArray) : GreatRow (Lib.bytesWorld w 5 s) w.heap.size 0 s.data.toList := by
  refine ⟨_, Lib.bytesWorld_at_new w _ s, ?_, ?_⟩
  · simp [Lib.bytesCells]
  · intro j hj
    have hj' : j < s.data.size := by simpa using hj
    have hj2 : j < s.size := hj'
    simp [Lib.bytesCells, Array.getElem?_append, hj2, List.getD, Array.getElem?_eq_getElem hj']

theorem GreatRow.skip {w : World} {B k : Nat} {l : List UInt8} (h : GreatRow w B k l) (hu : up (l.getD k 0) = l.getD k 0) : GreatRow w B (k + 1) l := by
  obtain ⟨cur, hb, hl, hc⟩ := h
  refine ⟨cur, hb, hl, fun j hj => ?_⟩
  rw [hc j hj]
  by_cases e : j = k
  · subst e; rw [if_neg (Nat.lt_irrefl _), if_pos (Nat.lt_succ_self _), hu]
  · have : (j < k + 1) ↔ j < k := by omega
    simp only [this]

theorem GreatRow.put {w : World} {B k : Nat} {l : List UInt8} (h : GreatRow w B k l) (hk : k < l.length) {x : Int} (hx : x = ((up (l.getD k 0)).toNat : Int)) :
    GreatRow (w.setCell ⟨B, k, none⟩ (.int .u8 x)) B (k + 1) l := by
  obtain ⟨cur, hb, hl, hc⟩ := h
  refine ⟨cur.setIfInBounds k (.int .u8 x), ?_, by simpa using hl, fun j hj => ?_⟩
  · simp [World.setCell, Array.getElem?_modify, hb]
  · rw [Array.getElem?_setIfInBounds]
    by_cases e : k = j
    · subst e
      have : k < cur.size := by omega
      simp [this, hx]
    · rw [if_neg e, hc j hj]
      have : (j < k + 1) ↔ j < k := by omega
      simp only [this]

theorem up_yes {c : UInt8} (h1 : 97 ≤ (c.toNat : Int)) (h2 : (c.toNat : Int) ≤ 122) : ((up c).toNat : Int) = (c.toNat : Int) - 32 := by
  have a : (97 : UInt8) ≤ c := by rw [UInt8.le_iff_toNat_le]; have : (97 : UInt8).toNat = 97 := rfl; omega
  have b : c ≤ (122 : UInt8) := by rw [UInt8.le_iff_toNat_le]; have : (122 : UInt8).toNat = 122 := rfl; omega
  have hs : (32 : UInt8) ≤ c := by rw [UInt8.le_iff_toNat_le]; have : (32 : UInt8).toNat = 32 := rfl; omega
  unfold up
  rw [if_pos ⟨a, b⟩, UInt8.toNat_sub_of_le _ _ hs]
  have : (32 : UInt8).toNat = 32 := rfl
  omega

theorem up_no {c : UInt8} (h : ¬ (97 ≤ (c.toNat : Int) ∧ (c.toNat : Int) ≤ 122)) : up c = c := by
  unfold up
  rw [if_neg]
  rintro ⟨a, b⟩
  rw [UInt8.le_iff_toNat_le] at a b
  have e1 : (97 : UInt8).toNat = 97 := rfl
  have e2 : (122 : UInt8).toNat = 122 := rfl
  omega

theorem GreatRow.done {w : World} {B n : Nat} {s : ByteArray} (h : GreatRow w B n s.data.toList) (hn : n = s.size) {P : Program} {src dst : TypeId} (cap : Nat)
    (hs : P.underlying src = some (.slice 5)) (he : P.underlying 5 = some (.int .u8)) (hd : P.underlying dst = some .string) :
    (convert src dst (.slice (some ⟨B, 0, none⟩) s.size cap)).run P w = .ok (.string (greatB s)) w := by
  have hsz := len_size s
  have := run_convert_bytes_back (P := P) w src dst 5 ⟨B, 0, none⟩ cap (s.data.toList.map up) hs he hd (fun j hj => by
    have hj' : j < s.data.toList.length := by simpa using hj
    have hc := h.cell hj'
    have hjn : j < n := by omega
    have ha : (⟨B, 0, none⟩ : Addr).add j = ⟨B, j, none⟩ := by unfold Addr.add; split <;> simp_all
    rw [ha, hc, if_pos hjn]
    simp only [List.getElem_map, List.getD, List.getElem?_eq_getElem hj', Option.getD_some])
  rw [List.length_map, hsz] at this
  exact this

set_option maxHeartbeats 1600000 in
theorem spec_Great.calls (a0 : ByteArray) (r : ByteArray) (w : World) (h : spec_Great.f a0 = some r) :
    Calls Tryf.prog 80 #[.string a0] w fun e w' => e = .returned (.string r) ∧ Below w.heap.size w w' := by
  unfold spec_Great.f at h
  have hsz : a0.size ≤ 140737488355328 := by
    rcases Nat.lt_or_ge 140737488355328 a0.size with h1 | h1
    · rw [if_neg (by omega)] at h; cases h
    · exact h1
  rw [if_pos hsz] at h
  obtain rfl := Option.some.inj h
  clear h
  have hlen := len_size a0
  have HLen := Lib.hid hlen
  clear hlen
  have ut9 : Tryf.prog.underlying 9 = some .string := by kernel_rfl
  have ut47 : Tryf.prog.underlying 47 = some (.slice 5) := by kernel_rfl
  have ut5 : Tryf.prog.underlying 5 = some (.int .u8) := by kernel_rfl
  have hconv := Lib.run_convert_string_bytes (P := Tryf.prog) w 9 47 5 a0 ut9 ut47 ut5
  obtain ⟨cap, hcap⟩ : ∃ c, grownCap w a0.size 0 5 = c := ⟨_, rfl⟩
  rw [hcap] at hconv
  have HR := Lib.hid (GreatRow.start w a0)
  have HB : Hid (Below w.heap.size w (Lib.bytesWorld w 5 a0)) := Lib.hid ⟨rfl, rfl, rfl, by rw [Lib.bytesWorld_size]; omega, fun i hi => Lib.bytesWorld_at_old w _ a0 i hi⟩
  obtain ⟨W0, hW0⟩ : ∃ W0, Lib.bytesWorld w 5 a0 = W0 := ⟨_, rfl⟩
  rw [hW0] at hconv HR HB
  obtain ⟨B, hB⟩ : ∃ B, w.heap.size = B := ⟨_, rfl⟩
  rw [hB] at hconv HR HB
  have HBe := Lib.hid hB
  rw [hB]
  clear hcap hW0 hB
  go_enter Tryf.func80, Tryf.ntmps80
  go_wp2
  go_loopw [10] (fun i wr => ∃ k : Nat, k ≤ a0.size ∧ i = .int .i64 k ∧ Hid (GreatRow wr B k a0.data.toList) ∧ Hid (Below B w wr)) (fun i _ => a0.size - (intOf i).toNat)
  case atStart => exact ⟨0, Nat.zero_le _, rfl, HR, HB⟩
  case round =>
    obtain ⟨k, hk, rfl, hR, hBl⟩ := hrel
    clear HR HB hconv
    by_cases hlt : k < a0.size
    · have hk' : k < a0.data.toList.length := by rw [HLen.out]; exact hlt
      obtain ⟨c, hc⟩ : ∃ c, a0.data.toList.getD k 0 = c := ⟨_, rfl⟩
      have hcell := hR.out.cell hk'
      rw [if_neg (Nat.lt_irrefl k), hc] at hcell
      have hfree := hR.out.free hk'
      have HC := Lib.hid hc
      have HK := Lib.hid hk'
      clear hc hk'
      have hb := UInt8.toNat_lt c
      obtain ⟨x, hx⟩ : ∃ x : Int, (c.toNat : Int) = x := ⟨_, rfl⟩
      rw [hx] at hcell
      have hx0 : 0 ≤ x := by omega
      have hx1 : x ≤ 255 := by omega
      have HX := Lib.hid hx
      clear hx hb
      by_cases h1 : 97 ≤ x
      · by_cases h2 : x ≤ 122
        · go_wp2
          go_roundw
          case rel => exact ⟨k + 1, by omega, by go_num, Lib.hid (hR.out.put HK.out (by rw [HC.out, up_yes (by rw [HX.out]; exact h1) (by rw [HX.out]; exact h2), HX.out])), Lib.hid (hBl.out.setCell (Nat.le_refl _) _)⟩
          case measure => simp [intOf]; omega
        · go_wp2
          go_roundw
          case rel => exact ⟨k + 1, by omega, by go_num, Lib.hid (hR.out.skip (by rw [HC.out]; exact up_no (by rw [HX.out]; omega))), hBl⟩
          case measure => simp [intOf]; omega
      · go_wp2
        go_roundw
        case rel => exact ⟨k + 1, by omega, by go_num, Lib.hid (hR.out.skip (by rw [HC.out]; exact up_no (by rw [HX.out]; omega))), hBl⟩
        case measure => simp [intOf]; omega
    · have hback := hR.out.done (n := k) (s := a0) (by omega) cap ut47 ut5 ut9
      go_wp2
      go_ret
      exact ⟨rfl, hBl.out⟩

end Go.Proofs.YtpbebckhemnooaaFmt.PS
