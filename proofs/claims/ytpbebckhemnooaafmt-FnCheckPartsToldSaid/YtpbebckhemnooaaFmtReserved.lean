/- spec.reserved tells the state of a name by its part ahead of the first dot, in great letters; no condition but that Cut and Great of it end. -/
import Derived.Test.YtpbebckhemnooaaFmtPSx1
import Derived.Test.YtpbebckhemnooaaFmtGreat
import Derived.Test.YtpbebckhemnooaaFmtWMore
import Derived.WalkKit
import Derived.WalkSpells
import Derived.Lib.Hide
import Derived.Outline
import Derived.Handy
namespace Go.Proofs.YtpbebckhemnooaaFmt.PS
open Go.RowKit Go.Proofs.YtpbebckhemnooaaFmtW.PrintWords Go.Proofs.YtpbebckhemnooaaFmtW.PrintLast Go.Proofs.YtpbebckhemnooaaFmtW.PrintMore
set_option linter.unusedVariables false
set_option linter.unusedSimpArgs false

/-- Byte n of a text, as a number; 0 behind its end. -/
def gb (s : ByteArray) (n : Nat) : Int := ((s.data.toList.getD n 0).toNat : Int)
theorem get_gb (s : ByteArray) : ∀ (n : Nat) (h : n < s.size), ((s[n]'h).toNat : Int) = gb s n := by
  intro n h
  have h' : n < s.data.toList.length := by rw [len_size]; exact h
  unfold gb
  rw [List.getD, List.getElem?_eq_getElem h']
  rfl
theorem gb_lo (s : ByteArray) (n : Nat) : 0 ≤ gb s n := by unfold gb; omega
theorem gb_hi (s : ByteArray) (n : Nat) : gb s n ≤ 255 := by
  unfold gb
  have := (s.data.toList.getD n 0).toNat_lt
  omega

def resB (g : ByteArray) : Int :=
  if g.toList = [67, 79, 78, 73, 78, 36] then 0 else if g.toList = [67, 79, 78, 79, 85, 84, 36] then 0
  else if 0 < g.size ∧ gb g (g.size - 1) = 32 then 0
  else if g.toList = [67, 79, 78] then 2 else if g.toList = [80, 82, 78] then 2 else if g.toList = [65, 85, 88] then 2 else if g.toList = [78, 85, 76] then 2
  else if g.size = 4 ∧ ((g.extract 0 3).toList = [67, 79, 77] ∨ (g.extract 0 3).toList = [76, 80, 84]) then
    (if 49 ≤ gb g 3 ∧ gb g 3 ≤ 57 then 2 else if gb g 3 = 48 then 0 else 1)
  else 1

def spec_reserved.f (k : Nat) (a0 : ByteArray) : Option Int :=
  (spec_Cut.f k a0 46).bind fun t => if 0 < (t.length : Int) then (spec_Great.f (rdOf ByteArray.empty t 0)).bind fun g => some (resB g) else none
theorem great_size {s g : ByteArray} (h : spec_Great.f s = some g) : g = greatB s ∧ g.size = s.size ∧ s.size ≤ 140737488355328 := by
  unfold spec_Great.f at h
  by_cases c : s.size ≤ 140737488355328
  · rw [if_pos c] at h
    obtain rfl := Option.some.inj h
    refine ⟨rfl, ?_, c⟩
    rw [← len_size, ← len_size, greatB]
    simp
  · rw [if_neg c] at h; cases h

set_option maxHeartbeats 8000000 in
set_option maxRecDepth 100000 in
theorem reserved_a (k : Nat) (a0 : ByteArray) (t : List ByteArray) (g : ByteArray) (w : World) (h1 : spec_Cut.f k a0 46 = some t) (h2 : 0 < (t.length : Int)) (h3 : spec_Great.f (rdOf ByteArray.empty t 0) = some g) :
    Calls Tryf.prog 57 #[.string a0] w fun e w' => e = .returned (.int .i64 (resB g)) ∧ Below w.heap.size w w' := by
  have HB := Aside0.mk (Below.refl w.heap.size w)
  have A2 := Aside0.mk h1
  have A3 := Aside0.mk h3
  have A4 := Aside0.mk h2
  clear h1 h2 h3
  have c40 : decide (0 < (t.length : Int)) = true := decide_eq_true A4.out
  have c41 : decide (0 < t.length) = true := decide_eq_true (by have := A4.out; omega)
  have c42 : 0 < t.length := by have := A4.out; omega
  have hgb := get_gb g
  have hsz : g.size ≤ 140737488355328 := by have := great_size A3.out; omega
  go_enter Tryf.func57, Tryf.ntmps57
  go_wp2_with (first
    | (go_at_call 44; (with_reducible refine (spec_Cut.calls k a0 46 t _ A2.out).mono ?_); rintro e w8 ⟨v131, rfl, ho0, hb⟩; have n0_ := Aside0.mk (Kd.R_lower ho0 (below_size (by repeat (first | (with_reducible first | exact HB.out | apply below_alloc | apply pw_below_drewN | apply below_drew1) | exact HB.out)))); have n1_ := Aside0.mk (below_step (by repeat (first | (with_reducible first | exact HB.out | apply below_alloc | apply pw_below_drewN | apply below_drew1) | exact HB.out)) hb); clear HB; have HO132 := n0_; have HB := n1_; clear n0_ n1_; (try clear hb); (try clear ho0); obtain ⟨Ao9, co9, eo9⟩ := Kd.R_slice HO132.out; subst eo9; obtain ⟨ad133, e133, hx133_0⟩ := Kd.at_string (Kd.R_reads' HO132.out).2.2 0 (by omega) A4.out; cases e133; have hx0 : w8.cell? ad133 = some (.string (rdOf ByteArray.empty t 0)) := by have h_ := hx133_0; rw [show ad133.add (0 : Int).toNat = ad133 by simp [Addr.add]] at h_; exact h_)
    | (go_at_call 80; (with_reducible refine (spec_Great.calls (rdOf ByteArray.empty t 0) g _ A3.out).mono ?_); rintro e w9 ⟨rfl, hb⟩; have n1_ := Aside0.mk (below_step (by repeat (first | (with_reducible first | exact HB.out | apply below_alloc | apply pw_below_drewN | apply below_drew1) | exact HB.out)) hb); clear HB; have HB := n1_; clear n1_ hb))
  all_goals first
    | (go_ret; exact ⟨by first | (simp [resB, *]; done) | (simp_all [resB]; done) | (simp_all [resB]; omega), by repeat (first | (with_reducible first | exact HB.out | apply below_alloc | apply pw_below_drewN | apply below_drew1) | exact HB.out)⟩)
    | go_rounds 5
  all_goals (go_ret; exact ⟨by first | (simp [resB, *]; done) | (simp_all [resB]; done) | (simp_all [resB]; omega), by repeat (first | (with_reducible first | exact HB.out | apply below_alloc | apply pw_below_drewN | apply below_drew1) | exact HB.out)⟩)

theorem spec_reserved.calls (k : Nat) (a0 : ByteArray) (r : Int) (w : World) (h : spec_reserved.f k a0 = some r) :
    Calls Tryf.prog 57 #[.string a0] w fun e w' => e = .returned (.int .i64 r) ∧ Below w.heap.size w w' := by
  unfold spec_reserved.f at h
  obtain ⟨t, h1, h⟩ := Option.bind_eq_some_iff.mp h
  by_cases c : 0 < (t.length : Int)
  · rw [if_pos c] at h
    obtain ⟨g, h3, h⟩ := Option.bind_eq_some_iff.mp h
    obtain rfl := Option.some.inj h
    exact reserved_a k a0 t g w h1 c h3
  · rw [if_neg c] at h; cases h

end Go.Proofs.YtpbebckhemnooaaFmt.PS
