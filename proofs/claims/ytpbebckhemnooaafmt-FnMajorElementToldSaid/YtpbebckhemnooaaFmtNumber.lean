/- laws.number: the figures of a number; the condition: the number is not great. -/
import Derived.Test.YtpbebckhemnooaaFmtJoin
import Derived.Test.YtpbebckhemnooaaFmtLawBase
namespace Go.Proofs.YtpbebckhemnooaaFmt.PS
open Go.RowKit Go.Proofs.YtpbebckhemnooaaFmtW.PrintWords Go.Proofs.YtpbebckhemnooaaFmtW.PrintLast Go.Proofs.YtpbebckhemnooaaFmtW.PrintMore
set_option linter.unusedVariables false
set_option linter.unusedSimpArgs false

theorem num_bs : Tryf.prog.underlying 47 = some (.slice 5) := by kernel_rfl
theorem num_u8 : Tryf.prog.underlying 5 = some (.int .u8) := by kernel_rfl
theorem num_str : Tryf.prog.underlying 9 = some .string := by kernel_rfl

set_option maxHeartbeats 1600000 in
set_option maxRecDepth 100000 in
theorem number_at : ∀ (n : Nat), n ≤ 1000000 → ∀ w : World, Calls Tryf.prog 31 #[.int .i64 (n : Int)] w fun e w' => ∃ t : ByteArray, e = .returned (.string t) ∧ t.data.toList = numL n ∧ Below w.heap.size w w' := by
  intro n
  induction n using Nat.strongRecOn with
  | ind n ih =>
    intro hn w
    have hone := fun (W : World) (x : Int) => one_string (P := Tryf.prog) num_bs num_u8 num_str W x 5
    by_cases h : n < 10
    · have h1 : (n : Int) < 10 := by omega
      have HN := Lib.hid (num_small h)
      have HD := Lib.hid (dig_nat h)
      clear ih
      go_enter Tryf.func31, Tryf.ntmps31
      go_wp2
      go_ret
      exact ⟨_, rfl, by rw [HN.out]; exact str_one (by rw [HD.out]; omega), (Below.refl _ _).alloc (Nat.le_refl _) _⟩
    · have h1 : ¬ (n : Int) < 10 := by omega
      have HN := Lib.hid (num_great h)
      have HA := Lib.hid (ih (n / 10) (by omega) (by omega))
      have HB := Lib.hid (ih (n % 10) (by omega) (by omega))
      have e1 : ((n / 10 : Nat) : Int) = (n : Int) / 10 := by omega
      have e2 : ((n % 10 : Nat) : Int) = (n : Int) % 10 := by omega
      have hl1 := num_len (n / 10)
      have hl2 := num_len (n % 10)
      have HL1 := Lib.hid hl1
      have HL2 := Lib.hid hl2
      rw [e1] at HA
      rw [e2] at HB
      clear ih e1 e2 h hl1 hl2
      go_enter Tryf.func31, Tryf.ntmps31
      go_wp2_with (go_at_call 31; first
        | (have := HT4; refine (HB.out _).mono ?_; rintro e w5 ⟨t5, rfl, ht5, hb5⟩; have HT5 := Lib.hid ht5; clear ht5; have hcat := fun (W : World) => add_run Tryf.prog t4 t5 (by have := HL1.out; have := HL2.out; rw [← len_size, ← len_size, HT4.out, HT5.out]; omega) W)
        | (refine (HA.out _).mono ?_; rintro e w4 ⟨t4, rfl, ht4, hb4⟩; have HT4 := Lib.hid ht4; clear ht4))
      go_ret
      exact ⟨_, rfl, by rw [append_list, HT4.out, HT5.out, HN.out], hb4.trans (hb5.mono hb4.size)⟩

end Go.Proofs.YtpbebckhemnooaaFmt.PS
