/- unicode/utf8.ValidString of a text of ASCII is true, whatever its tables hold: the walk over any program that holds the library's text, turned from the shelf's; the condition: the text is of ASCII. -/
import Derived.Shelf.Unicode.ValidAny
import Derived.Test.YtdnkmikckchnpaaFmtShelf
import Derived.Test.YtdnkmikckchnpaaFmtPath
namespace Go.Proofs.YtdnkmikckchnpaaFmt
open Go.Shelf Go.RowKit Go.Lib
set_option linter.unusedVariables false
set_option linter.unusedSimpArgs false

/-- All bytes are below 128. -/
def AllA (t : ByteArray) : Prop := ∀ b ∈ t.data.toList, b.toNat < 128
theorem AllA.cut {t : ByteArray} (h : AllA t) (k : Nat) : AllA (t.extract k t.size) := fun b hb => by
  rw [Lib.ext_list] at hb
  exact h b (List.mem_of_mem_drop hb)
theorem AllA.asc {t : ByteArray} (h : AllA t) (k : Nat) : Lib.Asc t k := fun b hb => h b (List.mem_of_mem_take hb)
theorem AllA.head {t : ByteArray} (h : AllA t) (h0 : 0 < t.size) : ((t[0]'h0).toNat : Int) < 128 := by
  have hl : 0 < t.data.toList.length := by rw [← Lib.size_eq]; exact h0
  have := h (t.data.toList[0]'hl) (List.getElem_mem hl)
  have e : (t.data.toList[0]'hl).toNat = (t[0]'h0).toNat := rfl
  omega
/-- A word of eight bytes. -/
theorem AllA.word {t : ByteArray} (h : AllA t) (h8 : 8 ≤ t.size) : ∃ A : Nat, Lib.leNat [t.get! 0, t.get! 1, t.get! 2, t.get! 3, t.get! 4, t.get! 5, t.get! 6, t.get! 7] = A ∧ A < 18446744073709551616 ∧ A &&& 9259542123273814144 = 0 :=
  ⟨_, rfl, Lib.word_lt t, (Lib.word_asc t h8).2 (h.asc 8)⟩
theorem and_zero {A : Nat} (h1 : A < 18446744073709551616) (h2 : A &&& 9259542123273814144 = 0) : bits .and .u64 (A : Int) 9259542123273814144 = 0 := by
  have := u64_and_nat A 9259542123273814144 h1 (by omega)
  rw [h2] at this
  exact this
theorem or_zero {A B : Nat} (a1 : A < 18446744073709551616) (a2 : A &&& 9259542123273814144 = 0) (b1 : B < 18446744073709551616) (b2 : B &&& 9259542123273814144 = 0) :
    ∃ O : Nat, bits .or .u64 (A : Int) (B : Int) = (O : Int) ∧ O < 18446744073709551616 ∧ O &&& 9259542123273814144 = 0 :=
  ⟨A ||| B, u64_or_nat A B a1 b1, Nat.or_lt_two_pow (n := 64) a1 b1, (Lib.or_mask A B _).2 ⟨a2, b2⟩⟩

variable {P : Program} {ρ : Ren}
set_option maxHeartbeats 16000000 in
set_option maxRecDepth 1000000 in
theorem valid_ascii_any (L : Lays.n196 P ρ) (s : ByteArray) (w : World) (hs : s.size ≤ 9223372036854775807) (ha : AllA s) :
    Calls P (ρ.f 196) #[.string s] w fun e w' => e = .returned (.bool true) ∧ Below w.heap.size w w' := by
  obtain ⟨t0, a0, z0, v0⟩ := And.intro L.t0 (And.intro L.a0 (And.intro L.z0 L.v0))
  obtain ⟨t3, a3, z3, v3⟩ := And.intro L.t3 (And.intro L.a3 (And.intro L.z3 L.v3))
  obtain ⟨t4, a4, z4, v4⟩ := And.intro L.t4 (And.intro L.a4 (And.intro L.z4 L.v4))
  obtain ⟨t5, a5, z5, v5⟩ := And.intro L.t5 (And.intro L.a5 (And.intro L.z5 L.v5))
  obtain ⟨t9, a9, z9, v9⟩ := And.intro L.t9 (And.intro L.a9 (And.intro L.z9 L.v9))
  obtain ⟨t12, a12, z12, v12⟩ := And.intro L.t12 (And.intro L.a12 (And.intro L.z12 L.v12))
  obtain ⟨t46, a46, z46, v46⟩ := And.intro L.t46 (And.intro L.a46 (And.intro L.z46 L.v46))
  obtain ⟨t53, a53, z53, v53⟩ := And.intro L.t53 (And.intro L.a53 (And.intro L.z53 L.v53))
  have t119 := L.t119
  have a119 := L.a119
  have z119 := L.z119
  obtain ⟨t138, a138, z138, v138⟩ := And.intro L.t138 (And.intro L.a138 (And.intro L.z138 L.v138))
  obtain ⟨t139, a139, z139, v139⟩ := And.intro L.t139 (And.intro L.a139 (And.intro L.z139 L.v139))
  have mixed := L.mixed
  have e259 : ∀ args w, (callFunc (ρ.f 259) args).run P w = .ok (.enter (ρ.f 259) args) w := enters_of L.f259 (by kernel_rfl) rfl
  have HW : Hid (∀ (t : ByteArray) (A : Nat), 8 ≤ t.size → Lib.leNat [t.get! 0, t.get! 1, t.get! 2, t.get! 3, t.get! 4, t.get! 5, t.get! 6, t.get! 7] = A → ∀ W, Calls P (ρ.f 259) #[.string t] W fun e w' => e = .returned (.int .u64 A) ∧ ∃ q, w' = W.drewN q) := Lib.hid fun t A h8 hA W => by rw [← hA]; exact Any.utf8_word { L with } t W h8
  go_enter L.f196, Body.n196_ntmps ρ
  go_wp2
  go_loopg [0] (s.size + 1) (fun gk s0 wx => Below w.heap.size w wx ∧ ∃ t : ByteArray, s0 = .string t ∧ Hid (AllA t) ∧ t.size < gk ∧ t.size ≤ 9223372036854775807)
  case atStart => exact ⟨Below.refl _ _, s, rfl, Lib.hid ha, by omega, hs⟩
  case round =>
    obtain ⟨hbw, t, rfl, hv, hg, hts⟩ := hrel
    by_cases h0 : 0 < t.size
    · obtain ⟨g', rfl⟩ : ∃ g', gk = g' + 1 := ⟨gk - 1, by omega⟩
      have h0z : (0 : Int) < (t.size : Int) := by omega
      have hascz := hv.out.head h0
      obtain ⟨t1, ht1⟩ : ∃ t1, t.extract 1 t.size = t1 := ⟨_, rfl⟩
      have z1 : t1.size + 1 = t.size := by rw [← ht1, Lib.ext_size]; omega
      have v1 : Hid (AllA t1) := Lib.hid (by rw [← ht1]; exact hv.out.cut 1)
      clear hv
      by_cases c8 : 8 < t1.size
      · have c8z : (8 : Int) < (t1.size : Int) := by omega
        obtain ⟨A1, hA1, lA1, kA1⟩ := v1.out.word (by omega)
        have cW1 := Lib.hid (HW.out t1 A1 (by omega) hA1)
        have hand1 := and_zero lA1 kA1
        obtain ⟨t2, ht2⟩ : ∃ t2, t1.extract 8 t1.size = t2 := ⟨_, rfl⟩
        have z2 : t2.size + 8 = t1.size := by rw [← ht2, Lib.ext_size]; omega
        have v2 : Hid (AllA t2) := Lib.hid (by rw [← ht2]; exact v1.out.cut 8)
        clear kA1 lA1 hA1 v1
        go_wp2_with (go_at_fn (ρ.f 259); go_must (refine (cW1.out _).mono ?_; rintro e W1 ⟨rfl, q1, rfl⟩))
        have hb1 : Below w.heap.size w (wr.drewN q1) := below_drewNv hbw q1
        generalize wr.drewN q1 = wq at hb1 ⊢
        clear cW1 hbw hand1
        by_cases c16 : 16 < t2.size
        · have c16z : (16 : Int) < (t2.size : Int) := by omega
          have s8z : (8 : Int) ≤ (t2.size : Int) := by omega
          obtain ⟨t2b, ht2b⟩ : ∃ t2b, t2.extract 8 t2.size = t2b := ⟨_, rfl⟩
          have z2b : t2b.size + 8 = t2.size := by rw [← ht2b, Lib.ext_size]; omega
          have v2b : AllA t2b := by rw [← ht2b]; exact v2.out.cut 8
          obtain ⟨A2, hA2, lA2, kA2⟩ := v2.out.word (by omega)
          obtain ⟨A3, hA3, lA3, kA3⟩ := v2b.word (by omega)
          have cW2 := HW.out t2 A2 (by omega) hA2
          have cW3 := HW.out t2b A3 (by omega) hA3
          obtain ⟨O2, hor2, lO2, kO2⟩ := or_zero lA2 kA2 lA3 kA3
          have hand2 := and_zero lO2 kO2
          obtain ⟨t3, ht3⟩ : ∃ t3, t2.extract 16 t2.size = t3 := ⟨_, rfl⟩
          have z3 : t3.size + 16 = t2.size := by rw [← ht3, Lib.ext_size]; omega
          have v3 : Hid (AllA t3) := Lib.hid (by rw [← ht3]; exact v2.out.cut 16)
          clear hA2 hA3 lA2 lA3 kA2 kA3 lO2 kO2 v2b v2
          go_big_quiet_o (first | (go_at_fn (ρ.f 259); refine Calls.quiet_of (cW2 _)) | (go_at_fn (ρ.f 259); refine Calls.quiet_of (cW3 _)))
          have hb2 : Below w.heap.size w (wq.drewN nq) := below_drewNv hb1 nq
          generalize wq.drewN nq = wq2 at hb2 ⊢
          clear cW2 cW3 hb1 hor2 hand2
          go_wp2
          go_loopg [0] (t3.size + 1) (fun g2 s0 wx => Below w.heap.size w wx ∧ ∃ u : ByteArray, s0 = .string u ∧ Hid (AllA u) ∧ u.size < g2 ∧ u.size ≤ t3.size)
          case atStart => exact ⟨hb2, t3, rfl, v3, by omega, Nat.le_refl _⟩
          case round =>
            obtain ⟨hbu, u, rfl, vu, hgu, hut⟩ := hrel
            by_cases c32 : 32 < u.size
            · obtain ⟨g3, rfl⟩ : ∃ g3, gk = g3 + 1 := ⟨gk - 1, by omega⟩
              have c32z : (32 : Int) < (u.size : Int) := by omega
              have s8u : (8 : Int) ≤ (u.size : Int) := by omega
              have s16u : (16 : Int) ≤ (u.size : Int) := by omega
              have s24u : (24 : Int) ≤ (u.size : Int) := by omega
              obtain ⟨ub, hub⟩ : ∃ ub, u.extract 8 u.size = ub := ⟨_, rfl⟩
              have zub : ub.size + 8 = u.size := by rw [← hub, Lib.ext_size]; omega
              obtain ⟨uc, huc⟩ : ∃ uc, u.extract 16 u.size = uc := ⟨_, rfl⟩
              have zuc : uc.size + 16 = u.size := by rw [← huc, Lib.ext_size]; omega
              obtain ⟨ud, hud⟩ : ∃ ud, u.extract 24 u.size = ud := ⟨_, rfl⟩
              have zud : ud.size + 24 = u.size := by rw [← hud, Lib.ext_size]; omega
              have vb : AllA ub := by rw [← hub]; exact vu.out.cut 8
              have vc : AllA uc := by rw [← huc]; exact vu.out.cut 16
              have vd : AllA ud := by rw [← hud]; exact vu.out.cut 24
              obtain ⟨B0, h0', l0, k0⟩ := vu.out.word (by omega)
              obtain ⟨B1, h1', l1, k1⟩ := vb.word (by omega)
              obtain ⟨B2, h2', l2, k2⟩ := vc.word (by omega)
              obtain ⟨B3, h3', l3, k3⟩ := vd.word (by omega)
              have cB0 := HW.out u B0 (by omega) h0'
              have cB1 := HW.out ub B1 (by omega) h1'
              have cB2 := HW.out uc B2 (by omega) h2'
              have cB3 := HW.out ud B3 (by omega) h3'
              obtain ⟨P1, ho1, lp1, kp1⟩ := or_zero l0 k0 l1 k1
              obtain ⟨P2, ho2, lp2, kp2⟩ := or_zero l2 k2 l3 k3
              obtain ⟨P3, ho3, lp3, kp3⟩ := or_zero lp1 kp1 lp2 kp2
              have hand3 := and_zero lp3 kp3
              obtain ⟨u2, hu2⟩ : ∃ u2, u.extract 32 u.size = u2 := ⟨_, rfl⟩
              have zu2 : u2.size + 32 = u.size := by rw [← hu2, Lib.ext_size]; omega
              have vu2 : Hid (AllA u2) := Lib.hid (by rw [← hu2]; exact vu.out.cut 32)
              clear h0' h1' h2' h3' l0 l1 l2 l3 k0 k1 k2 k3 lp1 lp2 lp3 kp1 kp2 kp3 vb vc vd vu
              go_wp2_with fail
              go_big_quiet_o (first | (go_at_fn (ρ.f 259); refine Calls.quiet_of (cB0 _)) | (go_at_fn (ρ.f 259); refine Calls.quiet_of (cB1 _)) | (go_at_fn (ρ.f 259); refine Calls.quiet_of (cB2 _)) | (go_at_fn (ρ.f 259); refine Calls.quiet_of (cB3 _)))
              go_wp2
              go_roundg g3
              case measure => omega
              case rel => exact ⟨below_drewNv hbu nq, u2, rfl, vu2, by omega, by omega⟩
            · have c32z : ¬ ((32 : Int) < (u.size : Int)) := by omega
              have c32b : decide ((32 : Int) < (u.size : Int)) = false := decide_eq_false c32z
              go_wp2_with fail
              go_big_quiet_o (fail)
              go_wp2
              go_roundg g'
              case measure => omega
              case rel => exact ⟨below_drewNv hbu nq, u, rfl, vu, by omega, by omega⟩
        · have c16z : ¬ ((16 : Int) < (t2.size : Int)) := by omega
          have c16b : decide ((16 : Int) < (t2.size : Int)) = false := decide_eq_false c16z
          go_big_quiet_o (fail)
          go_wp2
          go_roundg g'
          case measure => omega
          case rel => exact ⟨below_drewNv hb1 nq, t2, rfl, v2, by omega, by omega⟩
      · have c8z : ¬ ((8 : Int) < (t1.size : Int)) := by omega
        go_wp2
        go_roundg g'
        case measure => omega
        case rel => exact ⟨hbw, t1, rfl, v1, by omega, by omega⟩
    · have h0z : ¬ ((0 : Int) < (t.size : Int)) := by omega
      go_wp2
      go_ret
      exact ⟨rfl, hbw⟩

theorem valid_asc (s : ByteArray) (hs : s.size ≤ 100000) (ha : PS.asc s.data.toList) (w : World) : PS.ValidOK w s :=
  (valid_ascii_any Tryf.lays196 s w (by omega) ha).mono fun e w' ⟨he, hw⟩ => ⟨true, he, fun _ => rfl, hw⟩

end Go.Proofs.YtdnkmikckchnpaaFmt
