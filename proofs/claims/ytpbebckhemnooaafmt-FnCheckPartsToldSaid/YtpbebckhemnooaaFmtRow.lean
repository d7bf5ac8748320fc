/- What every row of this seat asks alike: where the listed variables lie, and a world in which they do; no condition. -/
import Derived.Test.YtpbebckhemnooaaFmtTie
import Derived.Test.YtpbebckhemnooaaFmtCards
import Derived.Test.YtpbebckhemnooaaFmtShelf
import Derived.Test.YtpbebckhemnooaaFmtLawBase
import Derived.ProofKit
import Derived.OpenShut
import Derived.OpenVars
import Derived.LaidMore
import Derived.Lay
import Derived.SevenTiedAt
import Derived.SliceStrings
import Derived.PinnedBridge
import Derived.Lib.LaidU8T
import Derived.Stop.Joined
import Derived.Stop.JoinedTold
namespace Go.Proofs.YtpbebckhemnooaaFmt
open Go.ChangeShapes Go.WideShapes Go.ChangeAt Go.RowKit Go.Lib Go.Shelf
open Go.ChangeMaps (open_string shut_string)
open Go.Extern.Stop Go.Stop Go.Extern
open PS (NamesIn nameB namesL)
set_option maxRecDepth 100000

theorem own : ownKnob Tryf.prog.godebug = none := by kernel_rfl
theorem laidOut : laidOutB Tryf.prog = true := by kernel_rfl
def bw : String := "loop.example/pub-modulenames/pub/module.badWindowsNames"
theorem bw_at : Tryf.prog.globalNamed bw = some 0 := by kernel_rfl
theorem bw_type : (Tryf.prog.globals[0]?).map (·.type) = some 34 := by kernel_rfl
theorem slice_u : Tryf.prog.underlying 34 = some (.slice 9) := by kernel_rfl
theorem string_u : Tryf.prog.underlying 9 = some .string := by kernel_rfl
theorem string_c : Tryf.prog.cellsOf 9 = 1 := by kernel_rfl
theorem rowed : varsRowed Tryf.prog [bw] = true := by kernel_rfl
theorem names_datum : (Rows.laid_loop_example_pub_modulenames_pub_module_badWindowsNames : DataW Unit) = .slice (namesL.map fun l => .lit (.string l)) [] := rfl

theorem names_in {W : World} (h : VarReads Tryf.prog W bw Rows.laid_loop_example_pub_modulenames_pub_module_badWindowsNames) : NamesIn W := by
  obtain ⟨g, t, cs, fuel, p, hg, hty, hvar, hd⟩ := h
  obtain rfl := Option.some.inj (bw_at.symm.trans hg)
  obtain rfl := Option.some.inj (bw_type.symm.trans hty)
  rw [names_datum] at hd
  rcases open_strings slice_u string_u string_c hd with ⟨_, hx⟩ | ⟨a, len, cap, ss, hcs, _, hlc, _, hlen, hx, hel, _⟩
  · cases hx
  · have hx1 := (Prod.mk.inj hx).1
    injection hx1 with hx1 hx2
    simp only [if_true] at hlen
    have e1 : (ss.take len).map (fun s => s.data.toList) = namesL := by
      have := congrArg (List.map fun d : DataW Unit => match d with | .lit (.string l) => l | _ => []) hx1
      simp only [strs, List.map_map] at this
      simpa [Function.comp_def] using this.symm
    have e2 : len = 22 := by
      have := congrArg List.length e1
      rw [List.length_map, List.length_take, hlen, Nat.min_eq_left hlc] at this
      exact this
    have e3 : cap = 22 := by
      have := congrArg List.length hx2
      simp [strs] at this
      omega
    subst e2
    subst e3
    have hget : ∀ j, j < 22 → ss.getD j ByteArray.empty = nameB j := by
      intro j hj
      rw [List.take_of_length_le (by omega)] at e1
      have hnl : namesL.length = 22 := rfl
      have h1 : (ss.map fun s => s.data.toList)[j]? = namesL[j]? := by rw [e1]
      rw [List.getElem?_map, List.getElem?_eq_getElem (by omega), List.getElem?_eq_getElem (by rw [hnl]; exact hj)] at h1
      rw [List.getD_eq_getElem?_getD, List.getElem?_eq_getElem (by omega)]
      have h2 : ss[j].data.toList = namesL[j] := Option.some.inj h1
      unfold nameB
      rw [List.getD_eq_getElem?_getD, List.getElem?_eq_getElem (by rw [hnl]; exact hj)]
      have h3 : ss[j] = ⟨(ss[j].data.toList).toArray⟩ := by cases ss[j]; simp
      rw [Option.getD_some, h3, h2]
      rfl
    have h0 := hel 0 (by omega)
    obtain ⟨b, o, sp⟩ := a
    have hsp : sp = none := by
      cases sp with
      | none => rfl
      | some z =>
        simp only [Addr.add, if_true, World.cell?] at h0
        split at h0
        · simp at h0
        · cases h0
    subst hsp
    refine ⟨b, o, 22, ?_, fun j hj => ?_⟩
    · rw [World.var?_cell hg hvar 0, ← Array.getElem?_toList, hcs]
      rfl
    · have := hel j (by omega)
      rw [hget j hj] at this
      unfold Addr.add at this
      split at this
      · rename_i hz; subst hz; exact this
      · exact this

theorem u8types : U8Types Tryf.prog Tryf.lays196_ren := U8Types.of196 Tryf.lays196
theorem u8extra : U8Extra Tryf.prog Tryf.lays196_ren := ⟨by kernel_rfl, by kernel_rfl, by kernel_rfl, by kernel_rfl, by kernel_rfl, by kernel_rfl, by kernel_rfl⟩
theorem first_eq : (Rows.laid_unicode_utf8_first : DataW Unit) = firstData := Pinned.utf8First_eq
theorem accept_eq : (Rows.laid_unicode_utf8_acceptRanges : DataW Unit) = acceptData := by kernel_rfl
theorem tabs_in {W : World} (h1 : VarReads Tryf.prog W "unicode/utf8.first" Rows.laid_unicode_utf8_first) (h2 : VarReads Tryf.prog W "unicode/utf8.acceptRanges" Rows.laid_unicode_utf8_acceptRanges) :
    Lib.Utf8Tabs 1 2 W :=
  utf8Tabs_of_readsT u8types u8extra (first_eq ▸ h1) (accept_eq ▸ h2)

/-- utf8.ValidString by the shelf's contract. -/
theorem valid_in {W : World} (h : Lib.Utf8Tabs 1 2 W) (s : ByteArray) (hs : s.size ≤ 100000) (w : World) (hb : Below W.heap.size W w) : PS.ValidOK w s :=
  (Tryf.utf8_ValidString s w (by omega) (Utf8Tabs_below h hb)).mono fun e w' ⟨he, hw⟩ => ⟨_, he, fun ha => by
    rw [Lib.validD_ascii s.data.toList.length s.data.toList (fun b hb => ha b (List.mem_of_mem_take hb)), List.drop_length]
    rfl, hw⟩

/-- There is a start that fits. -/
theorem told_start {H : Type} {enc : TypeId × Value → H} {os : Os} {f : FuncId} {fn : Func} {s : OpenSpec} {conds : List PathCond} {laid : List (String × DataW Unit)} (args : Array Value)
    (h1 : (World.laidAll Tryf.prog os laid |>.forCall (fun _ _ => 0) ⟨#[], args, []⟩).Shaped Tryf.prog)
    (hok : Input.okWideB Tryf.prog ((World.laidAll Tryf.prog os laid).forCall (fun _ _ => 0) ⟨#[], args, []⟩) f ⟨#[], args, []⟩ = true)
    (hrow : s.preRow enc Tryf.prog fn conds false laid ((World.laidAll Tryf.prog os laid).forCall (fun _ _ => 0) ⟨#[], args, []⟩).memory args) (F : Stop.Interp) :
    ∃ (w : World) (tape : Tape) (i : Input), w.os = os ∧ (w.forCall tape i).Shaped Tryf.prog ∧ i.vars = [] ∧ Input.okWide Tryf.prog (w.forCall tape i) .any w.heap.size f i ∧
      s.preRow enc Tryf.prog fn conds false laid (w.forCall tape i).memory i.args ∧ ({} : Assume).holds Tryf.prog (lone (Frame.enter Tryf.prog f i.args .normal) [] (w.forCall tape i)) ∧ F.answers tape :=
  ⟨World.laidAll Tryf.prog os laid, F.over fun _ _ => 0, ⟨#[], args, []⟩, World.laidAll_os _ _ _, h1, (Input.okWide_of_okWideB (base := 0) hok).1, (Input.okWide_of_okWideB hok).2, hrow, by
    simp only [Assume.holds]
    exact ⟨by simp, by simp, fun _ => F.over_modest Modest.zero, by simp, by simp⟩, F.over_answers _⟩

end Go.Proofs.YtpbebckhemnooaaFmt
