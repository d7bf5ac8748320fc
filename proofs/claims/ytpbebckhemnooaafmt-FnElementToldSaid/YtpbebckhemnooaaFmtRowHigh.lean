/- What the rows of this seat ask alike that go beyond ASCII: where unicode.Letter and unicode.asciiFold lie, and that unicode.properties holds bytes; no condition. -/
import Derived.Test.YtpbebckhemnooaaFmtRow
import Derived.Test.YtpbebckhemnooaaFmtHigh
import Derived.Lib.LaidRTabT
import Derived.Lib.LaidTab
namespace Go.Proofs.YtpbebckhemnooaaFmt
open Go.ChangeShapes Go.WideShapes Go.ChangeAt Go.RowKit Go.Lib Go.Shelf
open Go.Extern.Stop Go.Stop Go.Extern
set_option maxRecDepth 100000

section
variable {H : Type} {enc : TypeId × Value → H}
/-- A row's contract, the shape of the world at hand too. -/
theorem told_shaped {a : Assume} {C : Checked} {os : Os} {f : FuncId} {fn : Func} {s : OpenSpec} {conds : List PathCond} {apart fresh handsOn again : Bool} {laid : List (String × DataW Unit)}
    (enter : C.prog.mayEnter = true) (own : ownKnob C.prog.godebug = none) (started : os.Started) (noInit : C.prog.inits.idxOf? f = none) (hfn : C.prog.funcs[f]? = some fn)
    (witness : ∀ F : Stop.Interp, ∃ (w : World) (tape : Tape) (i : Input), w.os = os ∧ (w.forCall tape i).Shaped C.prog ∧ i.vars = [] ∧ Input.okWide C.prog (w.forCall tape i) .any w.heap.size f i ∧
      s.preRow enc C.prog fn conds apart laid (w.forCall tape i).memory i.args ∧ a.holds C.prog (lone (Frame.enter C.prog f i.args .normal) [] (w.forCall tape i)) ∧ F.answers tape)
    (contract : ∀ (F : Stop.Interp) (W : World) (base : Nat) (args : Array Value) (ds gs : List (DataW H)) (before : List MemPlace), W.ShapedOpen C.prog →
      F.told.answers W.tape → (∀ (j : Nat) t v, fn.params[j]? = some t → args[j]? = some v → Value.okWide C.prog W .any base t v) →
      DataW.Whole enc C.prog fn.params.toList s.vars apart W args.toList ds gs before → laidMetH C.prog laid W →
      Calls C.prog f args W fun e W' => ∃ v, e = .returned v ∧ (s.at F.told).post enc C.prog fn apart fresh handsOn again W args v W') :
    ReturnsInTold none a C os f .any Input.okWide (s.preRow enc C.prog fn conds apart laid) (fun F => (s.at F).post enc C.prog fn apart fresh handsOn again) (aloneAtReturn C.prog) nothingAlways := by
  intro F
  show ReturnsInOpen a (some F.told) C os f .any Input.okWide _ _ (aloneAtReturn C.prog) nothingAlways
  refine returnsInOpen_of_calls_wide enter own started noInit (witness F.told) ?_
  intro w tape i hos hsh _ hok hpre hholds hF
  obtain ⟨_, _, _, fn', hfn', _, _, _, _, hval⟩ := hok
  have e : fn' = fn := Option.some.inj (hfn'.symm.trans hfn)
  subst e
  obtain ⟨⟨hp, hl⟩, hz⟩ := hpre
  obtain ⟨ds, gs, before, hw, hc, hk⟩ := OpenSpec.pre_parts hp
  have hw' := DataW.Whole.of_heap (w' := w.forCall tape i) (by rfl) hw
  refine (contract F (w.forCall tape i) w.heap.size i.args ds gs before hsh hF hval hw' (hl.of_heap (by rfl))).mono fun e W' ⟨v, he, hp⟩ => ?_
  subst he
  exact ChangeSpec.post_blind hp
end

theorem extra261 : RExtra Tryf.prog Tryf.lays261_ren := ⟨by kernel_rfl, by kernel_rfl, by kernel_rfl, by kernel_rfl, by kernel_rfl, by kernel_rfl, by kernel_rfl, by kernel_rfl⟩
theorem letter_at : Tryf.prog.globalNamed "unicode.Letter" = some 4 := by kernel_rfl
theorem letter_ty : (Tryf.prog.globals[4]?).map (·.type) = some (Tryf.lays261_ren.t 141) := by kernel_rfl
theorem letter_eq : (Rows.laid_unicode_Letter : DataW Unit) = rtabData letterT := Pinned.letter_eq
theorem fold_at : Tryf.prog.globalNamed "unicode.asciiFold" = some 5 := by kernel_rfl
theorem fold_ty : (Tryf.prog.globals[5]?).map (·.type) = some 97 := by kernel_rfl
theorem fold_u : Tryf.prog.underlying 97 = some (.array 128 31) := by kernel_rfl
theorem u16_u : Tryf.prog.underlying 31 = some (.int .u16) := by kernel_rfl
theorem u16_c : Tryf.prog.cellsOf 31 = 1 := by kernel_rfl
theorem fold_c : Tryf.prog.cellsOf 97 = 128 := by kernel_rfl
theorem fold_eq : (Rows.laid_unicode_asciiFold : DataW Unit) = tabData .u16 PS.foldT := by kernel_rfl
theorem foldT_len : PS.foldT.length = 128 := by kernel_rfl
theorem fold_in {W : World} (h : VarReads Tryf.prog W "unicode.asciiFold" Rows.laid_unicode_asciiFold) : ∀ i, i < 128 → W.cell? ⟨5, i, none⟩ = some (.int .u16 (PS.foldT.getD i 0)) := by
  rw [fold_eq] at h
  obtain ⟨g', t', cs, fuel, p, hg', ht', hvar, hd⟩ := h
  obtain rfl := Option.some.inj (fold_at.symm.trans hg')
  obtain rfl := Option.some.inj (fold_ty.symm.trans ht')
  have hcs := cells_of_tab fold_u u16_u u16_c fold_c hd
  have hT : TabIs Tryf.prog W "unicode.asciiFold" .u16 PS.foldT := by
    unfold TabIs
    rw [hvar, ← hcs]
  exact fun i hi => hT.cell fold_at i (by rw [foldT_len]; exact hi)

theorem prop_row : ((begin Tryf.prog (fun _ _ => 0) default).world.heap[3]?.bind Obj.row?).map (fun x => (x.1.size, x.2)) = some (256, 88) := by kernel_rfl
theorem prop_types : Tryf.prog.cellTypes Tryf.prog.depth 88 = some (List.replicate 256 5) := by kernel_rfl
theorem prop_build : Tryf.prog.buildable 88 = true := by kernel_rfl
theorem prop_g : 3 < Tryf.prog.globals.size := of_decide_eq_true (by kernel_rfl)
theorem u8_u : Tryf.prog.underlying 5 = some (.int .u8) := by kernel_rfl
theorem prop_in {W : World} (h : W.ShapedOpen Tryf.prog) : ∀ i, i < 256 → ∃ x : Int, W.cell? ⟨3, i, none⟩ = some (.int .u8 x) := by
  obtain ⟨⟨zero, t⟩, hz, hz2⟩ := Option.map_eq_some_iff.1 prop_row
  simp only [Prod.mk.injEq] at hz2
  obtain ⟨hs, rfl⟩ := hz2
  obtain ⟨cs, hcs, hsz, hok⟩ := h.1 3 zero _ prop_g hz
  obtain ⟨ts, hts, -, hall⟩ := hok prop_build
  rw [prop_types] at hts
  obtain rfl := Option.some.inj hts
  intro i hi
  have hi2 : i < cs.size := by omega
  obtain ⟨u, hu, hc⟩ := hall i cs[i] (Array.getElem?_eq_getElem hi2)
  have hu5 : u = 5 := (List.mem_replicate.1 (List.mem_of_getElem? hu)).2
  subst hu5
  have hcell : W.cell? ⟨3, i, none⟩ = some cs[i] := by
    simp [World.cell?, hcs, hi2]
  rw [hcell]
  simp only [Cell.ok, u8_u] at hc
  cases hv : cs[i] <;> simp_all

theorem high_in {W : World} (h1 : VarReads Tryf.prog W "unicode.Letter" Rows.laid_unicode_Letter) (h2 : VarReads Tryf.prog W "unicode.asciiFold" Rows.laid_unicode_asciiFold)
    (h3 : Lib.Utf8Tabs 1 2 W) (h4 : W.ShapedOpen Tryf.prog) : PS.Tabs W :=
  ⟨rvar_of_readsT (RTypes.of261 Tryf.lays261) extra261 letter_at letter_ty (letter_eq ▸ h1), prop_in h4, fold_in h2, h3⟩

end Go.Proofs.YtpbebckhemnooaaFmt
