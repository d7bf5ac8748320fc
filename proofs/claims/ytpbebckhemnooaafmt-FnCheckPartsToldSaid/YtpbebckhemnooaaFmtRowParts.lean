/- The row and the told and tied card of laws.FnCheckParts. -/
import Derived.Test.YtpbebckhemnooaaFmtRow
import Derived.Test.YtpbebckhemnooaaFmtLawParts
namespace Go.Proofs.YtpbebckhemnooaaFmt
open Go.ChangeShapes Go.WideShapes Go.ChangeAt Go.RowKit Go.Lib Go.Shelf
open Go.ChangeMaps (open_string shut_string)
open Go.Extern.Stop Go.Stop Go.Extern
set_option maxRecDepth 100000

theorem parts_start (os : Os) {H : Type} (enc : TypeId × Value → H) :
    (OpenSpec.ofChange Rows.fnCheckPartsSpec).preRow enc Tryf.prog Tryf.f14 Rows.fnCheckPartsRow.domain false Rows.fnCheckPartsRow.laid ((World.laidAll Tryf.prog os Rows.fnCheckPartsRow.laid).forCall (fun _ _ => 0) ⟨#[], #[.string ⟨#[]⟩, .string ⟨#[]⟩], []⟩).memory #[.string ⟨#[]⟩, .string ⟨#[]⟩] := by
  have hw : (DataW.whole enc Tryf.prog ((World.laidAll Tryf.prog os Rows.fnCheckPartsRow.laid).forCall (fun _ _ => 0) ⟨#[], #[.string ⟨#[]⟩, .string ⟨#[]⟩], []⟩).memory Tryf.f14.params.toList (OpenSpec.ofChange Rows.fnCheckPartsSpec).vars false #[Value.string ⟨#[]⟩, .string ⟨#[]⟩].toList 8).map (fun x => (x.1, x.2.1)) =
      some ([.lit (.string []), .lit (.string [])], [.slice (PS.namesL.map fun l => .lit (.string l)) []]) := by kernel_rfl
  obtain ⟨⟨x1, x2, x3⟩, hx, hx1⟩ := Option.map_eq_some_iff.1 hw
  simp only [Prod.mk.injEq] at hx1
  obtain ⟨rfl, rfl⟩ := hx1
  exact OpenSpec.preRow_of_cond 8 hx (by kernel_rfl) (fun k hk => by cases hk) (by kernel_rfl) (by
    rw [MakeChecks.laidMetH_plain _ _ _ (by kernel_rfl)]
    exact laidMet_laidAll _ (by kernel_rfl) (by kernel_rfl))

theorem parts_lifted (os : Os) (started : os.Started) (H : Type) (enc : TypeId × Value → H) :
    ReturnsInTold none {} Tryf.checked os 14 .any Input.okWide ((OpenSpec.ofChange Rows.fnCheckPartsSpec).preRow enc Tryf.prog Tryf.f14 Rows.fnCheckPartsRow.domain false Rows.fnCheckPartsRow.laid)
      (fun F => ((OpenSpec.ofChange Rows.fnCheckPartsSpec).at F).post enc Tryf.prog Tryf.f14 false true false false) (aloneAtReturn Tryf.prog) nothingAlways := by
  refine returnsInTold_of_row (C := Tryf.checked) (s := OpenSpec.ofChange Rows.fnCheckPartsSpec) (by kernel_rfl) own started (by kernel_rfl) Tryf.func14
    (told_start (enc := enc) #[.string ⟨#[]⟩, .string ⟨#[]⟩] (World.shaped_of_ZipB (by kernel_rfl) (by kernel_rfl)) (by kernel_rfl) (parts_start os enc)) ?_
  intro F W base args ds gs before _ hF hval0 hW _ _ _ hL _
  have hval : ∀ (j : Nat) t v, Tryf.f14.params[j]? = some t → args[j]? = some v → Value.okWide Tryf.prog W .any base t v := hval0
  have hW' := hW
  obtain ⟨p, q, hA0, hV, rfl, _, _⟩ := hW
  have hA : DataW.TrodAll enc Tryf.prog W 0 (fun _ => true) true Tryf.f14.params.toList args.toList ds p := hA0
  rw [Tryf.params14] at hA hval
  obtain ⟨v0, v1, d0, d1, q0, q1, rfl, rfl, rfl, h0, h1⟩ := trodAll_two hA
  obtain ⟨s0, rfl, rfl, rfl, ws0⟩ := open_string string_u (hval 0 9 v0 rfl rfl) h0
  obtain ⟨s1, rfl, rfl, rfl, ws1⟩ := open_string string_u (hval 1 9 v1 rfl rfl) h1
  rw [MakeChecks.laidMetH_plain _ _ _ (by kernel_rfl)] at hL
  have hN := names_in (laidMet.reads hL (n := bw) (by first | exact .head _ | exact .tail _ (.head _) | exact .tail _ (.tail _ (.head _)) | exact .tail _ (.tail _ (.tail _ (.head _))) | exact .tail _ (.tail _ (.tail _ (.tail _ (.head _))))))
  have hT := tabs_in (laidMet.reads hL (by first | exact .head _ | exact .tail _ (.head _) | exact .tail _ (.tail _ (.head _)) | exact .tail _ (.tail _ (.tail _ (.head _))) | exact .tail _ (.tail _ (.tail _ (.tail _ (.head _)))))) (laidMet.reads hL (by first | exact .head _ | exact .tail _ (.head _) | exact .tail _ (.tail _ (.head _)) | exact .tail _ (.tail _ (.tail _ (.head _))) | exact .tail _ (.tail _ (.tail _ (.tail _ (.head _))))))
  refine (PS.law_parts F.told s0 s1 W hF hN (fun s hs w hb => valid_in hT s hs w hb)).mono fun e W' ⟨he, hb⟩ => ?_
  subst he
  have hV1 : DataW.TrodVars enc Tryf.prog W (fun _ => true) [bw] gs q := hV
  obtain ⟨g, t, cs, fuel, d, p1, rfl, h1, h2, h3, h4, rfl⟩ := trodVars_one hV1
  have hV2 := Below.trodVars laidOut hb rowed hV1
  exact ⟨_, rfl, _, _, _, [], [], _, hW', trodAll_mk1 (shut_bool Tryf.underlying4 _), trodAll_mk2 (shut_string string_u ws0) (shut_string string_u ws1), hV2, hb.frame _, fun h => by cases h⟩

end Go.Proofs.YtpbebckhemnooaaFmt
