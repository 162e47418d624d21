/-
  laws.FnWordsPieces: two ways of handing a text out, in two rooms, make the same words and the same error. Conditions: what it reads is of bulk at most 1048576; the listed errors are as the program's text lays them.
-/
import Derived.Test.YtkafojdjadnfaaaDoorEnv
import Derived.Test.YtkafojdjadnfaaaDoorOpen
import Derived.Test.YtkafojdjadnfaaaDoorWalkWPieces
import Derived.Test.YtkafojdjadnfaaaDoorBulk
import Derived.Test.YtkafojdjadnfaaaDoorEnvW
namespace Go.Proofs.YtkafojdjadnfaaaDoor
set_option linter.unusedVariables false
set_option linter.unusedSimpArgs false
open Go.ChangeShapes Go.WideShapes Go.ChangeAt Go.RowKit

theorem fnWordsPieces_contract (H : Type) (enc : TypeId × Value → H) (W : World) (base : Nat) (args : Array Value) (ds gs : List (DataW H)) (before : List MemPlace)
    (hval : ∀ (j : Nat) t v, Tryd.f9.params[j]? = some t → args[j]? = some v → Value.okWide Tryd.prog W .any base t v)
    (hW : DataW.Whole enc Tryd.prog Tryd.f9.params.toList Rows.fnWordsPiecesSpec.vars false W args.toList ds gs before) (hk : Rows.uptoSmall H (ds ++ gs) = true) (hL : laidMetH Tryd.prog Rows.fnWordsPiecesUptoRow.laid W) :
    Calls Tryd.prog 9 args W fun e W' => ∃ v, e = .returned v ∧ Rows.fnWordsPiecesSpec.post enc Tryd.prog Tryd.f9 false true false false W args v W' := by
  have hW' := hW
  obtain ⟨p, q, hA0, hV0, rfl, hfz, hnd⟩ := hW
  have hA : DataW.TrodAll enc Tryd.prog W 0 (fun _ => true) true Tryd.f9.params.toList args.toList ds p := hA0
  rw [Tryd.params9] at hA hval
  obtain ⟨v0, vs0, d0, ds0, p0, q0, hargs, rfl, rfl, h0, r0⟩ := trodAll_cons hA
  obtain ⟨v1, vs1, d1, ds1, p1, q1, hargs1, rfl, rfl, h1, r1⟩ := trodAll_cons r0
  obtain ⟨v2, vs2, d2, ds2, p2, q2, hargs2, rfl, rfl, h2, r2⟩ := trodAll_cons r1
  obtain ⟨v3, vs3, d3, ds3, p3, q3, hargs3, rfl, rfl, h3, r3⟩ := trodAll_cons r2
  obtain ⟨v4, vs4, d4, ds4, p4, q4, hargs4, rfl, rfl, h4, r4⟩ := trodAll_cons r3
  obtain ⟨v5, vs5, d5, ds5, p5, q5, hargs5, rfl, rfl, h5, r5⟩ := trodAll_cons r4
  obtain ⟨rfl, rfl, rfl⟩ := trodAll_nil r5
  subst hargs1
  subst hargs2
  subst hargs3
  subst hargs4
  subst hargs5
  obtain rfl : args = #[v0, v1, v2, v3, v4, v5] := by cases args; simp_all
  obtain ⟨s, rfl, rfl, rfl, hs⟩ := Go.ChangeMaps.open_string Tryd.underlying9 (hval 0 9 v0 rfl rfl) h0
  obtain ⟨xA, x, xc, rfl, hx, hx'⟩ := openInts (hval 1 40 v1 rfl rfl) h1
  obtain ⟨yA, y, yc, rfl, hy, hy'⟩ := openInts (hval 2 40 v2 rfl rfl) h2
  obtain ⟨rD, rC, rM, rfl, rfl, rfl, hr⟩ := openRoom (hval 3 24 v3 rfl rfl) h3
  obtain ⟨tD, tC, tM, rfl, rfl, rfl, ht⟩ := openRoom (hval 4 24 v4 rfl rfl) h4
  obtain ⟨g, rfl, rfl, rfl⟩ := openBool (hval 5 4 v5 rfl rfl) h5
  rw [MakeChecks.laidMetH_plain _ _ _ (by kernel_rfl)] at hL
  obtain ⟨E, hE, hv5, hv4⟩ := env9w hL
  have hg4 := list9_globals ("loop.example/lib-g01189/impl.errSplit", 6, [115, 112, 108, 105, 116]) (by simp [list9])
  have hg5 := list9_globals ("loop.example/lib-g01189/impl.errRead", 7, [114, 101, 97, 100]) (by simp [list9])
  have hV : DataW.TrodVars enc Tryd.prog W (fun _ => true) ["loop.example/lib-g01189/impl.errRead", "loop.example/lib-g01189/impl.errSplit"] gs q := hV0
  obtain ⟨rfl, rfl⟩ := hV.unique (vars_read2 enc hg5.1 hg5.2 Tryd.underlying63 hv5 trivial hg4.1 hg4.2 Tryd.underlying63 hv4 trivial _)
  refine (fnWordsPieces_walk (tog := g) hE hx hy (bulk_s4 hk) (by have := bulk_1 (bulk_tl hk) hx'; omega) (by have := bulk_1 (bulk_tl (bulk_tl hk)) hy'; omega)).mono fun e W' ⟨he, hb⟩ => ⟨_, he, ?_⟩
  exact law_post hW' (by kernel_rfl) rfl rfl ⟨_, vars_read2 enc hg5.1 hg5.2 Tryd.underlying63 (var?_below hb hg5.1 hE.c.e.lt hv5) trivial hg4.1 hg4.2 Tryd.underlying63 (var?_below hb hg4.1 hE.c.lts hv4) trivial _⟩ hb

theorem fnWordsPieces_met (os : Os) : laidMetH Tryd.prog Rows.fnWordsPiecesUptoRow.laid ((World.laidAll Tryd.prog os Rows.fnWordsPiecesUptoRow.laid).forCall (fun _ _ => 0) ⟨#[], #[.string ⟨#[]⟩, .slice none 0 0, .slice none 0 0, .agg #[.bool false, .int .i64 0, .int .i64 0], .agg #[.bool false, .int .i64 0, .int .i64 0], .bool false], []⟩).memory :=
  by
  rw [MakeChecks.laidMetH_plain _ _ _ (by kernel_rfl)]
  exact laidMet_laidAll _ (by kernel_rfl) (by kernel_rfl)

theorem fnWordsPieces_reads (os : Os) {H : Type} (enc : TypeId × Value → H) : (DataW.whole enc Tryd.prog ((World.laidAll Tryd.prog os Rows.fnWordsPiecesUptoRow.laid).forCall (fun _ _ => 0) ⟨#[], #[.string ⟨#[]⟩, .slice none 0 0, .slice none 0 0, .agg #[.bool false, .int .i64 0, .int .i64 0], .agg #[.bool false, .int .i64 0, .int .i64 0], .bool false], []⟩).memory Tryd.f9.params.toList Rows.fnWordsPiecesSpec.vars false #[.string ⟨#[]⟩, .slice none 0 0, .slice none 0 0, .agg #[.bool false, .int .i64 0, .int .i64 0], .agg #[.bool false, .int .i64 0, .int .i64 0], .bool false].toList 8).map (fun x => Rows.uptoSmall H (x.1 ++ x.2.1)) = some true := by kernel_rfl

set_option maxRecDepth 100000 in
theorem fnWordsPieces_lifted (os : Os) (started : os.Started) (H : Type) (enc : TypeId × Value → H) (F : Stop.Interp) :
    ReturnsInHanded {} Tryd.checked os 9 .any ((Rows.OpenSpec.upto Rows.fnWordsPiecesSpec).preRow enc Tryd.prog Tryd.f9 Rows.fnWordsPiecesUptoRow.domain false Rows.fnWordsPiecesUptoRow.laid)
      (((Rows.OpenSpec.upto Rows.fnWordsPiecesSpec).at F).post enc Tryd.prog Tryd.f9 false true false false) := by
  obtain ⟨x, hx, hu⟩ := Option.map_eq_some_iff.1 (fnWordsPieces_reads os enc)
  refine returnsInHanded_of_row (C := Tryd.checked) (s := (Rows.OpenSpec.upto Rows.fnWordsPiecesSpec)) own started (by kernel_rfl) Tryd.func9
    (witness_row_atRef (enc := enc) (C := Tryd.checked) false (World.laidAll Tryd.prog os Rows.fnWordsPiecesUptoRow.laid) #[.string ⟨#[]⟩, .slice none 0 0, .slice none 0 0, .agg #[.bool false, .int .i64 0, .int .i64 0], .agg #[.bool false, .int .i64 0, .int .i64 0], .bool false] (World.laidAll_os _ _ _) (by kernel_rfl) (by kernel_rfl) (by kernel_rfl)
      (OpenSpec.preRow_of_cond 8 hx rfl (fun k hk => by cases hk; exact hu) (by kernel_rfl) (fnWordsPieces_met os))) ?_
  intro W base args ds gs before hval hW _ hk hwt hL _ _
  exact fnWordsPieces_contract H enc W base args ds gs before hval hW (hk _ rfl) hL

theorem fnWordsPieces_said : Rows.FnWordsPiecesUptoSaid :=
  OpenClaim.holds_of_cond 9 Tryd.f9 rfl rfl rfl rfl rfl rfl rfl ⟨rfl, rfl, rfl, rfl, rfl⟩ rfl rfl rfl rfl rfl (by kernel_rfl) Tryd.func9 (by kernel_rfl)
    (of_decide_eq_true (by kernel_rfl)) (by unfold Func.isWrapper; first | (rw [if_pos (by decide +kernel)]; kernel_rfl) | (rw [if_neg (by decide +kernel)]; exact ⟨rfl, rfl⟩))
    (fun os started H enc _ F => by rw [OpenClaim.pre_eq_preRow]; exact fnWordsPieces_lifted os started H enc F)

theorem fnWordsPieces_plain (f : FuncId) (fn : Func) (hf : Tryd.pinned.checked.prog.funcNamed "loop.example/lib-g01189/laws.FnWordsPieces" = some f) (hfn : Tryd.pinned.checked.prog.funcs[f]? = some fn) :
    true = Tryd.pinned.checked.prog.looks [] ∧ ∀ (j : Nat) t, fn.params[j]? = some t → Tryd.pinned.checked.prog.wantsStandIn t = false := by
  obtain rfl : f = 9 := Option.some.inj ((show Tryd.prog.funcNamed "loop.example/lib-g01189/laws.FnWordsPieces" = some 9 by kernel_rfl).symm.trans hf) |>.symm
  obtain rfl : fn = Tryd.f9 := (Option.some.inj (Tryd.func9.symm.trans hfn)).symm
  refine ⟨by kernel_rfl, fun j t ht => ?_⟩
  have hall : (Tryd.f9.params.toList.all fun t => !Tryd.prog.wantsStandIn t) = true := by kernel_rfl
  have := List.all_eq_true.1 hall t (by have := Array.mem_of_getElem? ht; simpa using this)
  show Tryd.prog.wantsStandIn t = false
  simpa using this

/-- THE CARD -/
theorem fnWordsPieces_card : Rows.FnWordsPiecesUptoCardSaid :=
  Claim7.holds_tied_plain_at .later [] _ _ _ _ fnWordsPieces_said (fun _ h => by cases h) (by kernel_rfl) (fun _ h => by cases h) fnWordsPiecesUpto_row_tie rfl ⟨rfl, rfl⟩ (by kernel_rfl) rfl fnWordsPieces_plain (by kernel_rfl)
#print axioms fnWordsPieces_card
end Go.Proofs.YtkafojdjadnfaaaDoor
