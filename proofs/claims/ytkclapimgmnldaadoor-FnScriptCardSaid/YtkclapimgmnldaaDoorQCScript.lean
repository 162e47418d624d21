/-
  laws.FnScript: a split function that answers by a script is called with what is left of the text, or its beginning; the tokens, the end and the error are those of its answers. Conditions: the listed errors are as the program's text lays them.
-/
import Derived.Test.YtkclapimgmnldaaDoorQE
import Derived.Test.YtkclapimgmnldaaDoorQO
import Derived.Test.YtkclapimgmnldaaDoorQWalkScrF
import Derived.Test.YtkclapimgmnldaaDoorQOpenR
import Derived.Test.YtkclapimgmnldaaDoorQOpenScr
namespace Go.Proofs.YtkclapimgmnldaaDoor
set_option linter.unusedVariables false
set_option linter.unusedSimpArgs false
open Go.ChangeShapes Go.WideShapes Go.ChangeAt Go.RowKit

set_option maxRecDepth 100000 in
theorem fnScript_contract (H : Type) (enc : TypeId × Value → H) (W : World) (base : Nat) (args : Array Value) (ds gs : List (DataW H)) (before : List MemPlace)
    (hval : ∀ (j : Nat) t v, Tryd.f10.params[j]? = some t → args[j]? = some v → Value.okWide Tryd.prog W .any base t v)
    (hW : DataW.Whole enc Tryd.prog Tryd.f10.params.toList Rows.fnScriptSpec.vars false W args.toList ds gs before) (hwt : (DataW.weightsEach Tryd.prog (Tryd.f10.params.toList ++ (OpenSpec.ofChange Rows.fnScriptSpec).bare.plain.varTypes Tryd.prog) (ds ++ gs)).all (· ≤ reachBytes) = true) (hL : laidMetH Tryd.prog Rows.fnScriptRow.laid W) :
    Calls Tryd.prog 10 args W fun e W' => ∃ v, e = .returned v ∧ Rows.fnScriptSpec.post enc Tryd.prog Tryd.f10 false true false false W args v W' := by
  have hW' := hW
  obtain ⟨p, q, hA0, hV0, rfl, hfz, hnd⟩ := hW
  have hA : DataW.TrodAll enc Tryd.prog W 0 (fun _ => true) true Tryd.f10.params.toList args.toList ds p := hA0
  rw [Tryd.params10] at hA hval
  obtain ⟨v0, vs0, d0, ds0, p0, q0, hargs, rfl, rfl, h0, r0⟩ := trodAll_cons hA
  obtain ⟨v1, vs1, d1, ds1, p1, q1, hargs1, rfl, rfl, h1, r1⟩ := trodAll_cons r0
  obtain ⟨v2, vs2, d2, ds2, p2, q2, hargs2, rfl, rfl, h2, r2⟩ := trodAll_cons r1
  obtain ⟨v3, vs3, d3, ds3, p3, q3, hargs3, rfl, rfl, h3, r3⟩ := trodAll_cons r2
  obtain ⟨rfl, rfl, rfl⟩ := trodAll_nil r3
  subst hargs1
  subst hargs2
  subst hargs3
  obtain rfl : args = #[v0, v1, v2, v3] := by cases args; simp_all
  obtain ⟨s, sA, sP, sc, sT, sB, rfl, hs, hs'⟩ := openSourceR (hval 0 24 v0 rfl rfl) h0
  obtain ⟨rD, rC, rM, rfl, rfl, rfl, hr⟩ := openRoom (hval 1 26 v1 rfl rfl) h1
  obtain ⟨xA, xR, xc, xP, rfl, hx, hx'⟩ := openScript (hval 2 67 v2 rfl rfl) h2
  obtain ⟨n, rfl, rfl, rfl, hn⟩ := openInt (hval 3 3 v3 rfl rfl) h3
  rw [MakeChecks.laidMetH_plain _ _ _ (by kernel_rfl)] at hL
  obtain ⟨E, hE, hv5, hv4⟩ := env9 hL
  have hg4 := list9_globals ("loop.example/lib-g01189/impl.errSplit", 0, [115, 112, 108, 105, 116]) (by simp [list9])
  have hg5 := list9_globals ("loop.example/lib-g01189/impl.errRead", 5, [114, 101, 97, 100]) (by simp [list9])
  have hV : DataW.TrodVars enc Tryd.prog W (fun _ => true) ["loop.example/lib-g01189/impl.errRead", "loop.example/lib-g01189/impl.errSplit"] gs q := hV0
  obtain ⟨rfl, rfl⟩ := hV.unique (vars_read2 enc hg5.1 hg5.2 Tryd.underlying83 hv5 trivial hg4.1 hg4.2 Tryd.underlying83 hv4 trivial _)
  refine (fnScript_walk (tog := sT) (d := rD) (c := rC) (m := rM) (rep := xP) sB n hE hs (hs' (reach_d0 hwt)).1 (hs' (reach_d0 hwt)).2 hx (hx' (reach_d2 hwt))).mono fun e W' ⟨he, hb⟩ => ⟨_, he, ?_⟩
  exact law_post hW' (by kernel_rfl) rfl rfl ⟨_, vars_read2 enc hg5.1 hg5.2 Tryd.underlying83 (var?_below hb hg5.1 hE.e.lt hv5) trivial hg4.1 hg4.2 Tryd.underlying83 (var?_below hb hg4.1 hE.lts hv4) trivial _⟩ hb

theorem fnScript_met (os : Os) : laidMetH Tryd.prog Rows.fnScriptRow.laid ((World.doorLaid Tryd.prog 180 os).forCall (fun _ _ => 0) ⟨#[], #[.agg #[.string ⟨#[]⟩, .slice none 0 0, .bool false, .bool false], .agg #[.bool false, .int .i64 0, .int .i64 0], .agg #[.slice none 0 0, .bool false], .int .i64 0], []⟩).memory :=
  laidMetH_of_parts3 (fuel := 8) (laidMet_of_run' 8 (by kernel_rfl) (by kernel_rfl)) (by kernel_rfl) (by kernel_rfl)

theorem fnScript_reads (os : Os) {H : Type} (enc : TypeId × Value → H) : (DataW.whole enc Tryd.prog ((World.doorLaid Tryd.prog 180 os).forCall (fun _ _ => 0) ⟨#[], #[.agg #[.string ⟨#[]⟩, .slice none 0 0, .bool false, .bool false], .agg #[.bool false, .int .i64 0, .int .i64 0], .agg #[.slice none 0 0, .bool false], .int .i64 0], []⟩).memory Tryd.f10.params.toList Rows.fnScriptSpec.vars false #[.agg #[.string ⟨#[]⟩, .slice none 0 0, .bool false, .bool false], .agg #[.bool false, .int .i64 0, .int .i64 0], .agg #[.slice none 0 0, .bool false], .int .i64 0].toList 8).map (fun x => Rows.uptoSmall H (x.1 ++ x.2.1)) = some true := by kernel_rfl

set_option maxRecDepth 100000 in
theorem fnScript_lifted (os : Os) (started : os.Started) (H : Type) (enc : TypeId × Value → H) (F : Stop.Interp) :
    ReturnsInHanded {} Tryd.checked os 10 .any ((OpenSpec.ofChange Rows.fnScriptSpec).preRow enc Tryd.prog Tryd.f10 Rows.fnScriptRow.domain false Rows.fnScriptRow.laid)
      (((OpenSpec.ofChange Rows.fnScriptSpec).at F).post enc Tryd.prog Tryd.f10 false true false false) := by
  obtain ⟨x, hx, hu⟩ := Option.map_eq_some_iff.1 (fnScript_reads os enc)
  refine returnsInHanded_of_row (C := Tryd.checked) (s := (OpenSpec.ofChange Rows.fnScriptSpec)) own started (by kernel_rfl) Tryd.func10
    (witness_row_atRef (enc := enc) (C := Tryd.checked) false (World.doorLaid Tryd.prog 180 os) #[.agg #[.string ⟨#[]⟩, .slice none 0 0, .bool false, .bool false], .agg #[.bool false, .int .i64 0, .int .i64 0], .agg #[.slice none 0 0, .bool false], .int .i64 0] rfl (by kernel_rfl) (by kernel_rfl) (by kernel_rfl)
      (OpenSpec.preRow_of_cond 8 hx rfl (fun k hk => by cases hk) (by kernel_rfl) (fnScript_met os))) ?_
  intro W base args ds gs before hval hW _ hk hwt hL _ _
  exact fnScript_contract H enc W base args ds gs before hval hW hwt hL

theorem fnScript_said : Rows.FnScriptSaid :=
  OpenClaim.holds_of_cond 10 Tryd.f10 rfl rfl rfl rfl rfl rfl rfl ⟨rfl, rfl, rfl, rfl, rfl⟩ rfl rfl rfl rfl rfl (by kernel_rfl) Tryd.func10 (by kernel_rfl)
    (of_decide_eq_true (by kernel_rfl)) (by unfold Func.isWrapper; first | (rw [if_pos (by decide +kernel)]; kernel_rfl) | (rw [if_neg (by decide +kernel)]; exact ⟨rfl, rfl⟩))
    (fun os started H enc _ F => by rw [OpenClaim.pre_eq_preRow]; exact fnScript_lifted os started H enc F)

theorem fnScript_plain (f : FuncId) (fn : Func) (hf : Tryd.pinned.checked.prog.funcNamed "loop.example/lib-g01189/laws.FnScript" = some f) (hfn : Tryd.pinned.checked.prog.funcs[f]? = some fn) :
    true = Tryd.pinned.checked.prog.looks [] ∧ ∀ (j : Nat) t, fn.params[j]? = some t → Tryd.pinned.checked.prog.wantsStandIn t = false := by
  obtain rfl : f = 10 := Option.some.inj ((show Tryd.prog.funcNamed "loop.example/lib-g01189/laws.FnScript" = some 10 by kernel_rfl).symm.trans hf) |>.symm
  obtain rfl : fn = Tryd.f10 := (Option.some.inj (Tryd.func10.symm.trans hfn)).symm
  refine ⟨by kernel_rfl, fun j t ht => ?_⟩
  have hall : (Tryd.f10.params.toList.all fun t => !Tryd.prog.wantsStandIn t) = true := by kernel_rfl
  have := List.all_eq_true.1 hall t (by have := Array.mem_of_getElem? ht; simpa using this)
  show Tryd.prog.wantsStandIn t = false
  simpa using this

/-- THE CARD -/
theorem fnScript_card : Rows.FnScriptCardSaid :=
  Claim7.holds_tied_plain_at .later [] _ _ _ _ fnScript_said (fun _ h => by cases h) (by kernel_rfl) (fun _ h => by cases h) fnScript_row_tie rfl ⟨rfl, rfl⟩ (by kernel_rfl) rfl fnScript_plain (by kernel_rfl)
#print axioms fnScript_card
end Go.Proofs.YtkclapimgmnldaaDoor
