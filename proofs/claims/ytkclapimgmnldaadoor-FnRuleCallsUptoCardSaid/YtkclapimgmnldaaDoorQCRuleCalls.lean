/-
  laws.FnRuleCalls: each call of a split function by a rule has what is left of the text, or the beginning of it; it is all that is left where the end of the input is told, and empty only there. Conditions: what it reads is of bulk at most 1048576; the listed errors are as the program's text lays them.
-/
import Derived.Test.YtkclapimgmnldaaDoorQE
import Derived.Test.YtkclapimgmnldaaDoorQO
import Derived.Test.YtkclapimgmnldaaDoorQWalkRuleC
import Derived.Test.YtkclapimgmnldaaDoorQU
namespace Go.Proofs.YtkclapimgmnldaaDoor
set_option linter.unusedVariables false
set_option linter.unusedSimpArgs false
open Go.ChangeShapes Go.WideShapes Go.ChangeAt Go.RowKit

set_option maxRecDepth 100000 in
theorem fnRuleCalls_contract (H : Type) (enc : TypeId × Value → H) (W : World) (base : Nat) (args : Array Value) (ds gs : List (DataW H)) (before : List MemPlace)
    (hval : ∀ (j : Nat) t v, Tryd.f4.params[j]? = some t → args[j]? = some v → Value.okWide Tryd.prog W .any base t v)
    (hW : DataW.Whole enc Tryd.prog Tryd.f4.params.toList Rows.fnRuleCallsSpec.vars false W args.toList ds gs before) (hk : Rows.uptoSmall H (ds ++ gs) = true) (hL : laidMetH Tryd.prog Rows.fnRuleCallsUptoRow.laid W) :
    Calls Tryd.prog 4 args W fun e W' => ∃ v, e = .returned v ∧ Rows.fnRuleCallsSpec.post enc Tryd.prog Tryd.f4 false true false false W args v W' := by
  have hW' := hW
  obtain ⟨p, q, hA0, hV0, rfl, hfz, hnd⟩ := hW
  have hA : DataW.TrodAll enc Tryd.prog W 0 (fun _ => true) true Tryd.f4.params.toList args.toList ds p := hA0
  rw [Tryd.params4] at hA hval
  obtain ⟨v0, vs0, d0, ds0, p0, q0, hargs, rfl, rfl, h0, r0⟩ := trodAll_cons hA
  obtain ⟨v1, vs1, d1, ds1, p1, q1, hargs1, rfl, rfl, h1, r1⟩ := trodAll_cons r0
  obtain ⟨v2, vs2, d2, ds2, p2, q2, hargs2, rfl, rfl, h2, r2⟩ := trodAll_cons r1
  obtain ⟨rfl, rfl, rfl⟩ := trodAll_nil r2
  subst hargs1
  subst hargs2
  obtain rfl : args = #[v0, v1, v2] := by cases args; simp_all
  obtain ⟨s, sA, sP, sc, sT, sB, rfl, hs, hs'⟩ := openSource (hval 0 24 v0 rfl rfl) h0
  obtain ⟨rD, rC, rM, rfl, rfl, rfl, hr⟩ := openRoom (hval 1 26 v1 rfl rfl) h1
  obtain ⟨u, uA, uc, rfl, hu, hu'⟩ := openRule (hval 2 29 v2 rfl rfl) h2
  rw [MakeChecks.laidMetH_plain _ _ _ (by kernel_rfl)] at hL
  obtain ⟨E, hE, hv5, hv4⟩ := env9 hL
  have hg4 := list9_globals ("loop.example/lib-g01189/impl.errSplit", 0, [115, 112, 108, 105, 116]) (by simp [list9])
  have hg5 := list9_globals ("loop.example/lib-g01189/impl.errRead", 5, [114, 101, 97, 100]) (by simp [list9])
  have hV : DataW.TrodVars enc Tryd.prog W (fun _ => true) ["loop.example/lib-g01189/impl.errRead", "loop.example/lib-g01189/impl.errSplit"] gs q := hV0
  obtain ⟨rfl, rfl⟩ := hV.unique (vars_read2 enc hg5.1 hg5.2 Tryd.underlying83 hv5 trivial hg4.1 hg4.2 Tryd.underlying83 hv4 trivial _)
  refine (fnRuleC_walk (tog := sT) (d := rD) (c := rC) (m := rM) sB hE hs hu (by have := bulk_1 hk (Nat.le_trans (Nat.le_add_right _ _) hs'); omega) (by have := bulk_1 hk (Nat.le_trans (Nat.le_add_left _ _) hs'); omega) (by have := bulk_1 (bulk_tl (bulk_tl hk)) hu'; omega)).mono fun e W' ⟨he, hb⟩ => ⟨_, he, ?_⟩
  exact law_post hW' (by kernel_rfl) rfl rfl ⟨_, vars_read2 enc hg5.1 hg5.2 Tryd.underlying83 (var?_below hb hg5.1 hE.e.lt hv5) trivial hg4.1 hg4.2 Tryd.underlying83 (var?_below hb hg4.1 hE.lts hv4) trivial _⟩ hb

theorem fnRuleCalls_met (os : Os) : laidMetH Tryd.prog Rows.fnRuleCallsUptoRow.laid ((World.doorLaid Tryd.prog 180 os).forCall (fun _ _ => 0) ⟨#[], #[.agg #[.string ⟨#[]⟩, .slice none 0 0, .bool false, .bool false], .agg #[.bool false, .int .i64 0, .int .i64 0], .agg #[.slice none 0 0, .bool false, .bool false, .int .i64 0, .int .i64 0]], []⟩).memory :=
  laidMetH_of_parts3 (fuel := 8) (laidMet_of_run' 8 (by kernel_rfl) (by kernel_rfl)) (by kernel_rfl) (by kernel_rfl)

theorem fnRuleCalls_reads (os : Os) {H : Type} (enc : TypeId × Value → H) : (DataW.whole enc Tryd.prog ((World.doorLaid Tryd.prog 180 os).forCall (fun _ _ => 0) ⟨#[], #[.agg #[.string ⟨#[]⟩, .slice none 0 0, .bool false, .bool false], .agg #[.bool false, .int .i64 0, .int .i64 0], .agg #[.slice none 0 0, .bool false, .bool false, .int .i64 0, .int .i64 0]], []⟩).memory Tryd.f4.params.toList Rows.fnRuleCallsSpec.vars false #[.agg #[.string ⟨#[]⟩, .slice none 0 0, .bool false, .bool false], .agg #[.bool false, .int .i64 0, .int .i64 0], .agg #[.slice none 0 0, .bool false, .bool false, .int .i64 0, .int .i64 0]].toList 8).map (fun x => Rows.uptoSmall H (x.1 ++ x.2.1)) = some true := by kernel_rfl

set_option maxRecDepth 100000 in
theorem fnRuleCalls_lifted (os : Os) (started : os.Started) (H : Type) (enc : TypeId × Value → H) (F : Stop.Interp) :
    ReturnsInHanded {} Tryd.checked os 4 .any ((Rows.OpenSpec.upto Rows.fnRuleCallsSpec).preRow enc Tryd.prog Tryd.f4 Rows.fnRuleCallsUptoRow.domain false Rows.fnRuleCallsUptoRow.laid)
      (((Rows.OpenSpec.upto Rows.fnRuleCallsSpec).at F).post enc Tryd.prog Tryd.f4 false true false false) := by
  obtain ⟨x, hx, hu⟩ := Option.map_eq_some_iff.1 (fnRuleCalls_reads os enc)
  refine returnsInHanded_of_row (C := Tryd.checked) (s := (Rows.OpenSpec.upto Rows.fnRuleCallsSpec)) own started (by kernel_rfl) Tryd.func4
    (witness_row_atRef (enc := enc) (C := Tryd.checked) false (World.doorLaid Tryd.prog 180 os) #[.agg #[.string ⟨#[]⟩, .slice none 0 0, .bool false, .bool false], .agg #[.bool false, .int .i64 0, .int .i64 0], .agg #[.slice none 0 0, .bool false, .bool false, .int .i64 0, .int .i64 0]] rfl (by kernel_rfl) (by kernel_rfl) (by kernel_rfl)
      (OpenSpec.preRow_of_cond 8 hx rfl (fun k hk => by cases hk; exact hu) (by kernel_rfl) (fnRuleCalls_met os))) ?_
  intro W base args ds gs before hval hW _ hk hwt hL _ _
  exact fnRuleCalls_contract H enc W base args ds gs before hval hW (hk _ rfl) hL

theorem fnRuleCalls_said : Rows.FnRuleCallsUptoSaid :=
  OpenClaim.holds_of_cond 4 Tryd.f4 rfl rfl rfl rfl rfl rfl rfl ⟨rfl, rfl, rfl, rfl, rfl⟩ rfl rfl rfl rfl rfl (by kernel_rfl) Tryd.func4 (by kernel_rfl)
    (of_decide_eq_true (by kernel_rfl)) (by unfold Func.isWrapper; first | (rw [if_pos (by decide +kernel)]; kernel_rfl) | (rw [if_neg (by decide +kernel)]; exact ⟨rfl, rfl⟩))
    (fun os started H enc _ F => by rw [OpenClaim.pre_eq_preRow]; exact fnRuleCalls_lifted os started H enc F)

theorem fnRuleCalls_plain (f : FuncId) (fn : Func) (hf : Tryd.pinned.checked.prog.funcNamed "loop.example/lib-g01189/laws.FnRuleCalls" = some f) (hfn : Tryd.pinned.checked.prog.funcs[f]? = some fn) :
    true = Tryd.pinned.checked.prog.looks [] ∧ ∀ (j : Nat) t, fn.params[j]? = some t → Tryd.pinned.checked.prog.wantsStandIn t = false := by
  obtain rfl : f = 4 := Option.some.inj ((show Tryd.prog.funcNamed "loop.example/lib-g01189/laws.FnRuleCalls" = some 4 by kernel_rfl).symm.trans hf) |>.symm
  obtain rfl : fn = Tryd.f4 := (Option.some.inj (Tryd.func4.symm.trans hfn)).symm
  refine ⟨by kernel_rfl, fun j t ht => ?_⟩
  have hall : (Tryd.f4.params.toList.all fun t => !Tryd.prog.wantsStandIn t) = true := by kernel_rfl
  have := List.all_eq_true.1 hall t (by have := Array.mem_of_getElem? ht; simpa using this)
  show Tryd.prog.wantsStandIn t = false
  simpa using this

/-- THE CARD -/
theorem fnRuleCalls_card : Rows.FnRuleCallsUptoCardSaid :=
  Claim7.holds_tied_plain_at .later [] _ _ _ _ fnRuleCalls_said (fun _ h => by cases h) (by kernel_rfl) (fun _ h => by cases h) fnRuleCallsUpto_row_tie rfl ⟨rfl, rfl⟩ (by kernel_rfl) rfl fnRuleCalls_plain (by kernel_rfl)
#print axioms fnRuleCalls_card
end Go.Proofs.YtkclapimgmnldaaDoor
