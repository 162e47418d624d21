/-
  laws.FnRuleWords: words of bytes below 128 are what a rule of the six spaces makes that leaves empty tokens out. Conditions: what it reads is of bulk at most 1048576; the listed errors are as the program's text lays them.
-/
import Derived.Test.YtkclapimgmnldaaDoorQE
import Derived.Test.YtkclapimgmnldaaDoorQO
import Derived.Test.YtkclapimgmnldaaDoorQWalkRuleW
import Derived.Test.YtkclapimgmnldaaDoorQEnvW
namespace Go.Proofs.YtkclapimgmnldaaDoor
set_option linter.unusedVariables false
set_option linter.unusedSimpArgs false
open Go.ChangeShapes Go.WideShapes Go.ChangeAt Go.RowKit

set_option maxRecDepth 100000 in
theorem fnRuleWords_contract (H : Type) (enc : TypeId × Value → H) (W : World) (base : Nat) (args : Array Value) (ds gs : List (DataW H)) (before : List MemPlace)
    (hval : ∀ (j : Nat) t v, Tryd.f6.params[j]? = some t → args[j]? = some v → Value.okWide Tryd.prog W .any base t v)
    (hW : DataW.Whole enc Tryd.prog Tryd.f6.params.toList Rows.fnRuleWordsSpec.vars false W args.toList ds gs before) (hk : Rows.uptoSmall H (ds ++ gs) = true) (hL : laidMetH Tryd.prog Rows.fnRuleWordsUptoRow.laid W) :
    Calls Tryd.prog 6 args W fun e W' => ∃ v, e = .returned v ∧ Rows.fnRuleWordsSpec.post enc Tryd.prog Tryd.f6 false true false false W args v W' := by
  have hW' := hW
  obtain ⟨p, q, hA0, hV0, rfl, hfz, hnd⟩ := hW
  have hA : DataW.TrodAll enc Tryd.prog W 0 (fun _ => true) true Tryd.f6.params.toList args.toList ds p := hA0
  rw [Tryd.params6] at hA hval
  obtain ⟨v0, vs0, d0, ds0, p0, q0, hargs, rfl, rfl, h0, r0⟩ := trodAll_cons hA
  obtain ⟨rfl, rfl, rfl⟩ := trodAll_nil r0
  obtain rfl : args = #[v0] := by cases args; simp_all
  obtain ⟨s, rfl, rfl, rfl, hs⟩ := Go.ChangeMaps.open_string Tryd.underlying9 (hval 0 9 v0 rfl rfl) h0
  rw [MakeChecks.laidMetH_plain _ _ _ (by kernel_rfl)] at hL
  obtain ⟨E, hE, hv5, hv4⟩ := env9w hL
  have hg4 := list9_globals ("loop.example/lib-g01189/impl.errSplit", 0, [115, 112, 108, 105, 116]) (by simp [list9])
  have hg5 := list9_globals ("loop.example/lib-g01189/impl.errRead", 5, [114, 101, 97, 100]) (by simp [list9])
  have hV : DataW.TrodVars enc Tryd.prog W (fun _ => true) ["loop.example/lib-g01189/impl.errRead", "loop.example/lib-g01189/impl.errSplit"] gs q := hV0
  obtain ⟨rfl, rfl⟩ := hV.unique (vars_read2 enc hg5.1 hg5.2 Tryd.underlying83 hv5 trivial hg4.1 hg4.2 Tryd.underlying83 hv4 trivial _)
  refine (fnRuleWords_walk hE (bulk_s hk)).mono fun e W' ⟨he, hb⟩ => ⟨_, he, ?_⟩
  exact law_post hW' (by kernel_rfl) rfl rfl ⟨_, vars_read2 enc hg5.1 hg5.2 Tryd.underlying83 (var?_below hb hg5.1 hE.c.e.lt hv5) trivial hg4.1 hg4.2 Tryd.underlying83 (var?_below hb hg4.1 hE.c.lts hv4) trivial _⟩ hb

theorem fnRuleWords_met (os : Os) : laidMetH Tryd.prog Rows.fnRuleWordsUptoRow.laid ((World.laidAll Tryd.prog os Rows.fnRuleWordsUptoRow.laid).forCall (fun _ _ => 0) ⟨#[], #[.string ⟨#[]⟩], []⟩).memory :=
  by
  rw [MakeChecks.laidMetH_plain _ _ _ (by kernel_rfl)]
  exact laidMet_laidAll _ (by kernel_rfl) (by kernel_rfl)

theorem fnRuleWords_reads (os : Os) {H : Type} (enc : TypeId × Value → H) : (DataW.whole enc Tryd.prog ((World.laidAll Tryd.prog os Rows.fnRuleWordsUptoRow.laid).forCall (fun _ _ => 0) ⟨#[], #[.string ⟨#[]⟩], []⟩).memory Tryd.f6.params.toList Rows.fnRuleWordsSpec.vars false #[.string ⟨#[]⟩].toList 8).map (fun x => Rows.uptoSmall H (x.1 ++ x.2.1)) = some true := by kernel_rfl

set_option maxRecDepth 100000 in
theorem fnRuleWords_lifted (os : Os) (started : os.Started) (H : Type) (enc : TypeId × Value → H) (F : Stop.Interp) :
    ReturnsInHanded {} Tryd.checked os 6 .any ((Rows.OpenSpec.upto Rows.fnRuleWordsSpec).preRow enc Tryd.prog Tryd.f6 Rows.fnRuleWordsUptoRow.domain false Rows.fnRuleWordsUptoRow.laid)
      (((Rows.OpenSpec.upto Rows.fnRuleWordsSpec).at F).post enc Tryd.prog Tryd.f6 false true false false) := by
  obtain ⟨x, hx, hu⟩ := Option.map_eq_some_iff.1 (fnRuleWords_reads os enc)
  refine returnsInHanded_of_row (C := Tryd.checked) (s := (Rows.OpenSpec.upto Rows.fnRuleWordsSpec)) own started (by kernel_rfl) Tryd.func6
    (witness_row_atRef (enc := enc) (C := Tryd.checked) false (World.laidAll Tryd.prog os Rows.fnRuleWordsUptoRow.laid) #[.string ⟨#[]⟩] (World.laidAll_os _ _ _) (by kernel_rfl) (by kernel_rfl) (by kernel_rfl)
      (OpenSpec.preRow_of_cond 8 hx rfl (fun k hk => by cases hk; exact hu) (by kernel_rfl) (fnRuleWords_met os))) ?_
  intro W base args ds gs before hval hW _ hk hwt hL _ _
  exact fnRuleWords_contract H enc W base args ds gs before hval hW (hk _ rfl) hL

theorem fnRuleWords_said : Rows.FnRuleWordsUptoSaid :=
  OpenClaim.holds_of_cond 6 Tryd.f6 rfl rfl rfl rfl rfl rfl rfl ⟨rfl, rfl, rfl, rfl, rfl⟩ rfl rfl rfl rfl rfl (by kernel_rfl) Tryd.func6 (by kernel_rfl)
    (of_decide_eq_true (by kernel_rfl)) (by unfold Func.isWrapper; first | (rw [if_pos (by decide +kernel)]; kernel_rfl) | (rw [if_neg (by decide +kernel)]; exact ⟨rfl, rfl⟩))
    (fun os started H enc _ F => by rw [OpenClaim.pre_eq_preRow]; exact fnRuleWords_lifted os started H enc F)

theorem fnRuleWords_plain (f : FuncId) (fn : Func) (hf : Tryd.pinned.checked.prog.funcNamed "loop.example/lib-g01189/laws.FnRuleWords" = some f) (hfn : Tryd.pinned.checked.prog.funcs[f]? = some fn) :
    true = Tryd.pinned.checked.prog.looks [] ∧ ∀ (j : Nat) t, fn.params[j]? = some t → Tryd.pinned.checked.prog.wantsStandIn t = false := by
  obtain rfl : f = 6 := Option.some.inj ((show Tryd.prog.funcNamed "loop.example/lib-g01189/laws.FnRuleWords" = some 6 by kernel_rfl).symm.trans hf) |>.symm
  obtain rfl : fn = Tryd.f6 := (Option.some.inj (Tryd.func6.symm.trans hfn)).symm
  refine ⟨by kernel_rfl, fun j t ht => ?_⟩
  have hall : (Tryd.f6.params.toList.all fun t => !Tryd.prog.wantsStandIn t) = true := by kernel_rfl
  have := List.all_eq_true.1 hall t (by have := Array.mem_of_getElem? ht; simpa using this)
  show Tryd.prog.wantsStandIn t = false
  simpa using this

/-- THE CARD -/
theorem fnRuleWords_card : Rows.FnRuleWordsUptoCardSaid :=
  Claim7.holds_tied_plain_at .later [] _ _ _ _ fnRuleWords_said (fun _ h => by cases h) (by kernel_rfl) (fun _ h => by cases h) fnRuleWordsUpto_row_tie rfl ⟨rfl, rfl⟩ (by kernel_rfl) rfl fnRuleWords_plain (by kernel_rfl)
#print axioms fnRuleWords_card
end Go.Proofs.YtkclapimgmnldaaDoor
