/-
  laws.FnLongLine: one long line: it is told as a whole if there is room, and it is an error if there is not. Conditions: the listed errors are as the program's text lays them.
-/
import Derived.Test.YtnoaljlbhihgjaaDoorEnv
import Derived.Test.YtnoaljlbhihgjaaDoorOpen
import Derived.Test.YtnoaljlbhihgjaaDoorWalkLongLine
import Derived.Test.YtnoaljlbhihgjaaDoorEnv9
namespace Go.Proofs.YtnoaljlbhihgjaaDoor
set_option linter.unusedVariables false
set_option linter.unusedSimpArgs false
open Go.ChangeShapes Go.WideShapes Go.ChangeAt Go.RowKit

theorem fnLongLine_contract (H : Type) (enc : TypeId × Value → H) (W : World) (base : Nat) (args : Array Value) (ds gs : List (DataW H)) (before : List MemPlace)
    (hval : ∀ (j : Nat) t v, Tryd.f14.params[j]? = some t → args[j]? = some v → Value.okWide Tryd.prog W .any base t v)
    (hW : DataW.Whole enc Tryd.prog Tryd.f14.params.toList Rows.fnLongLineSpec.vars false W args.toList ds gs before) (hwt : (DataW.weightsEach Tryd.prog (Tryd.f14.params.toList ++ (OpenSpec.ofChange Rows.fnLongLineSpec).bare.plain.varTypes Tryd.prog) (ds ++ gs)).all (· ≤ reachBytes) = true) (hL : laidMetH Tryd.prog Rows.fnLongLineRow.laid W) :
    Calls Tryd.prog 14 args W fun e W' => ∃ v, e = .returned v ∧ Rows.fnLongLineSpec.post enc Tryd.prog Tryd.f14 false true false false W args v W' := by
  have hW' := hW
  obtain ⟨p, q, hA0, hV0, rfl, hfz, hnd⟩ := hW
  have hA : DataW.TrodAll enc Tryd.prog W 0 (fun _ => true) true Tryd.f14.params.toList args.toList ds p := hA0
  rw [Tryd.params14] at hA hval
  obtain ⟨v0, vs0, d0, ds0, p0, q0, hargs, rfl, rfl, h0, r0⟩ := trodAll_cons hA
  obtain ⟨v1, vs1, d1, ds1, p1, q1, hargs1, rfl, rfl, h1, r1⟩ := trodAll_cons r0
  obtain ⟨rfl, rfl, rfl⟩ := trodAll_nil r1
  subst hargs1
  obtain rfl : args = #[v0, v1] := by cases args; simp_all
  obtain ⟨n, rfl, rfl, rfl, hn⟩ := openInt (hval 0 3 v0 rfl rfl) h0
  obtain ⟨rD, rC, rM, rfl, rfl, rfl, hr⟩ := openRoom (hval 1 26 v1 rfl rfl) h1
  rw [MakeChecks.laidMetH_plain _ _ _ (by kernel_rfl)] at hL
  obtain ⟨E, hE, hv5, hv4⟩ := env9 hL
  have hg4 := list9_globals ("loop.example/lib-g01189/impl.errSplit", 6, [115, 112, 108, 105, 116]) (by simp [list9])
  have hg5 := list9_globals ("loop.example/lib-g01189/impl.errRead", 7, [114, 101, 97, 100]) (by simp [list9])
  have hV : DataW.TrodVars enc Tryd.prog W (fun _ => true) ["loop.example/lib-g01189/impl.errRead", "loop.example/lib-g01189/impl.errSplit"] gs q := hV0
  obtain ⟨rfl, rfl⟩ := hV.unique (vars_read2 enc hg5.1 hg5.2 Tryd.underlying66 hv5 trivial hg4.1 hg4.2 Tryd.underlying66 hv4 trivial _)
  refine (fnLongLine_walk n rD hE).mono fun e W' ⟨he, hb⟩ => ⟨_, he, ?_⟩
  exact law_post hW' (by kernel_rfl) rfl rfl ⟨_, vars_read2 enc hg5.1 hg5.2 Tryd.underlying66 (var?_below hb hg5.1 hE.e.lt hv5) trivial hg4.1 hg4.2 Tryd.underlying66 (var?_below hb hg4.1 hE.lts hv4) trivial _⟩ hb

theorem fnLongLine_met (os : Os) : laidMetH Tryd.prog Rows.fnLongLineRow.laid ((World.doorLaid Tryd.prog 180 os).forCall (fun _ _ => 0) ⟨#[], #[.int .i64 0, .agg #[.bool false, .int .i64 0, .int .i64 0]], []⟩).memory :=
  laidMetH_of_parts3 (fuel := 8) (laidMet_of_run' 8 (by kernel_rfl) (by kernel_rfl)) (by kernel_rfl) (by kernel_rfl)

theorem fnLongLine_reads (os : Os) {H : Type} (enc : TypeId × Value → H) : (DataW.whole enc Tryd.prog ((World.doorLaid Tryd.prog 180 os).forCall (fun _ _ => 0) ⟨#[], #[.int .i64 0, .agg #[.bool false, .int .i64 0, .int .i64 0]], []⟩).memory Tryd.f14.params.toList Rows.fnLongLineSpec.vars false #[.int .i64 0, .agg #[.bool false, .int .i64 0, .int .i64 0]].toList 8).map (fun x => Rows.uptoSmall H (x.1 ++ x.2.1)) = some true := by kernel_rfl

set_option maxRecDepth 100000 in
theorem fnLongLine_lifted (os : Os) (started : os.Started) (H : Type) (enc : TypeId × Value → H) (F : Stop.Interp) :
    ReturnsInHanded {} Tryd.checked os 14 .any ((OpenSpec.ofChange Rows.fnLongLineSpec).preRow enc Tryd.prog Tryd.f14 Rows.fnLongLineRow.domain false Rows.fnLongLineRow.laid)
      (((OpenSpec.ofChange Rows.fnLongLineSpec).at F).post enc Tryd.prog Tryd.f14 false true false false) := by
  obtain ⟨x, hx, hu⟩ := Option.map_eq_some_iff.1 (fnLongLine_reads os enc)
  refine returnsInHanded_of_row (C := Tryd.checked) (s := (OpenSpec.ofChange Rows.fnLongLineSpec)) own started (by kernel_rfl) Tryd.func14
    (witness_row_atRef (enc := enc) (C := Tryd.checked) false (World.doorLaid Tryd.prog 180 os) #[.int .i64 0, .agg #[.bool false, .int .i64 0, .int .i64 0]] rfl (by kernel_rfl) (by kernel_rfl) (by kernel_rfl)
      (OpenSpec.preRow_of_cond 8 hx rfl (fun k hk => by cases hk) (by kernel_rfl) (fnLongLine_met os))) ?_
  intro W base args ds gs before hval hW _ hk hwt hL _ _
  exact fnLongLine_contract H enc W base args ds gs before hval hW hwt hL

theorem fnLongLine_said : Rows.FnLongLineSaid :=
  OpenClaim.holds_of_cond 14 Tryd.f14 rfl rfl rfl rfl rfl rfl rfl ⟨rfl, rfl, rfl, rfl, rfl⟩ rfl rfl rfl rfl rfl (by kernel_rfl) Tryd.func14 (by kernel_rfl)
    (of_decide_eq_true (by kernel_rfl)) (by unfold Func.isWrapper; first | (rw [if_pos (by decide +kernel)]; kernel_rfl) | (rw [if_neg (by decide +kernel)]; exact ⟨rfl, rfl⟩))
    (fun os started H enc _ F => by rw [OpenClaim.pre_eq_preRow]; exact fnLongLine_lifted os started H enc F)

theorem fnLongLine_plain (f : FuncId) (fn : Func) (hf : Tryd.pinned.checked.prog.funcNamed "loop.example/lib-g01189/laws.FnLongLine" = some f) (hfn : Tryd.pinned.checked.prog.funcs[f]? = some fn) :
    true = Tryd.pinned.checked.prog.looks [] ∧ ∀ (j : Nat) t, fn.params[j]? = some t → Tryd.pinned.checked.prog.wantsStandIn t = false := by
  obtain rfl : f = 14 := Option.some.inj ((show Tryd.prog.funcNamed "loop.example/lib-g01189/laws.FnLongLine" = some 14 by kernel_rfl).symm.trans hf) |>.symm
  obtain rfl : fn = Tryd.f14 := (Option.some.inj (Tryd.func14.symm.trans hfn)).symm
  refine ⟨by kernel_rfl, fun j t ht => ?_⟩
  have hall : (Tryd.f14.params.toList.all fun t => !Tryd.prog.wantsStandIn t) = true := by kernel_rfl
  have := List.all_eq_true.1 hall t (by have := Array.mem_of_getElem? ht; simpa using this)
  show Tryd.prog.wantsStandIn t = false
  simpa using this

/-- THE CARD -/
theorem fnLongLine_card : Rows.FnLongLineCardSaid :=
  Claim7.holds_tied_plain_at .later [] _ _ _ _ fnLongLine_said (fun _ h => by cases h) (by kernel_rfl) (fun _ h => by cases h) fnLongLine_row_tie rfl ⟨rfl, rfl⟩ (by kernel_rfl) rfl fnLongLine_plain (by kernel_rfl)
#print axioms fnLongLine_card
end Go.Proofs.YtnoaljlbhihgjaaDoor
