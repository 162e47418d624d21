/-
  laws.FnLineStep: data with a newline make ScanLines return the first line and advance behind its newline, at the end of the input or not; the rest at the end is a line. Conditions: the listed errors are as the program's text lays them.
-/
import Derived.Test.YtkghgjihaepnfaaDoorEnv
import Derived.Test.YtkghgjihaepnfaaDoorOpen
import Derived.Test.YtkghgjihaepnfaaDoorWalkStep
namespace Go.Proofs.YtkghgjihaepnfaaDoor
set_option linter.unusedVariables false
set_option linter.unusedSimpArgs false
open Go.ChangeShapes Go.WideShapes Go.ChangeAt Go.RowKit

/-- the listed errors, with their numbers and texts -/
def step5 : List (String × Nat × List UInt8) := [("bufio.ErrTooLong", 0, [98, 117, 102, 105, 111, 46, 83, 99, 97, 110, 110, 101, 114, 58, 32, 116, 111, 107, 101, 110, 32, 116, 111, 111, 32, 108, 111, 110, 103]),
  ("bufio.ErrNegativeAdvance", 1, [98, 117, 102, 105, 111, 46, 83, 99, 97, 110, 110, 101, 114, 58, 32, 83, 112, 108, 105, 116, 70, 117, 110, 99, 32, 114, 101, 116, 117, 114, 110, 115, 32, 110, 101, 103, 97, 116, 105, 118, 101, 32, 97, 100, 118, 97, 110, 99, 101, 32, 99, 111, 117, 110, 116]),
  ("bufio.ErrAdvanceTooFar", 2, [98, 117, 102, 105, 111, 46, 83, 99, 97, 110, 110, 101, 114, 58, 32, 83, 112, 108, 105, 116, 70, 117, 110, 99, 32, 114, 101, 116, 117, 114, 110, 115, 32, 97, 100, 118, 97, 110, 99, 101, 32, 99, 111, 117, 110, 116, 32, 98, 101, 121, 111, 110, 100, 32, 105, 110, 112, 117, 116]),
  ("loop.example/lib-g01189/impl.errSplit", 3, [115, 112, 108, 105, 116]),
  ("loop.example/lib-g01189/impl.errRead", 4, [114, 101, 97, 100])]
theorem step5_globals : ∀ x ∈ step5, Tryd.prog.globalNamed x.1 = some x.2.1 ∧ (Tryd.prog.globals[x.2.1]?).map (·.type) = some 52 := by
  intro x hx
  simp only [step5, List.mem_cons, List.not_mem_nil, or_false] at hx
  rcases hx with rfl | rfl | rfl | rfl | rfl <;> exact ⟨by kernel_rfl, by kernel_rfl⟩
theorem reach_s {H : Type} {P : Program} {t : TypeId} {ts : List TypeId} {s : ByteArray} {ds : List (DataW H)} (h : (DataW.weightsEach P (t :: ts) (DataW.lit (.string s.data.toList) :: ds)).all (· ≤ reachBytes) = true) : s.size ≤ 140737488355328 := by
  have h1 := sized_string h (j := 0) (t := t) (bytes := s.data.toList) rfl rfl
  have h2 : s.data.toList.length = s.size := by simp
  unfold reachBytes at h1
  omega

theorem fnLineStep_contract (H : Type) (enc : TypeId × Value → H) (W : World) (base : Nat) (args : Array Value) (ds gs : List (DataW H)) (before : List MemPlace)
    (hval : ∀ (j : Nat) t v, Tryd.f3.params[j]? = some t → args[j]? = some v → Value.okWide Tryd.prog W .any base t v)
    (hW : DataW.Whole enc Tryd.prog Tryd.f3.params.toList Rows.fnLineStepSpec.vars false W args.toList ds gs before) (hwt : (DataW.weightsEach Tryd.prog (Tryd.f3.params.toList ++ (OpenSpec.ofChange Rows.fnLineStepSpec).bare.plain.varTypes Tryd.prog) (ds ++ gs)).all (· ≤ reachBytes) = true) (hL : laidMetH Tryd.prog Rows.fnLineStepRow.laid W) :
    Calls Tryd.prog 3 args W fun e W' => ∃ v, e = .returned v ∧ Rows.fnLineStepSpec.post enc Tryd.prog Tryd.f3 false true false false W args v W' := by
  have hW' := hW
  obtain ⟨p, q, hA0, hV0, rfl, hfz, hnd⟩ := hW
  have hA : DataW.TrodAll enc Tryd.prog W 0 (fun _ => true) true Tryd.f3.params.toList args.toList ds p := hA0
  rw [Tryd.params3] at hA hval
  obtain ⟨v0, vs0, d0, ds0, p0, q0, hargs, rfl, rfl, h0, r0⟩ := trodAll_cons hA
  obtain ⟨v1, vs1, d1, ds1, p1, q1, hargs1, rfl, rfl, h1, r1⟩ := trodAll_cons r0
  obtain ⟨rfl, rfl, rfl⟩ := trodAll_nil r1
  subst hargs1
  obtain rfl : args = #[v0, v1] := by cases args; simp_all
  obtain ⟨s, rfl, rfl, rfl, hs⟩ := Go.ChangeMaps.open_string Tryd.underlying9 (hval 0 9 v0 rfl rfl) h0
  obtain ⟨eof, rfl, rfl, rfl⟩ := openBool (hval 1 4 v1 rfl rfl) h1
  rw [MakeChecks.laidMetH_plain _ _ _ (by kernel_rfl)] at hL
  obtain ⟨ads, hl5, hnd5, hlies, hat⟩ := errs_of_laid step5 hL step5_globals
  match ads, hl5 with
  | [a1, a2, a3, a4, a5], _ =>
    obtain ⟨hv4, hc4⟩ := hat 3 _ a4 rfl rfl
    obtain ⟨hv5, hc5⟩ := hat 4 _ a5 rfl rfl
    have hg4 := step5_globals ("loop.example/lib-g01189/impl.errSplit", 3, [115, 112, 108, 105, 116]) (by simp [step5])
    have hg5 := step5_globals ("loop.example/lib-g01189/impl.errRead", 4, [114, 101, 97, 100]) (by simp [step5])
    have hV : DataW.TrodVars enc Tryd.prog W (fun _ => true) ["loop.example/lib-g01189/impl.errSplit", "loop.example/lib-g01189/impl.errRead"] gs q := hV0
    obtain ⟨rfl, rfl⟩ := hV.unique (vars_read2 enc hg4.1 hg4.2 Tryd.underlying52 hv4 trivial hg5.1 hg5.2 Tryd.underlying52 hv5 trivial _)
    refine (fnLineStep_walk eof (reach_s hwt)).mono fun e W' ⟨he, hb⟩ => ⟨_, he, ?_⟩
    exact law_post hW' (by kernel_rfl) rfl rfl ⟨_, vars_read2 enc hg4.1 hg4.2 Tryd.underlying52 (var?_below hb hg4.1 (World.block_lt_of_cell? W _ hc4) hv4) trivial hg5.1 hg5.2 Tryd.underlying52 (var?_below hb hg5.1 (World.block_lt_of_cell? W _ hc5) hv5) trivial _⟩ hb

theorem fnLineStep_met (os : Os) : laidMetH Tryd.prog Rows.fnLineStepRow.laid ((World.doorLaid Tryd.prog 180 os).forCall (fun _ _ => 0) ⟨#[], #[.string ⟨#[]⟩, .bool false], []⟩).memory :=
  laidMetH_of_parts3 (fuel := 8) (laidMet_of_run' 8 (by kernel_rfl) (by kernel_rfl)) (by kernel_rfl) (by kernel_rfl)

theorem fnLineStep_reads (os : Os) {H : Type} (enc : TypeId × Value → H) : (DataW.whole enc Tryd.prog ((World.doorLaid Tryd.prog 180 os).forCall (fun _ _ => 0) ⟨#[], #[.string ⟨#[]⟩, .bool false], []⟩).memory Tryd.f3.params.toList Rows.fnLineStepSpec.vars false #[.string ⟨#[]⟩, .bool false].toList 8).map (fun x => Rows.uptoSmall H (x.1 ++ x.2.1)) = some true := by kernel_rfl

set_option maxRecDepth 100000 in
theorem fnLineStep_lifted (os : Os) (started : os.Started) (H : Type) (enc : TypeId × Value → H) (F : Stop.Interp) :
    ReturnsInHanded {} Tryd.checked os 3 .any ((OpenSpec.ofChange Rows.fnLineStepSpec).preRow enc Tryd.prog Tryd.f3 Rows.fnLineStepRow.domain false Rows.fnLineStepRow.laid)
      (((OpenSpec.ofChange Rows.fnLineStepSpec).at F).post enc Tryd.prog Tryd.f3 false true false false) := by
  obtain ⟨x, hx, hu⟩ := Option.map_eq_some_iff.1 (fnLineStep_reads os enc)
  refine returnsInHanded_of_row (C := Tryd.checked) (s := (OpenSpec.ofChange Rows.fnLineStepSpec)) own started (by kernel_rfl) Tryd.func3
    (witness_row_atRef (enc := enc) (C := Tryd.checked) false (World.doorLaid Tryd.prog 180 os) #[.string ⟨#[]⟩, .bool false] rfl (by kernel_rfl) (by kernel_rfl) (by kernel_rfl)
      (OpenSpec.preRow_of_cond 8 hx rfl (fun k hk => by cases hk) (by kernel_rfl) (fnLineStep_met os))) ?_
  intro W base args ds gs before hval hW _ hk hwt hL _ _
  exact fnLineStep_contract H enc W base args ds gs before hval hW hwt hL

theorem fnLineStep_said : Rows.FnLineStepSaid :=
  OpenClaim.holds_of_cond 3 Tryd.f3 rfl rfl rfl rfl rfl rfl rfl ⟨rfl, rfl, rfl, rfl, rfl⟩ rfl rfl rfl rfl rfl (by kernel_rfl) Tryd.func3 (by kernel_rfl)
    (of_decide_eq_true (by kernel_rfl)) (by unfold Func.isWrapper; first | (rw [if_pos (by decide +kernel)]; kernel_rfl) | (rw [if_neg (by decide +kernel)]; exact ⟨rfl, rfl⟩))
    (fun os started H enc _ F => by rw [OpenClaim.pre_eq_preRow]; exact fnLineStep_lifted os started H enc F)

theorem fnLineStep_plain (f : FuncId) (fn : Func) (hf : Tryd.pinned.checked.prog.funcNamed "loop.example/lib-g01189/laws.FnLineStep" = some f) (hfn : Tryd.pinned.checked.prog.funcs[f]? = some fn) :
    true = Tryd.pinned.checked.prog.looks [] ∧ ∀ (j : Nat) t, fn.params[j]? = some t → Tryd.pinned.checked.prog.wantsStandIn t = false := by
  obtain rfl : f = 3 := Option.some.inj ((show Tryd.prog.funcNamed "loop.example/lib-g01189/laws.FnLineStep" = some 3 by kernel_rfl).symm.trans hf) |>.symm
  obtain rfl : fn = Tryd.f3 := (Option.some.inj (Tryd.func3.symm.trans hfn)).symm
  refine ⟨by kernel_rfl, fun j t ht => ?_⟩
  have hall : (Tryd.f3.params.toList.all fun t => !Tryd.prog.wantsStandIn t) = true := by kernel_rfl
  have := List.all_eq_true.1 hall t (by have := Array.mem_of_getElem? ht; simpa using this)
  show Tryd.prog.wantsStandIn t = false
  simpa using this

/-- THE CARD -/
theorem fnLineStep_card : Rows.FnLineStepCardSaid :=
  Claim7.holds_tied_plain_at .later [] _ _ _ _ fnLineStep_said (fun _ h => by cases h) (by kernel_rfl) (fun _ h => by cases h) fnLineStep_row_tie rfl ⟨rfl, rfl⟩ (by kernel_rfl) rfl fnLineStep_plain (by kernel_rfl)
#print axioms fnLineStep_card
end Go.Proofs.YtkghgjihaepnfaaDoor
