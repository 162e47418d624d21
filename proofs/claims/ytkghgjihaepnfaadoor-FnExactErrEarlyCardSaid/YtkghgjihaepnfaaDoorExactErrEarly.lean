/-
  laws.FnExactErrEarly: for every text, impl.ErrEarly is true as the reference says: a new scanner's Err is nil. Conditions: none beyond the row's own (the listed errors are as the program's text lays them).
-/
import Derived.Test.YtkghgjihaepnfaaDoorMake
import Derived.Test.YtkghgjihaepnfaaDoorShut
namespace Go.Proofs.YtkghgjihaepnfaaDoor
open Go.ChangeShapes Go.WideShapes Go.ChangeAt Go.RowKit

theorem madeW_below (w : World) (s : ByteArray) (pa : Option Addr) (pn pc : Nat) (tog broken : Bool) (rm : Array Value) (ev : Value) : Below w.heap.size w (madeW w s pa pn pc tog broken rm ev) :=
  (((((Below.refl _ _).alloc (Nat.le_refl _) _).alloc (by simp) _).alloc (by simp; omega) _).alloc (by simp; omega) _).alloc (by simp; omega) _

theorem made_c7 (w : World) (s : ByteArray) (pa : Option Addr) (pn pc : Nat) (tog broken : Bool) (rm : Array Value) (ev : Value) : (madeW w s pa pn pc tog broken rm ev).cell? ⟨w.heap.size + 4, 7, none⟩ = some .nilIface := by
  show World.cell? (World.alloc _ (.cells (newCells (w.heap.size + 3)) 74)) _ = _
  rw [show w.heap.size + 4 = ((((w.alloc (.cells #[.string s, .slice pa pn pc, .bool tog, .bool broken] 39)).alloc (.cells rm 41)).alloc (.cells #[.string s, .slice pa pn pc, .bool tog, .bool broken] 39)).alloc (.cells (rdCells s pa pn pc tog ev) 80)).heap.size from by simp]
  exact World.cell?_alloc_new ..

set_option maxHeartbeats 400000 in
theorem errEarly_any (s : ByteArray) (w : World) (E0 : Addr) (hg : w.cell? ⟨5, 0, none⟩ = some (.iface 81 (.pointer (some E0)))) (hlt : 5 < w.heap.size) :
    Calls Tryd.prog 19 #[.string s] w fun e w' => e = .returned (.bool true) ∧ Below w.heap.size w w' := by
  have HS := Lib.hid (scanner_default s none 0 0 false w E0 0 0 hg hlt)
  have HE := Lib.hid (err_nil (w.heap.size + 4) _ E0 (made_c7 w s none 0 0 false false #[.bool true, .int .i64 0, .int .i64 0] (.iface 81 (.pointer (some E0))))
    (((madeW_below w s none 0 0 false false #[.bool true, .int .i64 0, .int .i64 0] (.iface 81 (.pointer (some E0)))).cell (p := ⟨5, 0, none⟩) hlt).trans hg))
  have HB := Lib.hid (madeW_below w s none 0 0 false false #[.bool true, .int .i64 0, .int .i64 0] (.iface 81 (.pointer (some E0))))
  clear hg
  generalize madeW w s none 0 0 false false #[.bool true, .int .i64 0, .int .i64 0] (.iface 81 (.pointer (some E0))) = w1 at HS HE HB
  go_enter Tryd.func19, Tryd.ntmps19
  go_wp2_with fail
  refine HS.out.mono ?_
  rintro e w' ⟨rfl, rfl⟩
  go_wp2_with fail
  refine HE.out.mono ?_
  rintro e w' ⟨rfl, n, rfl⟩
  go_wp2_with fail
  go_ret
  exact ⟨rfl, below_drewN HB.out n⟩

set_option maxHeartbeats 400000 in
theorem exactErrEarly_walk (s : ByteArray) (w : World) (E0 : Addr) (hg : w.cell? ⟨5, 0, none⟩ = some (.iface 81 (.pointer (some E0)))) (hlt : 5 < w.heap.size) (hs : s.size ≤ 9223372036854775807) :
    Calls Tryd.prog 4 #[.string s] w fun e w' => e = .returned (.bool true) ∧ Below w.heap.size w w' := by
  have HC := Lib.hid (errEarly_any s w E0 hg hlt)
  clear hg
  by_cases hb : 1048576 < s.size
  · go_enter Tryd.func4, Tryd.ntmps4
    go_wp2_with fail
    go_ret
    exact ⟨rfl, Below.refl _ _⟩
  · go_enter Tryd.func4, Tryd.ntmps4
    go_wp2_with (go_at_call 18; go_in)
    refine HC.out.mono ?_
    rintro e w' ⟨rfl, hb'⟩
    go_wp2_with fail
    go_ret
    exact ⟨rfl, hb'⟩

/-- the listed errors, with their numbers and texts -/
def exactErrEarly_list : List (String × Nat × List UInt8) := [("io.EOF", 5, [69, 79, 70]), ("loop.example/lib-g01189/impl.errRead", 4, [114, 101, 97, 100])]
theorem exactErrEarly_globals : ∀ x ∈ exactErrEarly_list, Tryd.prog.globalNamed x.1 = some x.2.1 ∧ (Tryd.prog.globals[x.2.1]?).map (·.type) = some 52 := by
  intro x hx
  simp only [exactErrEarly_list, List.mem_cons, List.not_mem_nil, or_false] at hx
  rcases hx with rfl | rfl
  · exact ⟨by kernel_rfl, by kernel_rfl⟩
  · exact ⟨by kernel_rfl, by kernel_rfl⟩

theorem exactErrEarly_contract (H : Type) (enc : TypeId × Value → H) (W : World) (base : Nat) (args : Array Value) (ds gs : List (DataW H)) (before : List MemPlace)
    (hval : ∀ (j : Nat) t v, Tryd.f4.params[j]? = some t → args[j]? = some v → Value.okWide Tryd.prog W .any base t v)
    (hW : DataW.Whole enc Tryd.prog Tryd.f4.params.toList Rows.fnExactErrEarlySpec.vars false W args.toList ds gs before) (hL : laidMetH Tryd.prog Rows.fnExactErrEarlyRow.laid W) :
    Calls Tryd.prog 4 args W fun e W' => ∃ v, e = .returned v ∧ Rows.fnExactErrEarlySpec.post enc Tryd.prog Tryd.f4 false true false false W args v W' := by
  have hW' := hW
  obtain ⟨p, q, hA0, hV0, rfl, hfz, hnd⟩ := hW
  have hA : DataW.TrodAll enc Tryd.prog W 0 (fun _ => true) true Tryd.f4.params.toList args.toList ds p := hA0
  rw [Tryd.params4] at hA hval
  obtain ⟨v0, vs0, d0, ds0, p0, q0, hargs, rfl, rfl, h0, r0⟩ := trodAll_cons hA
  obtain ⟨rfl, rfl, rfl⟩ := trodAll_nil r0
  obtain rfl : args = #[v0] := by cases args; simp_all
  obtain ⟨s, rfl, rfl, rfl, hs⟩ := Go.ChangeMaps.open_string Tryd.underlying9 (hval 0 9 v0 rfl rfl) h0
  rw [MakeChecks.laidMetH_plain _ _ _ (by kernel_rfl)] at hL
  obtain ⟨ads, hl, _, _, hat⟩ := errs_of_laid exactErrEarly_list hL exactErrEarly_globals
  match ads, hl with
  | [a0, a5], _ =>
    obtain ⟨_, hc0⟩ := hat 0 _ a0 rfl rfl
    obtain ⟨hv5, _⟩ := hat 1 _ a5 rfl rfl
    have hV : DataW.TrodVars enc Tryd.prog W (fun _ => true) ["loop.example/lib-g01189/impl.errRead"] gs q := hV0
    have hgn := exactErrEarly_globals ("loop.example/lib-g01189/impl.errRead", 4, [114, 101, 97, 100]) (by simp [exactErrEarly_list])
    obtain ⟨rfl, rfl⟩ := hV.unique (vars_read1 enc hgn.1 hgn.2 Tryd.underlying52 hv5 trivial _)
    have hlt0 : 5 < W.heap.size := World.block_lt_of_cell? W _ hc0
    refine (exactErrEarly_walk s W a0 hc0 hlt0 hs).mono fun e W' ⟨he, hb⟩ => ⟨_, he, ?_⟩
    refine law_post hW' (by kernel_rfl) rfl rfl ⟨_, vars_read1 enc hgn.1 hgn.2 Tryd.underlying52 (var?_below hb hgn.1 ?_ hv5) trivial _⟩ hb
    have hc5 := (hat 1 _ a5 rfl rfl).2
    exact World.block_lt_of_cell? W _ hc5

theorem exactErrEarly_met (os : Os) : laidMetH Tryd.prog Rows.fnExactErrEarlyRow.laid ((World.doorLaid Tryd.prog 180 os).forCall (fun _ _ => 0) ⟨#[], #[.string ⟨#[]⟩], []⟩).memory :=
  laidMetH_of_parts3 (fuel := 8) (laidMet_of_run' 8 (by kernel_rfl) (by kernel_rfl)) (by kernel_rfl) (by kernel_rfl)

theorem exactErrEarly_reads (os : Os) {H : Type} (enc : TypeId × Value → H) : (DataW.whole enc Tryd.prog ((World.doorLaid Tryd.prog 180 os).forCall (fun _ _ => 0) ⟨#[], #[.string ⟨#[]⟩], []⟩).memory Tryd.f4.params.toList Rows.fnExactErrEarlySpec.vars false #[Value.string ⟨#[]⟩].toList 8).map (fun x => Rows.uptoSmall H (x.1 ++ x.2.1)) = some true := by kernel_rfl

set_option maxRecDepth 100000 in
theorem exactErrEarly_lifted (os : Os) (started : os.Started) (H : Type) (enc : TypeId × Value → H) (F : Stop.Interp) :
    ReturnsInHanded {} Tryd.checked os 4 .any ((OpenSpec.ofChange Rows.fnExactErrEarlySpec).preRow enc Tryd.prog Tryd.f4 Rows.fnExactErrEarlyRow.domain false Rows.fnExactErrEarlyRow.laid)
      (((OpenSpec.ofChange Rows.fnExactErrEarlySpec).at F).post enc Tryd.prog Tryd.f4 false true false false) := by
  obtain ⟨x, hx, _⟩ := Option.map_eq_some_iff.1 (exactErrEarly_reads os enc)
  refine returnsInHanded_of_row (C := Tryd.checked) (s := OpenSpec.ofChange Rows.fnExactErrEarlySpec) own started (by kernel_rfl) Tryd.func4
    (witness_row_atRef (enc := enc) (C := Tryd.checked) false (World.doorLaid Tryd.prog 180 os) #[.string ⟨#[]⟩] rfl (by kernel_rfl) (by kernel_rfl) (by kernel_rfl)
      (OpenSpec.preRow_of_cond 8 hx rfl (fun k hk => by cases hk) (by kernel_rfl) (exactErrEarly_met os))) ?_
  intro W base args ds gs before hval hW _ _ _ hL _ _
  exact exactErrEarly_contract H enc W base args ds gs before hval hW hL

theorem exactErrEarly_said : Rows.FnExactErrEarlySaid :=
  OpenClaim.holds_of_cond 4 Tryd.f4 rfl rfl rfl rfl rfl rfl rfl ⟨rfl, rfl, rfl, rfl, rfl⟩ rfl rfl rfl rfl rfl (by kernel_rfl) Tryd.func4 (by kernel_rfl)
    (of_decide_eq_true (by kernel_rfl)) (by unfold Func.isWrapper; first | (rw [if_pos (by decide +kernel)]; kernel_rfl) | (rw [if_neg (by decide +kernel)]; exact ⟨rfl, rfl⟩))
    (fun os started H enc _ F => by rw [OpenClaim.pre_eq_preRow]; exact exactErrEarly_lifted os started H enc F)

theorem exactErrEarly_plain (f : FuncId) (fn : Func) (hf : Tryd.pinned.checked.prog.funcNamed "loop.example/lib-g01189/laws.FnExactErrEarly" = some f) (hfn : Tryd.pinned.checked.prog.funcs[f]? = some fn) :
    true = Tryd.pinned.checked.prog.looks [] ∧ ∀ (j : Nat) t, fn.params[j]? = some t → Tryd.pinned.checked.prog.wantsStandIn t = false := by
  obtain rfl : f = 4 := Option.some.inj ((show Tryd.prog.funcNamed "loop.example/lib-g01189/laws.FnExactErrEarly" = some 4 by kernel_rfl).symm.trans hf) |>.symm
  obtain rfl : fn = Tryd.f4 := (Option.some.inj (Tryd.func4.symm.trans hfn)).symm
  refine ⟨by kernel_rfl, fun j t ht => ?_⟩
  have hall : (Tryd.f4.params.toList.all fun t => !Tryd.prog.wantsStandIn t) = true := by kernel_rfl
  have := List.all_eq_true.1 hall t (by have := Array.mem_of_getElem? ht; simpa using this)
  show Tryd.prog.wantsStandIn t = false
  simpa using this

/-- THE CARD -/
theorem exactErrEarly_card : Rows.FnExactErrEarlyCardSaid :=
  Claim7.holds_tied_plain_at .later [] _ _ _ _ exactErrEarly_said (fun _ h => by cases h) (by kernel_rfl) (fun _ h => by cases h) fnExactErrEarly_row_tie rfl ⟨rfl, rfl⟩ (by kernel_rfl) rfl exactErrEarly_plain (by kernel_rfl)
#print axioms exactErrEarly_card
end Go.Proofs.YtkghgjihaepnfaaDoor
