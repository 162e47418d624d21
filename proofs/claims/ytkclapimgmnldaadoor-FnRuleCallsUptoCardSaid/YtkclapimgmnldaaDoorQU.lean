/-
  laws.toRule: a rule copied.
-/
import Derived.Test.YtkclapimgmnldaaDoorQMadeR
import Derived.Test.YtkclapimgmnldaaDoorQO
import Derived.Deep.Grids
namespace Go.Proofs.YtkclapimgmnldaaDoor
set_option linter.unusedVariables false
set_option linter.unusedSimpArgs false
set_option maxRecDepth 20000
open Go.RowKit

/-- a slice that reads as these bools -/
structure BoolsC (w : World) (pa : Option Addr) (pcs : List Bool) (pc : Nat) : Prop where
  le : pcs.length ≤ pc
  cap : pc ≤ 9223372036854775807
  cells : ∀ i c, pcs[i]? = some c → ∃ b o, pa = some ⟨b, o, none⟩ ∧ w.cell? ⟨b, o + i, none⟩ = some (.bool c)
theorem BoolsC.below {w w' : World} {pa : Option Addr} {pcs : List Bool} {pc : Nat} (h : BoolsC w pa pcs pc) (hb : Below w.heap.size w w') : BoolsC w' pa pcs pc :=
  ⟨h.le, h.cap, fun i c hc => by
    obtain ⟨b, o, e, hcell⟩ := h.cells i c hc
    exact ⟨b, o, e, (hb.cell (p := ⟨b, o + i, none⟩) (World.block_lt_of_cell? w _ hcell)).trans hcell⟩⟩
theorem BoolsC.drew {w : World} {pa : Option Addr} {pcs : List Bool} {pc : Nat} (h : BoolsC w pa pcs pc) : BoolsC w.drew pa pcs pc := ⟨h.le, h.cap, h.cells⟩
theorem bools_form {base : Nat} {w : World} {v : Value} {n : Nat} {xs : List Value} (h : w.ownsRow base 4 1 v n xs) : ∃ pa pc, v = .slice pa n pc := by
  rcases h.2 with ⟨rfl, h2⟩ | ⟨g, cap, cur, rfl, _⟩
  · exact ⟨none, 0, by rw [h2]⟩
  · exact ⟨_, _, rfl⟩
theorem info_boolR : (Tryd.prog.info? 4).map (fun i => (i.zero, i.size, i.bytes)) = some (some (.bool false), 1, 1) := by kernel_rfl

theorem run_append_bools {w : World} (ty : TypeId) {pa : Option Addr} {pcs : List Bool} {pc : Nat} (h : BoolsC w pa pcs pc) (hn : pcs.length ≤ 140737488355328) :
    ∃ v' w', (Builtin.append_ #[27, 27] ty #[.slice none 0 0, .slice pa pcs.length pc]).run Tryd.prog w = .ok v' w' ∧ w'.ownsRow w.heap.size 4 1 v' pcs.length (pcs.map (.bool)) ∧ w.grownBy w' none := by
  obtain ⟨i0, hi, hz0, hz1, hz2⟩ := info_parts info_boolR
  cases pa with
  | none =>
    have hy : pcs = [] := by
      cases pcs with
      | nil => rfl
      | cons y r => obtain ⟨b, o, e, _⟩ := h.cells 0 y rfl; cases e
    subst hy
    refine ⟨.slice none 0 0, w, ?_, World.ownsRow_nil _ _ _ _, ⟨rfl, rfl, rfl, Nat.le_refl _, fun _ _ _ => rfl⟩⟩
    simp [Builtin.append_, run_underlying Tryd.underlying27, sizeOf, typeInfo, hi, Builtin.lenOf, Builtin.firstCells]
  | some ad =>
    have hcells : ∀ j u, (pcs.map Value.bool)[j]? = some u → w.cell? (ad.add j) = some u := by
      intro j u hj
      simp only [List.getElem?_map, Option.map_eq_some_iff] at hj
      obtain ⟨y, hy, rfl⟩ := hj
      obtain ⟨b, o, e, hc⟩ := h.cells j y hy
      obtain rfl := Option.some.inj e
      have hplain : (⟨b, o, none⟩ : Addr).add j = ⟨b, o + j, none⟩ := by unfold Addr.add; split <;> simp_all
      rw [hplain]
      exact hc
    obtain ⟨v', w', hrun, h4, h5, _, h7⟩ := run_append_own_at (P := Tryd.prog) w w.heap.size 27 ty 4 i0 (.bool false) 1 1 Tryd.underlying27 hi hz0 hz1 hz2 rfl (by decide) (.slice none 0 0) 0 [] (World.ownsRow_nil _ _ _ _) ad pcs.length pc (pcs.map (.bool)) (by simp) hcells
      (fun u hu => by obtain ⟨y, _, rfl⟩ := List.mem_map.1 hu; rfl) (by unfold maxLen; omega) (by omega) (Nat.le_refl _)
    refine ⟨v', w', hrun, ?_, h5⟩
    simpa using h4

theorem step_append_bools {w : World} {ops : Array Oper} {o : Oper} {a : Act} {K : Act → World → Prop} {Q : Exit → Act → World → Prop} {G : Prop} (hgd : o.guard = none) (s x : Operand)
    (ho : o.op = .call { callee := .builtin .append, args := #[s, x], argTypes := #[27, 27] }) (pa : Option Addr) (pcs : List Bool) (pc : Nat) (hs : a.eval s = .slice none 0 0) (hx : a.eval x = .slice pa pcs.length pc)
    (hr : BoolsC w pa pcs pc) (hn : pcs.length ≤ 140737488355328)
    (h : ∀ pa' pc' w', w'.ownsRow w.heap.size 4 1 (.slice pa' pcs.length pc') pcs.length (pcs.map (.bool)) → w.grownBy w' none → K (a.put o.dst (.slice pa' pcs.length pc')) w') : if Region.wanted o (yielded ops a.tmps) = true then Oper.wp Tryd.prog o a w K Q else G := by
  have hw : Region.wanted o (yielded ops a.tmps) = true := by simp [Region.wanted, hgd]
  rw [if_pos hw]
  obtain ⟨v', w', hrun, h2, h3⟩ := run_append_bools (w := w) o.type hr hn
  unfold Oper.wp execOp
  simp only [ho, resolve, invoke, builtin, Sem.run_bind, Sem.run_pure, Result.andThen_ok, List.map_toArray, List.map_cons, List.map_nil, hs, hx, hrun]
  obtain ⟨pa', pc', rfl⟩ := bools_form h2
  exact h pa' pc' w' h2 h3


/-- what toRule gives -/
def RulPost (u : Rl) (w : World) (e : Ending) (w' : World) : Prop := ∃ bp bc rl, e = .returned (rulV u bp bc) ∧ BrksAt w' u.brks bp rl ∧ (u.brks.length ≤ bc ∧ bc ≤ 9223372036854775807) ∧ rl.Nodup ∧ (∀ k, k ∈ rl → w.heap.size ≤ k ∧ k < w'.heap.size) ∧ Below w.heap.size w w'
theorem brks_of_row {base : Nat} {w : World} {pa : Option Addr} {pc : Nat} {bs : List Bool} (h : w.ownsRow base 4 1 (.slice pa bs.length pc) bs.length (bs.map (.bool))) : ∃ rl, BrksAt w bs pa rl ∧ (bs.length ≤ pc ∧ pc ≤ 9223372036854775807) ∧ rl.Nodup ∧ ∀ k, k ∈ rl → base ≤ k ∧ k < w.heap.size := by
  have h' := h
  obtain ⟨h1, h2⟩ := h
  rcases h2 with ⟨h2, h3⟩ | ⟨g, cap, cur, e, h3, h4, h5, h6, h7, h8⟩
  · have : bs = [] := List.length_eq_zero_iff.1 h3
    subst this
    simp only [Value.slice.injEq] at h2
    exact ⟨[], fun i b hb => by simp at hb, ⟨by simp, by omega⟩, by simp, fun k hk => by cases hk⟩
  · simp only [Value.slice.injEq, true_and] at e
    obtain ⟨rfl, rfl⟩ := e
    refine ⟨[g], fun i x hx => ⟨g, 0, rfl, by simp, ?_⟩, ⟨h5, by unfold maxLen at h6; omega⟩, by simp, fun k hk => by simp at hk; subst hk; exact ⟨h3, lt_of_heap h4⟩⟩
    have h9 := World.ownsRow.cells (w := w) (base := base) (e := 4) (size := 1) (v := .slice (some ⟨g, 0, none⟩) bs.length pc) (n := bs.length) (xs := bs.map (.bool)) h' rfl i (.bool x) (by simp [hx])
    have hplain : (⟨g, 0, none⟩ : Addr).add i = ⟨g, 0 + i, none⟩ := by unfold Addr.add; split <;> simp_all
    rw [hplain] at h9
    exact h9
/-- the two blocks of toRule -/
abbrev rulW (w : World) (u : Rl) (bp : Option Addr) (bc : Nat) : World :=
  (w.alloc (.cells #[.slice bp u.brks.length bc, .bool u.keep, .bool u.skip, .int .i64 u.stop, .int .i64 u.fail] 29)).alloc (.cells #[.slice none 0 0, .bool false, .bool false, .int .i64 0, .int .i64 0] 42)
theorem rul_heap {w w1 : World} {u : Rl} {bp : Option Addr} {bc : Nat} (hg : (rulW w u bp bc).drew.grownBy w1 none) :
    w1.heap[w.heap.size]? = some (.cells #[.slice bp u.brks.length bc, .bool u.keep, .bool u.skip, .int .i64 u.stop, .int .i64 u.fail] 29 (0, 0)) ∧ w1.heap[w.heap.size + 1]? = some (.cells #[.slice none 0 0, .bool false, .bool false, .int .i64 0, .int .i64 0] 42 (0, 0)) := by
  constructor
  · rw [hg.block _ (by simp; omega) (by simp)]
    show (rulW w u bp bc).heap[w.heap.size]? = _
    rw [Below.heap_alloc _ _ _ (by simp)]
    exact heap_new w _
  · rw [hg.block _ (by simp) (by simp)]
    show (rulW w u bp bc).heap[w.heap.size + 1]? = _
    have := heap_new (w.alloc (.cells #[.slice bp u.brks.length bc, .bool u.keep, .bool u.skip, .int .i64 u.stop, .int .i64 u.fail] 29)) (.cells #[.slice none 0 0, .bool false, .bool false, .int .i64 0, .int .i64 0] 42)
    simpa using this
theorem rul_keep {w w1 : World} {u : Rl} {bp : Option Addr} {bc : Nat} (hg : (rulW w u bp bc).drew.grownBy w1 none) :
    w1.cell? ⟨w.heap.size, 0, none⟩ = some (.slice bp u.brks.length bc) ∧ w1.cell? ⟨w.heap.size, 1, none⟩ = some (.bool u.keep) ∧ w1.cell? ⟨w.heap.size, 2, none⟩ = some (.bool u.skip) ∧ w1.cell? ⟨w.heap.size, 3, none⟩ = some (.int .i64 u.stop) ∧ w1.cell? ⟨w.heap.size, 4, none⟩ = some (.int .i64 u.fail) :=
  ⟨cell_of_heap (rul_heap hg).1, cell_of_heap (rul_heap hg).1, cell_of_heap (rul_heap hg).1, cell_of_heap (rul_heap hg).1, cell_of_heap (rul_heap hg).1⟩
set_option maxRecDepth 100000 in
set_option maxHeartbeats 1000000 in
theorem toRule_any (u : Rl) (bp : Option Addr) (bc : Nat) (w : World) (hi : BoolsC w bp u.brks bc) (hn : u.brks.length ≤ 140737488355328) :
    Calls Tryd.prog 17 #[rulV u bp bc] w (RulPost u w) := by
  have hbx : Below w.heap.size w (rulW w u bp bc) := bel_al (bel_al (Below.refl _ _) _) _
  have HI := Lib.hid (hi.below hbx)
  have HBX := Lib.hid hbx
  clear hi hbx
  go_enter Tryd.func17, Tryd.ntmps17
  go_wp2_with fail
  go_region_held3 (fun w' => w'.cell? ⟨w.heap.size, 0, none⟩ = some (.slice bp u.brks.length bc) ∧ w'.cell? ⟨w.heap.size, 1, none⟩ = some (.bool u.keep) ∧ w'.cell? ⟨w.heap.size, 2, none⟩ = some (.bool u.skip) ∧ w'.cell? ⟨w.heap.size, 3, none⟩ = some (.int .i64 u.stop) ∧ w'.cell? ⟨w.heap.size, 4, none⟩ = some (.int .i64 u.fail))
    (first
      | go_keep
      | exact rul_keep hgrow)
    ((refine step_append_bools (by rfl) (.const (.slice none 0 0)) (.tmp 4) (by rfl) bp u.brks bc (by rfl) (by rfl) HI.out.drew hn ?_; intro pa1 pc1 w1 hown1 hgrow; have hh := (rul_heap hgrow).2; have k0 := cell_of_heap (i := 0) hh; have k1 := cell_of_heap (i := 1) hh; have k2 := cell_of_heap (i := 2) hh; have k3 := cell_of_heap (i := 3) hh; have k4 := cell_of_heap (i := 4) hh; have kz := frozen_of_heap hh; simp at k0 k1 k2 k3 k4))
  have hW : (((((w1.setCell ⟨w.heap.size + 1, 0, none⟩ (.slice pa1 u.brks.length pc1)).setCell ⟨w.heap.size + 1, 1, none⟩ (.bool u.keep)).setCell ⟨w.heap.size + 1, 2, none⟩ (.bool u.skip)).setCell ⟨w.heap.size + 1, 3, none⟩ (.int .i64 u.stop)).setCell ⟨w.heap.size + 1, 4, none⟩ (.int .i64 u.fail)).heap[w.heap.size + 1]? = some (.cells #[.slice pa1 u.brks.length pc1, .bool u.keep, .bool u.skip, .int .i64 u.stop, .int .i64 u.fail] 42 (0, 0)) := by
    rw [heap_setCell_at (heap_setCell_at (heap_setCell_at (heap_setCell_at (heap_setCell_at hh _) _) _) _) _]; rfl
  have hp : RulPost u w (.returned (rulV u pa1 pc1)) (((((w1.setCell ⟨w.heap.size + 1, 0, none⟩ (.slice pa1 u.brks.length pc1)).setCell ⟨w.heap.size + 1, 1, none⟩ (.bool u.keep)).setCell ⟨w.heap.size + 1, 2, none⟩ (.bool u.skip)).setCell ⟨w.heap.size + 1, 3, none⟩ (.int .i64 u.stop)).setCell ⟨w.heap.size + 1, 4, none⟩ (.int .i64 u.fail)) := by
    obtain ⟨rl, h1, h2, h3, h4⟩ := brks_of_row hown1
    have hne : ∀ k, k ∈ rl → k ≠ w.heap.size + 1 := fun k hk e => by
      have := (h4 k hk).1
      simp at this
      omega
    refine ⟨pa1, pc1, rl, rfl, h1.frame (fun k hk => ?_), h2, h3, fun k hk => ?_, ?_⟩
    · have := hne k hk
      rw [heap_setCell_not this, heap_setCell_not this, heap_setCell_not this, heap_setCell_not this, heap_setCell_not this]
    · have := h4 k hk
      simp at this ⊢
      exact ⟨by omega, this.2⟩
    · have g3 : Below w.heap.size (rulW w u bp bc).drew w1 := (Below.refl _ _).grown hgrow (by simp; omega) (fun k h => by cases h)
      have g4 : Below w.heap.size w w1 := (bel_dr HBX.out).trans g3
      exact ((((g4.setCell (by simp) _).setCell (by simp) _).setCell (by simp) _).setCell (by simp) _).setCell (by simp) _
  generalize (((((w1.setCell ⟨w.heap.size + 1, 0, none⟩ (.slice pa1 u.brks.length pc1)).setCell ⟨w.heap.size + 1, 1, none⟩ (.bool u.keep)).setCell ⟨w.heap.size + 1, 2, none⟩ (.bool u.skip)).setCell ⟨w.heap.size + 1, 3, none⟩ (.int .i64 u.stop)).setCell ⟨w.heap.size + 1, 4, none⟩ (.int .i64 u.fail)) = W2 at hW hp ⊢
  have c0 : W2.cell? ⟨w.heap.size + 1, 0, none⟩ = some (.slice pa1 u.brks.length pc1) := cell_of_heap hW
  have c1 : W2.cell? ⟨w.heap.size + 1, 1, none⟩ = some (.bool u.keep) := cell_of_heap hW
  have c2 : W2.cell? ⟨w.heap.size + 1, 2, none⟩ = some (.bool u.skip) := cell_of_heap hW
  have c3 : W2.cell? ⟨w.heap.size + 1, 3, none⟩ = some (.int .i64 u.stop) := cell_of_heap hW
  have c4 : W2.cell? ⟨w.heap.size + 1, 4, none⟩ = some (.int .i64 u.fail) := cell_of_heap hW
  have HP := Lib.hid hp
  clear hp hW hh hown1 hgrow HBX HI k0 k1 k2 k3 k4 kz
  go_wp2_with fail
  exact bodyPost_ret (v := rulV u pa1 pc1) (by simp [results, Tryd.results17, go_sem, c0, c1, c2, c3, c4]) rfl HP.out
end Go.Proofs.YtkclapimgmnldaaDoor

/-
  A law's source, room and rule in their boxes.
-/
namespace Go.Proofs.YtkclapimgmnldaaDoor
set_option linter.unusedVariables false
set_option linter.unusedSimpArgs false
set_option maxRecDepth 20000
open Go.RowKit

/-- the three boxes -/
abbrev lawR (w : World) (s : ByteArray) (pa : Option Addr) (pn pc : Nat) (tog br d : Bool) (c m : Int) (u : Rl) (bp : Option Addr) (bc : Nat) : World :=
  (lawW w s pa pn pc tog br d c m).alloc (.cells #[.slice bp u.brks.length bc, .bool u.keep, .bool u.skip, .int .i64 u.stop, .int .i64 u.fail] 29)
theorem sized_b {b d : Bool} {c m : Int} (h : sizedB d c m = b) (w : World) : Calls Tryd.prog 12 #[roomV d c m] w fun e w' => e = .returned (.bool b) ∧ Below w.heap.size w w' := by
  subst h
  exact (sized_any d c m w).mono fun e w' ⟨h1, h2⟩ => ⟨h1, by rw [h2]; exact (Below.refl _ _).alloc (Nat.le_refl _) _⟩
theorem limit_b {n : Nat} {d : Bool} {c m : Int} (h : limitN d c m = n) (w : World) : Calls Tryd.prog 13 #[roomV d c m] w fun e w' => e = .returned (.int .i64 (n : Int)) ∧ Below w.heap.size w w' := by
  subst h
  exact (limit_any d c m w).mono fun e w' ⟨h1, h2⟩ => ⟨h1, by rw [h2]; exact (Below.refl _ _).alloc (Nat.le_refl _) _⟩

section
variable {w w' w1 w2 : World} {s : ByteArray} {pa : Option Addr} {pn pc : Nat} {tog br d : Bool} {c m : Int} {u : Rl} {bp : Option Addr} {bc : Nat}
theorem lawR_below (w : World) (s : ByteArray) (pa : Option Addr) (pn pc : Nat) (tog br d : Bool) (c m : Int) (u : Rl) (bp : Option Addr) (bc : Nat) : Below w.heap.size w (lawR w s pa pn pc tog br d c m u bp bc) := (lawW_below w s pa pn pc tog br d c m).alloc (by simp; omega) _
/-- what they read as, in a later world -/
theorem lawR_cells (hb : Below (w.heap.size + 3) (lawR w s pa pn pc tog br d c m u bp bc) w') :
    w'.cell? ⟨w.heap.size, 0, none⟩ = some (.string s) ∧ w'.cell? ⟨w.heap.size, 1, none⟩ = some (.slice pa pn pc) ∧ w'.cell? ⟨w.heap.size, 2, none⟩ = some (.bool tog) ∧ w'.cell? ⟨w.heap.size, 3, none⟩ = some (.bool br) ∧
      w'.cell? ⟨w.heap.size + 1, 0, none⟩ = some (.bool d) ∧ w'.cell? ⟨w.heap.size + 1, 1, none⟩ = some (.int .i64 c) ∧ w'.cell? ⟨w.heap.size + 1, 2, none⟩ = some (.int .i64 m) ∧
      w'.cell? ⟨w.heap.size + 2, 0, none⟩ = some (.slice bp u.brks.length bc) ∧ w'.cell? ⟨w.heap.size + 2, 1, none⟩ = some (.bool u.keep) ∧ w'.cell? ⟨w.heap.size + 2, 2, none⟩ = some (.bool u.skip) ∧ w'.cell? ⟨w.heap.size + 2, 3, none⟩ = some (.int .i64 u.stop) ∧ w'.cell? ⟨w.heap.size + 2, 4, none⟩ = some (.int .i64 u.fail) := by
  have h2 : w'.heap[w.heap.size + 2]? = some (.cells #[.slice bp u.brks.length bc, .bool u.keep, .bool u.skip, .int .i64 u.stop, .int .i64 u.fail] 29 (0, 0)) := by
    rw [hb.block _ (by omega)]
    have := heap_new (lawW w s pa pn pc tog br d c m) (.cells #[.slice bp u.brks.length bc, .bool u.keep, .bool u.skip, .int .i64 u.stop, .int .i64 u.fail] 29)
    simpa using this
  have hb0 : Below (w.heap.size + 2) (lawW w s pa pn pc tog br d c m) (lawR w s pa pn pc tog br d c m u bp bc) := (Below.refl _ _).alloc (by simp) _
  obtain ⟨a0, a1, a2, a3, a4, a5, a6⟩ := law_cells (hb0.trans (hb.mono (by omega)))
  exact ⟨a0, a1, a2, a3, a4, a5, a6, cell_of_heap h2, cell_of_heap h2, cell_of_heap h2, cell_of_heap h2, cell_of_heap h2⟩
theorem lawR_step (h : Below (w.heap.size + 3) (lawR w s pa pn pc tog br d c m u bp bc) w1) (hb : Below w1.heap.size w1 w2) : Below (w.heap.size + 3) (lawR w s pa pn pc tog br d c m u bp bc) w2 :=
  h.trans (hb.mono (by have := h.size; simp at this; omega))
theorem lawR_base (h : Below (w.heap.size + 3) (lawR w s pa pn pc tog br d c m u bp bc) w1) : Below w.heap.size w w1 :=
  (lawR_below w s pa pn pc tog br d c m u bp bc).trans (h.mono (by omega))
end
end Go.Proofs.YtkclapimgmnldaaDoor

/-
  Opening an argument that is a rule.
-/
namespace Go.Proofs.YtkclapimgmnldaaDoor
set_option linter.unusedVariables false
set_option linter.unusedSimpArgs false
set_option maxRecDepth 20000
open Go.ChangeShapes Go.WideShapes Go.ChangeAt Go.RowKit

section
variable {H : Type} {enc : TypeId × Value → H} {P : Program} {W : World} {base b0 : Nat} {sp : Nat → Bool} {held : Bool} {r : Reach} {v : Value} {d : DataW H} {ps : List MemPlace}

theorem array5 {α : Type} {cs : Array α} (h : cs.size = 5) : ∃ c0 c1 c2 c3 c4, cs = #[c0, c1, c2, c3, c4] := by
  obtain ⟨l⟩ := cs
  match l, h with
  | [c0, c1, c2, c3, c4], _ => exact ⟨c0, c1, c2, c3, c4, rfl⟩
theorem trod_struct5 {t : TypeId} {f0 f1 f2 f3 f4 : Field} {fuel : Nat} {cs : List Value} {x : DataW H × List MemPlace} (ht : P.underlying t = some (.struct #[f0, f1, f2, f3, f4])) (h : DataW.trod enc P W base sp held fuel t cs = some x) :
    ∃ y0 y1 y2 y3 y4 n, x = (.agg [y0.1, y1.1, y2.1, y3.1, y4.1], y0.2 ++ (y1.2 ++ (y2.2 ++ (y3.2 ++ y4.2)))) ∧ cs.length = P.cellsOf t ∧ DataW.trod enc P W base sp held n f0.type ((cs.drop f0.offset).take (P.cellsOf f0.type)) = some y0 ∧
      DataW.trod enc P W base sp held n f1.type ((cs.drop f1.offset).take (P.cellsOf f1.type)) = some y1 ∧ DataW.trod enc P W base sp held n f2.type ((cs.drop f2.offset).take (P.cellsOf f2.type)) = some y2 ∧
      DataW.trod enc P W base sp held n f3.type ((cs.drop f3.offset).take (P.cellsOf f3.type)) = some y3 ∧ DataW.trod enc P W base sp held n f4.type ((cs.drop f4.offset).take (P.cellsOf f4.type)) = some y4 := by
  obtain ⟨xs, n, _, rfl, hl, hlen, hf⟩ := DataW.trod_struct ht h
  match xs, hlen with
  | [y0, y1, y2, y3, y4], _ => exact ⟨y0, y1, y2, y3, y4, n, by simp, hl, by simpa using hf 0 f0 rfl, by simpa using hf 1 f1 rfl, by simpa using hf 2 f2 rfl, by simpa using hf 3 f3 rfl, by simpa using hf 4 f4 rfl⟩
theorem open_agg5 {t : TypeId} {f0 f1 f2 f3 f4 : Field} (hs : P.underlying t = some (.struct #[f0, f1, f2, f3, f4])) (hone : Go.Deep.oneCellFields P #[f0, f1, f2, f3, f4] = true) (hC : P.cellsOf t = 5)
    (hv : Value.okWide P W r b0 t v) (h : DataW.Trod enc P W base sp held t v d ps) :
    ∃ (v0 v1 v2 v3 v4 : Value) (y0 y1 y2 y3 y4 : DataW H × List MemPlace) (n : Nat), v = .agg #[v0, v1, v2, v3, v4] ∧ d = .agg [y0.1, y1.1, y2.1, y3.1, y4.1] ∧ ps = y0.2 ++ (y1.2 ++ (y2.2 ++ (y3.2 ++ y4.2))) ∧
      DataW.trod enc P W base sp held n f0.type [v0] = some y0 ∧ DataW.trod enc P W base sp held n f1.type [v1] = some y1 ∧ DataW.trod enc P W base sp held n f2.type [v2] = some y2 ∧ DataW.trod enc P W base sp held n f3.type [v3] = some y3 ∧ DataW.trod enc P W base sp held n f4.type [v4] = some y4 := by
  obtain ⟨cs, rfl, hsz⟩ := okWide_struct hs hv
  obtain ⟨c0, c1, c2, c3, c4, rfl⟩ := array5 (hsz.trans hC)
  obtain ⟨fuel, hf⟩ := h
  obtain ⟨y0, y1, y2, y3, y4, n, hx, _, h0, h1, h2, h3, h4⟩ := trod_struct5 hs hf
  obtain ⟨o0, k0⟩ := Go.Deep.hone_of hone 0 f0 rfl
  obtain ⟨o1, k1⟩ := Go.Deep.hone_of hone 1 f1 rfl
  obtain ⟨o2, k2⟩ := Go.Deep.hone_of hone 2 f2 rfl
  obtain ⟨o3, k3⟩ := Go.Deep.hone_of hone 3 f3 rfl
  obtain ⟨o4, k4⟩ := Go.Deep.hone_of hone 4 f4 rfl
  simp only [Prod.mk.injEq] at hx
  exact ⟨c0, c1, c2, c3, c4, y0, y1, y2, y3, y4, n, rfl, hx.1, hx.2, by simpa [Value.cells, o0, k0] using h0, by simpa [Value.cells, o1, k1] using h1, by simpa [Value.cells, o2, k2] using h2, by simpa [Value.cells, o3, k3] using h3, by simpa [Value.cells, o4, k4] using h4⟩
end

section
variable {H : Type} {enc : TypeId × Value → H} {W : World} {base b0 : Nat} {held : Bool} {r : Reach} {v : Value} {d : DataW H} {ps : List MemPlace}
theorem cellsBool : Tryd.prog.cellsOf 4 = 1 := by kernel_rfl
theorem cellsRule : Tryd.prog.cellsOf 29 = 5 := by kernel_rfl
theorem bulk_bools {H : Type} (B : Nat → Bool) (l : List Nat) : Rows.uptoBulkAll (l.map fun i => DataW.lit (H := H) (.bool (B i))) = l.length := by
  induction l with
  | nil => simp [Rows.uptoBulkAll]
  | cons z zs ih =>
    simp only [List.map_cons, Rows.uptoBulkAll, Rows.uptoBulk] at ih ⊢
    rw [ih]
    simp
    omega
theorem bools_of_trod {fuel : Nat} {u : Value} {x : DataW H × List MemPlace} (hf : DataW.trod enc Tryd.prog W base (fun _ => true) held fuel 27 [u] = some x) :
    ∃ pa bs pc, u = .slice pa (bs : List Bool).length pc ∧ BoolsC W pa bs pc ∧ bs.length ≤ Rows.uptoBulk x.1 := by
  rcases Go.Deep.open_bools Tryd.underlying27 Tryd.underlying4 cellsBool hf with ⟨h1, h2⟩ | ⟨a, len, cap, B, h1, h2, h3, h4, h5, h6⟩
  · simp only [List.cons.injEq, and_true] at h1
    subst h1
    exact ⟨none, [], 0, rfl, ⟨Nat.le_refl _, by omega, fun i x h => by simp at h⟩, by simp⟩
  · simp only [List.cons.injEq, and_true] at h1
    subst h1
    unfold maxLen at h4
    have hlen : ((List.range len).map B).length = len := by simp
    refine ⟨some a, (List.range len).map B, cap, by rw [hlen], ⟨by rw [hlen]; exact h3, h4, fun i x hx => ?_⟩, ?_⟩
    · have hi : i < len := by
        have := (List.getElem?_eq_some_iff.1 hx).1
        rw [hlen] at this
        exact this
      have hc0 := h6 0 (by omega)
      have hci := h6 i (by omega)
      have hsp := cell_spot hc0
      refine ⟨a.block, a.off, by have := hsp 0; simpa [Addr.add] using this, ?_⟩
      rw [← hsp i, hci]
      simp [hi] at hx
      rw [hx]
    · rw [h5]
      simp only [Go.Deep.boolRow, Rows.uptoBulk, bulk_bools, hlen]
      simp
      omega
theorem openRule (hval : Value.okWide Tryd.prog W r b0 29 v) (hd : DataW.Trod enc Tryd.prog W base (fun _ => true) held 29 v d ps) :
    ∃ (u : Rl) (bp : Option Addr) (bc : Nat), v = rulV u bp bc ∧ BoolsC W bp u.brks bc ∧ u.brks.length ≤ Rows.uptoBulk d := by
  obtain ⟨v0, v1, v2, v3, v4, y0, y1, y2, y3, y4, n, rfl, rfl, rfl, h0, h1, h2, h3, h4⟩ := open_agg5 Tryd.underlying29 (by kernel_rfl) cellsRule hval hd
  obtain ⟨pa, bs, pc, e0, hi, hb⟩ := bools_of_trod h0
  obtain ⟨k, e1, rfl⟩ := DataW.trod_bool Tryd.underlying4 h1
  obtain ⟨s, e2, rfl⟩ := DataW.trod_bool Tryd.underlying4 h2
  obtain ⟨st, e3, rfl, h3⟩ := DataW.trod_int Tryd.underlying3 h3
  obtain ⟨fl, e4, rfl, h4⟩ := DataW.trod_int Tryd.underlying3 h4
  simp only [List.cons.injEq, and_true] at e1 e2 e3 e4
  subst e0; subst e1; subst e2; subst e3; subst e4
  refine ⟨⟨bs, k, s, st, fl⟩, pa, pc, rfl, hi, ?_⟩
  simp only [Rows.uptoBulk, Rows.uptoBulkAll]
  omega
end
end Go.Proofs.YtkclapimgmnldaaDoor
