/-
  toSource and toRoom: the laws' sources and rooms as the thin package's.
-/
import Derived.Test.YtkclapimgmnldaaDoorOpenS
import Derived.Test.YtkclapimgmnldaaDoorRun
import Derived.Maps.AppendAt
import Derived.Deep.RegionHeld3
import Derived.Deep.AppendLies
namespace Go.Proofs.YtkclapimgmnldaaDoor
set_option linter.unusedVariables false
set_option linter.unusedSimpArgs false
set_option maxRecDepth 20000
open Go.RowKit

theorem Ints.drew {w : World} {pa : Option Addr} {pcs : List Int} {pc : Nat} (h : Ints w pa pcs pc) : Ints w.drew pa pcs pc := ⟨h.le, h.cap, h.cells⟩

theorem info_int : (Tryd.prog.info? 3).map (fun i => (i.zero, i.size, i.bytes)) = some (some (.int .i64 0), 1, 8) := by kernel_rfl

theorem run_append_ints {w : World} (ty : TypeId) {pa : Option Addr} {pcs : List Int} {pc : Nat} (h : Ints w pa pcs pc) (hn : pcs.length * 8 ≤ 140737488355328) :
    ∃ v' w', (Builtin.append_ #[22, 22] ty #[.slice none 0 0, .slice pa pcs.length pc]).run Tryd.prog w = .ok v' w' ∧ w'.ownsRow w.heap.size 3 1 v' pcs.length (pcs.map (.int .i64)) ∧ w.grownBy w' none := by
  obtain ⟨i0, hi, hz0, hz1, hz2⟩ := info_parts info_int
  cases pa with
  | none =>
    have hy : pcs = [] := by
      cases pcs with
      | nil => rfl
      | cons y r => obtain ⟨b, o, e, _⟩ := h.cells 0 y rfl; cases e
    subst hy
    refine ⟨.slice none 0 0, w, ?_, World.ownsRow_nil _ _ _ _, ⟨rfl, rfl, rfl, Nat.le_refl _, fun _ _ _ => rfl⟩⟩
    simp [Builtin.append_, run_underlying Tryd.underlying22, sizeOf, typeInfo, hi, Builtin.lenOf, Builtin.firstCells]
  | some ad =>
    have hcells : ∀ j u, (pcs.map (Value.int .i64))[j]? = some u → w.cell? (ad.add j) = some u := by
      intro j u hj
      simp only [List.getElem?_map, Option.map_eq_some_iff] at hj
      obtain ⟨y, hy, rfl⟩ := hj
      obtain ⟨b, o, e, hc⟩ := h.cells j y hy
      obtain rfl := Option.some.inj e
      have hplain : (⟨b, o, none⟩ : Addr).add j = ⟨b, o + j, none⟩ := by unfold Addr.add; split <;> simp_all
      rw [hplain]
      exact hc
    obtain ⟨v', w', hrun, h4, h5, _, h7⟩ := run_append_own_at (P := Tryd.prog) w w.heap.size 22 ty 3 i0 (.int .i64 0) 1 8 Tryd.underlying22 hi hz0 hz1 hz2 rfl (by decide) (.slice none 0 0) 0 [] (World.ownsRow_nil _ _ _ _) ad pcs.length pc (pcs.map (.int .i64)) (by simp) hcells
      (fun u hu => by obtain ⟨y, _, rfl⟩ := List.mem_map.1 hu; rfl) (by unfold maxLen; omega) (by omega) (Nat.le_refl _)
    refine ⟨v', w', hrun, ?_, h5⟩
    simpa using h4

/-- such a row is the pieces of a source -/
theorem pcs_of_row {base : Nat} {w : World} {v : Value} {pcs : List Int} (h : w.ownsRow base 3 1 v pcs.length (pcs.map (.int .i64))) : ∃ pa pc pl, v = .slice pa pcs.length pc ∧ PcsAt base w pa pcs pc pl := by
  obtain ⟨h1, h2⟩ := h
  rcases h2 with ⟨rfl, h2⟩ | ⟨g, cap, cur, rfl, h3, h4, h5, h6, h7, h8⟩
  · have : pcs = [] := List.length_eq_zero_iff.1 h2
    subst this
    exact ⟨none, 0, [], rfl, PcsAt.none base w⟩
  · have hlt : g < w.heap.size := by
      rcases Nat.lt_or_ge g w.heap.size with h | h
      · exact h
      · rw [Array.getElem?_eq_none h] at h4; cases h4
    refine ⟨_, cap, [g], rfl, ⟨fun i x hx => ⟨g, 0, rfl, by simp, ?_⟩, ⟨h5, by unfold maxLen at h6; omega⟩, by simp, fun k hk => by simp at hk; subst hk; exact ⟨h3, hlt⟩⟩⟩
    have h9 := World.ownsRow.cells (w := w) (base := base) (e := 3) (size := 1) (v := .slice (some ⟨g, 0, none⟩) pcs.length cap) (n := pcs.length) (xs := pcs.map (.int .i64)) ⟨h1, .inr ⟨g, cap, cur, rfl, h3, h4, h5, h6, h7, h8⟩⟩ rfl i (.int .i64 x) (by simp [hx])
    have hplain : (⟨g, 0, none⟩ : Addr).add i = ⟨g, 0 + i, none⟩ := by unfold Addr.add; split <;> simp_all
    rw [hplain] at h9
    exact h9

theorem step_append_ints {w : World} {ops : Array Oper} {o : Oper} {a : Act} {K : Act → World → Prop} {Q : Exit → Act → World → Prop} {G : Prop} (hgd : o.guard = none) (s x : Operand)
    (ho : o.op = .call { callee := .builtin .append, args := #[s, x], argTypes := #[22, 22] }) (pa : Option Addr) (pcs : List Int) (pc : Nat) (hs : a.eval s = .slice none 0 0) (hx : a.eval x = .slice pa pcs.length pc)
    (hr : Ints w pa pcs pc) (hn : pcs.length * 8 ≤ 140737488355328)
    (h : ∀ pa' pc' w', w'.ownsRow w.heap.size 3 1 (.slice pa' pcs.length pc') pcs.length (pcs.map (.int .i64)) → w.grownBy w' none → K (a.put o.dst (.slice pa' pcs.length pc')) w') : if Region.wanted o (yielded ops a.tmps) = true then Oper.wp Tryd.prog o a w K Q else G := by
  have hw : Region.wanted o (yielded ops a.tmps) = true := by simp [Region.wanted, hgd]
  rw [if_pos hw]
  obtain ⟨v', w', hrun, h2, h3⟩ := run_append_ints (w := w) o.type hr hn
  unfold Oper.wp execOp
  simp only [ho, resolve, invoke, builtin, Sem.run_bind, Sem.run_pure, Result.andThen_ok, List.map_toArray, List.map_cons, List.map_nil, hs, hx, hrun]
  obtain ⟨pa', pc', pl', rfl, -⟩ := pcs_of_row h2
  exact h pa' pc' w' h2 h3

set_option maxHeartbeats 400000 in
theorem toRoom_any (d : Bool) (c m : Int) (w : World) : Calls Tryd.prog 16 #[roomV d c m] w fun e w' => e = .returned (roomV d c m) ∧ Below w.heap.size w w' := by
  go_enter Tryd.func16, Tryd.ntmps16
  go_wp2
  exact bodyPost_ret (v := roomV d c m) (by simp [results, Tryd.results16, go_sem]) rfl ⟨rfl, ((Below.refl _ _).alloc (Nat.le_refl _) _).alloc (by simp) _⟩

/-- what toSource gives -/
def SrcPost (s : ByteArray) (pcs : List Int) (tog br : Bool) (w : World) (e : Ending) (w' : World) : Prop := ∃ pa pc pl, e = .returned (srcV s pa pcs.length pc tog br) ∧ PcsAt w.heap.size w' pa pcs pc pl ∧ Below w.heap.size w w'

/-- the two blocks of toSource -/
abbrev srcW (w : World) (s : ByteArray) (pa : Option Addr) (pn pc : Nat) (tog br : Bool) : World :=
  (w.alloc (.cells #[.string s, .slice pa pn pc, .bool tog, .bool br] 24)).alloc (.cells #[.string ⟨#[]⟩, .slice none 0 0, .bool false, .bool false] 38)
theorem src_keep {w w1 : World} {s : ByteArray} {pa : Option Addr} {pn pc : Nat} {tog br : Bool} (hg : (srcW w s pa pn pc tog br).drew.grownBy w1 none) :
    (w1.cell? ⟨w.heap.size, 0, none⟩ = some (.string s) ∧ w1.cell? ⟨w.heap.size, 1, none⟩ = some (.slice pa pn pc) ∧ w1.cell? ⟨w.heap.size, 2, none⟩ = some (.bool tog) ∧ w1.cell? ⟨w.heap.size, 3, none⟩ = some (.bool br)) ∧
      w1.cell? ⟨w.heap.size + 1, 0, none⟩ = some (.string ⟨#[]⟩) ∧ w1.cell? ⟨w.heap.size + 1, 1, none⟩ = some (.slice none 0 0) ∧ w1.cell? ⟨w.heap.size + 1, 2, none⟩ = some (.bool false) ∧ w1.cell? ⟨w.heap.size + 1, 3, none⟩ = some (.bool false) ∧ w1.frozen? ⟨w.heap.size + 1, 0, none⟩ = false ∧ w1.frozen? ⟨w.heap.size + 1, 1, none⟩ = false ∧ w1.frozen? ⟨w.heap.size + 1, 2, none⟩ = false ∧ w1.frozen? ⟨w.heap.size + 1, 3, none⟩ = false := by
  have h0 : w1.heap[w.heap.size]? = some (.cells #[.string s, .slice pa pn pc, .bool tog, .bool br] 24 (0, 0)) := by
    rw [hg.block _ (by simp; omega) (by simp)]
    show (srcW w s pa pn pc tog br).heap[w.heap.size]? = _
    rw [Below.heap_alloc _ _ _ (by simp)]
    exact heap_new w _
  have h1 : w1.heap[w.heap.size + 1]? = some (.cells #[.string ⟨#[]⟩, .slice none 0 0, .bool false, .bool false] 38 (0, 0)) := by
    rw [hg.block _ (by simp) (by simp)]
    show (srcW w s pa pn pc tog br).heap[w.heap.size + 1]? = _
    have := heap_new (w.alloc (.cells #[.string s, .slice pa pn pc, .bool tog, .bool br] 24)) (.cells #[.string ⟨#[]⟩, .slice none 0 0, .bool false, .bool false] 38)
    simpa using this
  exact ⟨⟨cell_of_heap h0, cell_of_heap h0, cell_of_heap h0, cell_of_heap h0⟩, cell_of_heap h1, cell_of_heap h1, cell_of_heap h1, cell_of_heap h1, frozen_of_heap h1 0, frozen_of_heap h1 1, frozen_of_heap h1 2, frozen_of_heap h1 3⟩

theorem src_heap {w w1 : World} {s : ByteArray} {pa : Option Addr} {pn pc : Nat} {tog br : Bool} (hg : (srcW w s pa pn pc tog br).drew.grownBy w1 none) :
    w1.heap[w.heap.size + 1]? = some (.cells #[.string ⟨#[]⟩, .slice none 0 0, .bool false, .bool false] 38 (0, 0)) := by
  rw [hg.block _ (by simp) (by simp)]
  show (srcW w s pa pn pc tog br).heap[w.heap.size + 1]? = _
  have := heap_new (w.alloc (.cells #[.string s, .slice pa pn pc, .bool tog, .bool br] 24)) (.cells #[.string ⟨#[]⟩, .slice none 0 0, .bool false, .bool false] 38)
  simpa using this
theorem pcs_frame {base base' : Nat} {w w' : World} {pa : Option Addr} {pcs : List Int} {pc : Nat} {pl : List Nat} (h : PcsAt base w pa pcs pc pl) (hb : base' ≤ base) (hk : ∀ k, k ∈ pl → w'.heap[k]? = w.heap[k]?) (hz : w.heap.size ≤ w'.heap.size) : PcsAt base' w' pa pcs pc pl :=
  ⟨fun i x hx => by
    obtain ⟨b, o, e, hm, hc⟩ := h.hp i x hx
    exact ⟨b, o, e, hm, (World.cell?_of_block (a := ⟨b, o + i, Option.none⟩) (hk b hm)).trans hc⟩, h.hpc, h.hnd, fun k hm => ⟨Nat.le_trans hb (h.hlt k hm).1, Nat.lt_of_lt_of_le (h.hlt k hm).2 hz⟩⟩

set_option maxRecDepth 100000 in
set_option maxHeartbeats 1000000 in
theorem toSource_any (s : ByteArray) (pa : Option Addr) (pcs : List Int) (pc : Nat) (tog br : Bool) (w : World) (hi : Ints w pa pcs pc) (hn : pcs.length * 8 ≤ 140737488355328) :
    Calls Tryd.prog 15 #[srcV s pa pcs.length pc tog br] w (SrcPost s pcs tog br w) := by
  have hbx : Below w.heap.size w ((w.alloc (.cells #[.string s, .slice pa pcs.length pc, .bool tog, .bool br] 24)).alloc (.cells #[.string ⟨#[]⟩, .slice none 0 0, .bool false, .bool false] 38)) := ((Below.refl _ _).alloc (Nat.le_refl _) _).alloc (by simp) _
  have HI := Lib.hid (hi.below hbx)
  have HBX := Lib.hid hbx
  clear hi hbx
  go_enter Tryd.func15, Tryd.ntmps15
  go_wp2_with fail
  go_region_held3 (fun w' => w'.cell? ⟨w.heap.size, 0, none⟩ = some (.string s) ∧ w'.cell? ⟨w.heap.size, 1, none⟩ = some (.slice pa pcs.length pc) ∧ w'.cell? ⟨w.heap.size, 2, none⟩ = some (.bool tog) ∧ w'.cell? ⟨w.heap.size, 3, none⟩ = some (.bool br))
    (first
      | go_keep
      | exact (src_keep hgrow).1)
    ((refine step_append_ints (by rfl) (.const (.slice none 0 0)) (.tmp 6) (by rfl) pa pcs pc (by rfl) (by rfl) HI.out.drew hn ?_; intro pa1 pc1 w1 hown1 hgrow; obtain ⟨k0, k1, k2, k3, k4, k5, k6, k7, k8⟩ := src_keep hgrow; clear k0))
  have hh := src_heap hgrow
  have hrow := hown1
  clear k1 k2 k3 k4 k5 k6 k7 k8
  have hW : ((((w1.setCell ⟨w.heap.size + 1, 0, none⟩ (.string s)).setCell ⟨w.heap.size + 1, 1, none⟩ (.slice pa1 pcs.length pc1)).setCell ⟨w.heap.size + 1, 2, none⟩ (.bool tog)).setCell ⟨w.heap.size + 1, 3, none⟩ (.bool br)).heap[w.heap.size + 1]? = some (.cells #[.string s, .slice pa1 pcs.length pc1, .bool tog, .bool br] 38 (0, 0)) := by
    rw [heap_setCell_at (heap_setCell_at (heap_setCell_at (heap_setCell_at hh _) _) _) _]; rfl
  have hp : SrcPost s pcs tog br w (.returned (srcV s pa1 pcs.length pc1 tog br)) ((((w1.setCell ⟨w.heap.size + 1, 0, none⟩ (.string s)).setCell ⟨w.heap.size + 1, 1, none⟩ (.slice pa1 pcs.length pc1)).setCell ⟨w.heap.size + 1, 2, none⟩ (.bool tog)).setCell ⟨w.heap.size + 1, 3, none⟩ (.bool br)) := by
    obtain ⟨pa', pc', pl, e1, hpc⟩ := pcs_of_row hrow
    simp only [Value.slice.injEq, true_and] at e1
    obtain ⟨rfl, rfl⟩ := e1
    refine ⟨pa1, pc1, pl, rfl, pcs_frame hpc (by simp; omega) (fun k hk => ?_) (by simp), ?_⟩
    · have h2 := (hpc.hlt k hk).1
      simp at h2
      rw [heap_setCell_not (by omega), heap_setCell_not (by omega), heap_setCell_not (by omega), heap_setCell_not (by omega)]
    · have h3 : Below w.heap.size (srcW w s pa pcs.length pc tog br).drew w1 := (Below.refl _ _).grown hgrow (by simp; omega) (fun k h => by cases h)
      have h4 : Below w.heap.size w w1 := (HBX.out.drew).trans h3
      exact (((h4.setCell (by simp) _).setCell (by simp) _).setCell (by simp) _).setCell (by simp) _
  generalize ((((w1.setCell ⟨w.heap.size + 1, 0, none⟩ (.string s)).setCell ⟨w.heap.size + 1, 1, none⟩ (.slice pa1 pcs.length pc1)).setCell ⟨w.heap.size + 1, 2, none⟩ (.bool tog)).setCell ⟨w.heap.size + 1, 3, none⟩ (.bool br)) = W2 at hW hp ⊢
  have c0 : W2.cell? ⟨w.heap.size + 1, 0, none⟩ = some (.string s) := cell_of_heap hW
  have c1 : W2.cell? ⟨w.heap.size + 1, 1, none⟩ = some (.slice pa1 pcs.length pc1) := cell_of_heap hW
  have c2 : W2.cell? ⟨w.heap.size + 1, 2, none⟩ = some (.bool tog) := cell_of_heap hW
  have c3 : W2.cell? ⟨w.heap.size + 1, 3, none⟩ = some (.bool br) := cell_of_heap hW
  have HP := Lib.hid hp
  clear hp hW hh hrow hown1 hgrow HBX HI
  go_wp2_with fail
  exact bodyPost_ret (v := srcV s pa1 pcs.length pc1 tog br) (by simp [results, Tryd.results15, go_sem, c0, c1, c2, c3]) rfl HP.out
end Go.Proofs.YtkclapimgmnldaaDoor
