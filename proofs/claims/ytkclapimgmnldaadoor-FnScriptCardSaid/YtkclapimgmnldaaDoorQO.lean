/-
  Opening the arguments of the laws, kind by kind; the bound of the second form.
-/
import Derived.Test.YtkclapimgmnldaaDoorQL
import Derived.Test.YtkclapimgmnldaaDoorQP
import Derived.Test.YtkclapimgmnldaaDoorQHelp
import Derived.Lib.SmallJoins
import Derived.SliceStrings
import Derived.ChangeSlices
import Derived.Test.YtkclapimgmnldaaDoorQRun
import Derived.Maps.AppendAt
import Derived.Deep.RegionHeld3
import Derived.Deep.AppendLies
import Derived.Test.YtkclapimgmnldaaDoorQV
namespace Go.Proofs.YtkclapimgmnldaaDoor
set_option linter.unusedVariables false
set_option linter.unusedSimpArgs false
set_option maxRecDepth 20000
open Go.ChangeShapes Go.WideShapes Go.ChangeAt Go.RowKit

theorem bulk_le {H : Type} {ds : List (DataW H)} (h : Rows.uptoSmall H ds = true) : Rows.uptoBulkAll ds ≤ 1048576 := of_decide_eq_true h
theorem bulk_s {H : Type} {s : ByteArray} {ds : List (DataW H)} (h : Rows.uptoSmall H (DataW.lit (.string s.data.toList) :: ds) = true) : s.size ≤ 1048576 := by
  have h1 := bulk_le h
  have hl : s.data.toList.length = s.size := by simp
  simp only [Rows.uptoBulkAll, Rows.uptoBulk] at h1
  omega

theorem bulk_s4 {H : Type} {s : ByteArray} {ds : List (DataW H)} (h : Rows.uptoSmall H (DataW.lit (.string s.data.toList) :: ds) = true) : s.size ≤ 4194304 := Nat.le_trans (bulk_s h) (by omega)
theorem bulk_d {H : Type} {d : DataW H} {ds : List (DataW H)} (h : Rows.uptoSmall H (d :: ds) = true) : Rows.uptoBulk d ≤ 1048576 := by
  have h1 := bulk_le h
  simp only [Rows.uptoBulkAll] at h1
  omega
theorem bulk_d4 {H : Type} {d : DataW H} {ds : List (DataW H)} {n : Nat} (h : Rows.uptoSmall H (d :: ds) = true) (hn : n ≤ Rows.uptoBulk d) : n ≤ 4194304 := by
  have := bulk_d h
  omega

section
variable {H : Type} {enc : TypeId × Value → H} {W : World} {base b0 : Nat} {sp : Nat → Bool} {held : Bool} {r : Reach} {v : Value} {d : DataW H} {ps : List MemPlace}

theorem wf_i64 {n : Int} (h : (Lit.int .i64 n).wf = true) : -9223372036854775808 ≤ n ∧ n ≤ 9223372036854775807 := by
  simpa [Lit.wf, IntKind.min, IntKind.max, IntKind.signed, IntKind.bits] using h
theorem openInt (hval : Value.okWide Tryd.prog W r b0 3 v) (hd : DataW.Trod enc Tryd.prog W base sp held 3 v d ps) : ∃ n, v = .int .i64 n ∧ d = .lit (.int .i64 n) ∧ ps = [] ∧ (-9223372036854775808 ≤ n ∧ n ≤ 9223372036854775807) := by
  obtain ⟨n, h1, h2, h3, h4⟩ := open_int Tryd.underlying3 hval hd
  exact ⟨n, h1, h2, h3, wf_i64 h4⟩
theorem openBool (hval : Value.okWide Tryd.prog W r b0 4 v) (hd : DataW.Trod enc Tryd.prog W base sp held 4 v d ps) : ∃ b : Bool, v = .bool b ∧ d = .lit (.bool b) ∧ ps = [] := open_bool Tryd.underlying4 hval hd

theorem cellsRoom : Tryd.prog.cellsOf 26 = 3 := by kernel_rfl
theorem openRoom (hval : Value.okWide Tryd.prog W r b0 26 v) (hd : DataW.Trod enc Tryd.prog W base sp held 26 v d ps) :
    ∃ (D : Bool) (c m : Int), v = .agg #[.bool D, .int .i64 c, .int .i64 m] ∧ d = .agg [.lit (.bool D), .lit (.int .i64 c), .lit (.int .i64 m)] ∧ ps = [] ∧ (-9223372036854775808 ≤ c ∧ c ≤ 9223372036854775807 ∧ -9223372036854775808 ≤ m ∧ m ≤ 9223372036854775807) := by
  obtain ⟨v0, v1, v2, y0, y1, y2, n, rfl, rfl, rfl, h0, h1, h2⟩ := Go.Joins.open_agg3 Tryd.underlying26 (by kernel_rfl) cellsRoom hval hd
  obtain ⟨D, e0, rfl⟩ := DataW.trod_bool Tryd.underlying4 h0
  obtain ⟨c, e1, rfl, hc⟩ := DataW.trod_int Tryd.underlying3 h1
  obtain ⟨m, e2, rfl, hm⟩ := DataW.trod_int Tryd.underlying3 h2
  simp only [List.cons.injEq, and_true] at e0 e1 e2
  subst e0; subst e1; subst e2
  have hc' := wf_i64 hc
  have hm' := wf_i64 hm
  exact ⟨D, c, m, rfl, rfl, rfl, hc'.1, hc'.2, hm'.1, hm'.2⟩

/-- a slice's address, where its first cell is there -/
theorem cell_spot {a : Addr} {u : Value} (h : W.cell? (a.add 0) = some u) : ∀ i, a.add i = ⟨a.block, a.off + i, none⟩ := by
  have hs : a.spot = none := by
    have h' : W.cell? a = some u := by simpa [Addr.add] using h
    unfold World.cell? at h'
    cases hsp : a.spot with
    | none => rfl
    | some k => simp [hsp] at h'; split at h' <;> cases h'
  intro i
  obtain ⟨b, o, s⟩ := a
  simp only at hs
  subst hs
  unfold Addr.add
  split <;> simp_all

theorem bulk_strs {H : Type} (ss : List ByteArray) : (joinL (ss.map fun s => s.data.toList)).length ≤ Rows.uptoBulkAll (strs (H := H) ss) := by
  induction ss with
  | nil => simp [joinL]
  | cons s ss ih =>
    have e : joinL ((s :: ss).map fun s => s.data.toList) = (s.data.toList ++ [10]) ++ joinL (ss.map fun s => s.data.toList) := by simp [joinL]
    rw [e, List.length_append]
    simp only [strs, List.map_cons, Rows.uptoBulkAll, Rows.uptoBulk] at ih ⊢
    simp
    omega

/-- an argument's slice of texts -/
theorem openStrs (hval : Value.okWide Tryd.prog W r b0 30 v) (hd : DataW.Trod enc Tryd.prog W base (fun _ => true) held 30 v d ps) :
    ∃ (u : Value) (ls : List (List UInt8)), v = u ∧ Strs W u ls ∧ (joinL ls).length ≤ Rows.uptoBulk d := by
  obtain ⟨fuel, hf⟩ := hd
  rcases open_strings Tryd.underlying30 Tryd.underlying9 cellsStr hf with ⟨h1, h2⟩ | ⟨a, len, cap, ss, h1, h2, h3, h4, h5, h6, h7, h8⟩
  · obtain ⟨a, n, c, rfl⟩ := okWide_slice Tryd.underlying30 hval
    simp only [Value.cells, List.cons.injEq, Value.slice.injEq, and_true] at h1
    obtain ⟨rfl, rfl, rfl⟩ := h1
    exact ⟨_, [], rfl, ⟨none, 0, rfl, Nat.le_refl _, by omega, fun i x h => by simp at h⟩, by simp [joinL]⟩
  · obtain ⟨a', n, c, rfl⟩ := okWide_slice Tryd.underlying30 hval
    simp only [Value.cells, List.cons.injEq, Value.slice.injEq, and_true] at h1
    obtain ⟨rfl, rfl, rfl⟩ := h1
    simp only [Prod.mk.injEq] at h6
    rw [if_pos rfl] at h5
    unfold maxLen at h4
    have hlen : ((ss.take n).map fun s => s.data.toList).length = n := by simp; omega
    refine ⟨_, (ss.take n).map fun s => s.data.toList, rfl, ⟨some a, c, by rw [hlen], by rw [hlen]; exact h3, h4, fun i x hx => ?_⟩, ?_⟩
    · have hi : i < n := by
        have := (List.getElem?_eq_some_iff.1 hx).1
        rw [hlen] at this
        exact this
      have hc0 := h7 0 (by omega)
      have hci := h7 i (by omega)
      have hsp := cell_spot hc0
      refine ⟨a.block, a.off, by have := hsp 0; simpa [Addr.add] using this, ?_⟩
      rw [← hsp i, hci]
      congr 1
      simp only [List.getElem?_map, List.getElem?_take, Option.map_eq_some_iff] at hx
      obtain ⟨b, hb, rfl⟩ := hx
      rw [if_pos hi] at hb
      rw [List.getD_eq_getElem?_getD, hb]
      rfl
    · have := bulk_strs (H := H) (ss.take n)
      rw [h6.1]
      simp only [Rows.uptoBulk]
      omega
end
end Go.Proofs.YtkclapimgmnldaaDoor

/-
  Opening an argument that is a source; slices of numbers.
-/
namespace Go.Proofs.YtkclapimgmnldaaDoor
set_option linter.unusedVariables false
set_option linter.unusedSimpArgs false
set_option maxRecDepth 20000
open Go.ChangeShapes Go.WideShapes Go.ChangeAt Go.RowKit

/-- a slice that reads as these numbers -/
structure Ints (w : World) (pa : Option Addr) (pcs : List Int) (pc : Nat) : Prop where
  le : pcs.length ≤ pc
  cap : pc ≤ 9223372036854775807
  cells : ∀ i c, pcs[i]? = some c → ∃ b o, pa = some ⟨b, o, none⟩ ∧ w.cell? ⟨b, o + i, none⟩ = some (.int .i64 c)
theorem Ints.below {w w' : World} {pa : Option Addr} {pcs : List Int} {pc : Nat} (h : Ints w pa pcs pc) (hb : Below w.heap.size w w') : Ints w' pa pcs pc :=
  ⟨h.le, h.cap, fun i c hc => by
    obtain ⟨b, o, e, hcell⟩ := h.cells i c hc
    exact ⟨b, o, e, (hb.cell (p := ⟨b, o + i, none⟩) (World.block_lt_of_cell? w _ hcell)).trans hcell⟩⟩

section
variable {H : Type} {enc : TypeId × Value → H} {W : World} {base b0 : Nat} {held : Bool} {r : Reach} {v : Value} {d : DataW H} {ps : List MemPlace}

theorem cellsInt : Tryd.prog.cellsOf 3 = 1 := by kernel_rfl
theorem bulk_lits {H : Type} (k : IntKind) (zs : List Int) : Rows.uptoBulkAll (lits (H := H) k zs) = zs.length := by
  induction zs with
  | nil => simp [lits, Rows.uptoBulkAll]
  | cons z zs ih =>
    simp only [lits, List.map_cons, Rows.uptoBulkAll, Rows.uptoBulk] at ih ⊢
    rw [ih]
    simp
    omega
theorem ints_of_trod {fuel : Nat} {u : Value} {x : DataW H × List MemPlace} (hf : DataW.trod enc Tryd.prog W base (fun _ => true) held fuel 22 [u] = some x) :
    ∃ pa pcs pc, u = .slice pa (pcs : List Int).length pc ∧ Ints W pa pcs pc ∧ pcs.length ≤ Rows.uptoBulk x.1 := by
  rcases open_ints Tryd.underlying22 Tryd.underlying3 cellsInt hf with ⟨h1, h2⟩ | ⟨a, len, cap, zs, h1, h2, h3, h4, h5, h6, h7, h8⟩
  · simp only [List.cons.injEq, and_true] at h1
    subst h1
    exact ⟨none, [], 0, rfl, ⟨Nat.le_refl _, by omega, fun i x h => by simp at h⟩, by simp⟩
  · simp only [List.cons.injEq, and_true] at h1
    subst h1
    rw [if_pos rfl] at h5
    unfold maxLen at h4
    have hlen : (zs.take len).length = len := by simp; omega
    refine ⟨some a, zs.take len, cap, by rw [hlen], ⟨by rw [hlen]; exact h3, h4, fun i x hx => ?_⟩, ?_⟩
    · have hi : i < len := by
        have := (List.getElem?_eq_some_iff.1 hx).1
        rw [hlen] at this
        exact this
      have hc0 := h7 0 (by omega)
      have hci := h7 i (by omega)
      have hsp := cell_spot hc0
      refine ⟨a.block, a.off, by have := hsp 0; simpa [Addr.add] using this, ?_⟩
      rw [← hsp i, hci]
      rw [List.getElem?_take, if_pos hi] at hx
      rw [List.getD_eq_getElem?_getD, hx]
      rfl
    · rw [h6]
      simp only [Rows.uptoBulk, bulk_lits]
      omega
theorem openInts (hval : Value.okWide Tryd.prog W r b0 22 v) (hd : DataW.Trod enc Tryd.prog W base (fun _ => true) held 22 v d ps) :
    ∃ pa pcs pc, v = .slice pa (pcs : List Int).length pc ∧ Ints W pa pcs pc ∧ pcs.length ≤ Rows.uptoBulk d := by
  obtain ⟨a, n, c, rfl⟩ := okWide_slice Tryd.underlying22 hval
  obtain ⟨fuel, hf⟩ := hd
  exact ints_of_trod hf

theorem cellsSource : Tryd.prog.cellsOf 24 = 4 := by kernel_rfl
theorem openSource (hval : Value.okWide Tryd.prog W r b0 24 v) (hd : DataW.Trod enc Tryd.prog W base (fun _ => true) held 24 v d ps) :
    ∃ (s : ByteArray) (pa : Option Addr) (pcs : List Int) (pc : Nat) (tog br : Bool), v = .agg #[.string s, .slice pa pcs.length pc, .bool tog, .bool br] ∧ Ints W pa pcs pc ∧ s.size + pcs.length ≤ Rows.uptoBulk d := by
  obtain ⟨v0, v1, v2, v3, y0, y1, y2, y3, n, rfl, rfl, rfl, h0, h1, h2, h3⟩ := Go.Joins.open_agg4 Tryd.underlying24 (by kernel_rfl) cellsSource hval hd
  obtain ⟨s, e0, rfl, hs⟩ := DataW.trod_string Tryd.underlying9 h0
  obtain ⟨pa, pcs, pc, e1, hi, hb⟩ := ints_of_trod h1
  obtain ⟨tog, e2, rfl⟩ := DataW.trod_bool Tryd.underlying4 h2
  obtain ⟨br, e3, rfl⟩ := DataW.trod_bool Tryd.underlying4 h3
  simp only [List.cons.injEq, and_true] at e0 e2 e3
  subst e0; subst e1; subst e2; subst e3
  refine ⟨s, pa, pcs, pc, tog, br, rfl, hi, ?_⟩
  have hl : s.data.toList.length = s.size := by simp
  simp only [Rows.uptoBulk, Rows.uptoBulkAll]
  omega
end
end Go.Proofs.YtkclapimgmnldaaDoor

/-
  toSource and toRoom: the laws' sources and rooms as the thin package's.
-/
namespace Go.Proofs.YtkclapimgmnldaaDoor
set_option linter.unusedVariables false
set_option linter.unusedSimpArgs false
set_option maxRecDepth 20000
open Go.RowKit

theorem Ints.drew {w : World} {pa : Option Addr} {pcs : List Int} {pc : Nat} (h : Ints w pa pcs pc) : Ints w.drew pa pcs pc := ⟨h.le, h.cap, h.cells⟩

theorem info_int : (Tryd.prog.info? 3).map (fun i => (i.zero, i.size, i.bytes)) = some (some (.int .i64 0), 1, 8) := by kernel_rfl

theorem run_append_ints {w : World} (ty : TypeId) {pa : Option Addr} {pcs : List Int} {pc : Nat} (h : Ints w pa pcs pc) (hn : pcs.length * 8 ≤ 140737488355328) :
    ∃ v' w', (Builtin.append_ #[22, 22] ty #[.slice none 0 0, .slice pa pcs.length pc]).run Tryd.prog w = .ok v' w' ∧ w'.ownsRow w.heap.size 3 1 v' pcs.length (pcs.map (.int .i64)) ∧ w.grownBy w' none := by
  obtain ⟨i0, hi, hz0, hz1, hz2⟩ := info_parts info_int
  cases pa with
  | none =>
    have hy : pcs = [] := by
      cases pcs with
      | nil => rfl
      | cons y r => obtain ⟨b, o, e, _⟩ := h.cells 0 y rfl; cases e
    subst hy
    refine ⟨.slice none 0 0, w, ?_, World.ownsRow_nil _ _ _ _, ⟨rfl, rfl, rfl, Nat.le_refl _, fun _ _ _ => rfl⟩⟩
    simp [Builtin.append_, run_underlying Tryd.underlying22, sizeOf, typeInfo, hi, Builtin.lenOf, Builtin.firstCells]
  | some ad =>
    have hcells : ∀ j u, (pcs.map (Value.int .i64))[j]? = some u → w.cell? (ad.add j) = some u := by
      intro j u hj
      simp only [List.getElem?_map, Option.map_eq_some_iff] at hj
      obtain ⟨y, hy, rfl⟩ := hj
      obtain ⟨b, o, e, hc⟩ := h.cells j y hy
      obtain rfl := Option.some.inj e
      have hplain : (⟨b, o, none⟩ : Addr).add j = ⟨b, o + j, none⟩ := by unfold Addr.add; split <;> simp_all
      rw [hplain]
      exact hc
    obtain ⟨v', w', hrun, h4, h5, _, h7⟩ := run_append_own_at (P := Tryd.prog) w w.heap.size 22 ty 3 i0 (.int .i64 0) 1 8 Tryd.underlying22 hi hz0 hz1 hz2 rfl (by decide) (.slice none 0 0) 0 [] (World.ownsRow_nil _ _ _ _) ad pcs.length pc (pcs.map (.int .i64)) (by simp) hcells
      (fun u hu => by obtain ⟨y, _, rfl⟩ := List.mem_map.1 hu; rfl) (by unfold maxLen; omega) (by omega) (Nat.le_refl _)
    refine ⟨v', w', hrun, ?_, h5⟩
    simpa using h4

/-- such a row is the pieces of a source -/
theorem pcs_of_row {base : Nat} {w : World} {v : Value} {pcs : List Int} (h : w.ownsRow base 3 1 v pcs.length (pcs.map (.int .i64))) : ∃ pa pc pl, v = .slice pa pcs.length pc ∧ PcsAt base w pa pcs pc pl := by
  obtain ⟨h1, h2⟩ := h
  rcases h2 with ⟨rfl, h2⟩ | ⟨g, cap, cur, rfl, h3, h4, h5, h6, h7, h8⟩
  · have : pcs = [] := List.length_eq_zero_iff.1 h2
    subst this
    exact ⟨none, 0, [], rfl, PcsAt.none base w⟩
  · have hlt : g < w.heap.size := by
      rcases Nat.lt_or_ge g w.heap.size with h | h
      · exact h
      · rw [Array.getElem?_eq_none h] at h4; cases h4
    refine ⟨_, cap, [g], rfl, ⟨fun i x hx => ⟨g, 0, rfl, by simp, ?_⟩, ⟨h5, by unfold maxLen at h6; omega⟩, by simp, fun k hk => by simp at hk; subst hk; exact ⟨h3, hlt⟩⟩⟩
    have h9 := World.ownsRow.cells (w := w) (base := base) (e := 3) (size := 1) (v := .slice (some ⟨g, 0, none⟩) pcs.length cap) (n := pcs.length) (xs := pcs.map (.int .i64)) ⟨h1, .inr ⟨g, cap, cur, rfl, h3, h4, h5, h6, h7, h8⟩⟩ rfl i (.int .i64 x) (by simp [hx])
    have hplain : (⟨g, 0, none⟩ : Addr).add i = ⟨g, 0 + i, none⟩ := by unfold Addr.add; split <;> simp_all
    rw [hplain] at h9
    exact h9

theorem step_append_ints {w : World} {ops : Array Oper} {o : Oper} {a : Act} {K : Act → World → Prop} {Q : Exit → Act → World → Prop} {G : Prop} (hgd : o.guard = none) (s x : Operand)
    (ho : o.op = .call { callee := .builtin .append, args := #[s, x], argTypes := #[22, 22] }) (pa : Option Addr) (pcs : List Int) (pc : Nat) (hs : a.eval s = .slice none 0 0) (hx : a.eval x = .slice pa pcs.length pc)
    (hr : Ints w pa pcs pc) (hn : pcs.length * 8 ≤ 140737488355328)
    (h : ∀ pa' pc' w', w'.ownsRow w.heap.size 3 1 (.slice pa' pcs.length pc') pcs.length (pcs.map (.int .i64)) → w.grownBy w' none → K (a.put o.dst (.slice pa' pcs.length pc')) w') : if Region.wanted o (yielded ops a.tmps) = true then Oper.wp Tryd.prog o a w K Q else G := by
  have hw : Region.wanted o (yielded ops a.tmps) = true := by simp [Region.wanted, hgd]
  rw [if_pos hw]
  obtain ⟨v', w', hrun, h2, h3⟩ := run_append_ints (w := w) o.type hr hn
  unfold Oper.wp execOp
  simp only [ho, resolve, invoke, builtin, Sem.run_bind, Sem.run_pure, Result.andThen_ok, List.map_toArray, List.map_cons, List.map_nil, hs, hx, hrun]
  obtain ⟨pa', pc', pl', rfl, -⟩ := pcs_of_row h2
  exact h pa' pc' w' h2 h3

set_option maxHeartbeats 400000 in
theorem toRoom_any (d : Bool) (c m : Int) (w : World) : Calls Tryd.prog 16 #[roomV d c m] w fun e w' => e = .returned (roomV d c m) ∧ Below w.heap.size w w' := by
  go_enter Tryd.func16, Tryd.ntmps16
  go_wp2
  exact bodyPost_ret (v := roomV d c m) (by simp [results, Tryd.results16, go_sem]) rfl ⟨rfl, ((Below.refl _ _).alloc (Nat.le_refl _) _).alloc (by simp) _⟩

/-- what toSource gives -/
def SrcPost (s : ByteArray) (pcs : List Int) (tog br : Bool) (w : World) (e : Ending) (w' : World) : Prop := ∃ pa pc pl, e = .returned (srcV s pa pcs.length pc tog br) ∧ PcsAt w.heap.size w' pa pcs pc pl ∧ Below w.heap.size w w'

/-- the two blocks of toSource -/
abbrev srcW (w : World) (s : ByteArray) (pa : Option Addr) (pn pc : Nat) (tog br : Bool) : World :=
  (w.alloc (.cells #[.string s, .slice pa pn pc, .bool tog, .bool br] 24)).alloc (.cells #[.string ⟨#[]⟩, .slice none 0 0, .bool false, .bool false] 38)
theorem src_keep {w w1 : World} {s : ByteArray} {pa : Option Addr} {pn pc : Nat} {tog br : Bool} (hg : (srcW w s pa pn pc tog br).drew.grownBy w1 none) :
    (w1.cell? ⟨w.heap.size, 0, none⟩ = some (.string s) ∧ w1.cell? ⟨w.heap.size, 1, none⟩ = some (.slice pa pn pc) ∧ w1.cell? ⟨w.heap.size, 2, none⟩ = some (.bool tog) ∧ w1.cell? ⟨w.heap.size, 3, none⟩ = some (.bool br)) ∧
      w1.cell? ⟨w.heap.size + 1, 0, none⟩ = some (.string ⟨#[]⟩) ∧ w1.cell? ⟨w.heap.size + 1, 1, none⟩ = some (.slice none 0 0) ∧ w1.cell? ⟨w.heap.size + 1, 2, none⟩ = some (.bool false) ∧ w1.cell? ⟨w.heap.size + 1, 3, none⟩ = some (.bool false) ∧ w1.frozen? ⟨w.heap.size + 1, 0, none⟩ = false ∧ w1.frozen? ⟨w.heap.size + 1, 1, none⟩ = false ∧ w1.frozen? ⟨w.heap.size + 1, 2, none⟩ = false ∧ w1.frozen? ⟨w.heap.size + 1, 3, none⟩ = false := by
  have h0 : w1.heap[w.heap.size]? = some (.cells #[.string s, .slice pa pn pc, .bool tog, .bool br] 24 (0, 0)) := by
    rw [hg.block _ (by simp; omega) (by simp)]
    show (srcW w s pa pn pc tog br).heap[w.heap.size]? = _
    rw [Below.heap_alloc _ _ _ (by simp)]
    exact heap_new w _
  have h1 : w1.heap[w.heap.size + 1]? = some (.cells #[.string ⟨#[]⟩, .slice none 0 0, .bool false, .bool false] 38 (0, 0)) := by
    rw [hg.block _ (by simp) (by simp)]
    show (srcW w s pa pn pc tog br).heap[w.heap.size + 1]? = _
    have := heap_new (w.alloc (.cells #[.string s, .slice pa pn pc, .bool tog, .bool br] 24)) (.cells #[.string ⟨#[]⟩, .slice none 0 0, .bool false, .bool false] 38)
    simpa using this
  exact ⟨⟨cell_of_heap h0, cell_of_heap h0, cell_of_heap h0, cell_of_heap h0⟩, cell_of_heap h1, cell_of_heap h1, cell_of_heap h1, cell_of_heap h1, frozen_of_heap h1 0, frozen_of_heap h1 1, frozen_of_heap h1 2, frozen_of_heap h1 3⟩

theorem src_heap {w w1 : World} {s : ByteArray} {pa : Option Addr} {pn pc : Nat} {tog br : Bool} (hg : (srcW w s pa pn pc tog br).drew.grownBy w1 none) :
    w1.heap[w.heap.size + 1]? = some (.cells #[.string ⟨#[]⟩, .slice none 0 0, .bool false, .bool false] 38 (0, 0)) := by
  rw [hg.block _ (by simp) (by simp)]
  show (srcW w s pa pn pc tog br).heap[w.heap.size + 1]? = _
  have := heap_new (w.alloc (.cells #[.string s, .slice pa pn pc, .bool tog, .bool br] 24)) (.cells #[.string ⟨#[]⟩, .slice none 0 0, .bool false, .bool false] 38)
  simpa using this
theorem pcs_frame {base base' : Nat} {w w' : World} {pa : Option Addr} {pcs : List Int} {pc : Nat} {pl : List Nat} (h : PcsAt base w pa pcs pc pl) (hb : base' ≤ base) (hk : ∀ k, k ∈ pl → w'.heap[k]? = w.heap[k]?) (hz : w.heap.size ≤ w'.heap.size) : PcsAt base' w' pa pcs pc pl :=
  ⟨fun i x hx => by
    obtain ⟨b, o, e, hm, hc⟩ := h.hp i x hx
    exact ⟨b, o, e, hm, (World.cell?_of_block (a := ⟨b, o + i, Option.none⟩) (hk b hm)).trans hc⟩, h.hpc, h.hnd, fun k hm => ⟨Nat.le_trans hb (h.hlt k hm).1, Nat.lt_of_lt_of_le (h.hlt k hm).2 hz⟩⟩

set_option maxRecDepth 100000 in
set_option maxHeartbeats 1000000 in
theorem toSource_any (s : ByteArray) (pa : Option Addr) (pcs : List Int) (pc : Nat) (tog br : Bool) (w : World) (hi : Ints w pa pcs pc) (hn : pcs.length * 8 ≤ 140737488355328) :
    Calls Tryd.prog 15 #[srcV s pa pcs.length pc tog br] w (SrcPost s pcs tog br w) := by
  have hbx : Below w.heap.size w ((w.alloc (.cells #[.string s, .slice pa pcs.length pc, .bool tog, .bool br] 24)).alloc (.cells #[.string ⟨#[]⟩, .slice none 0 0, .bool false, .bool false] 38)) := ((Below.refl _ _).alloc (Nat.le_refl _) _).alloc (by simp) _
  have HI := Lib.hid (hi.below hbx)
  have HBX := Lib.hid hbx
  clear hi hbx
  go_enter Tryd.func15, Tryd.ntmps15
  go_wp2_with fail
  go_region_held3 (fun w' => w'.cell? ⟨w.heap.size, 0, none⟩ = some (.string s) ∧ w'.cell? ⟨w.heap.size, 1, none⟩ = some (.slice pa pcs.length pc) ∧ w'.cell? ⟨w.heap.size, 2, none⟩ = some (.bool tog) ∧ w'.cell? ⟨w.heap.size, 3, none⟩ = some (.bool br))
    (first
      | go_keep
      | exact (src_keep hgrow).1)
    ((refine step_append_ints (by rfl) (.const (.slice none 0 0)) (.tmp 6) (by rfl) pa pcs pc (by rfl) (by rfl) HI.out.drew hn ?_; intro pa1 pc1 w1 hown1 hgrow; obtain ⟨k0, k1, k2, k3, k4, k5, k6, k7, k8⟩ := src_keep hgrow; clear k0))
  have hh := src_heap hgrow
  have hrow := hown1
  clear k1 k2 k3 k4 k5 k6 k7 k8
  have hW : ((((w1.setCell ⟨w.heap.size + 1, 0, none⟩ (.string s)).setCell ⟨w.heap.size + 1, 1, none⟩ (.slice pa1 pcs.length pc1)).setCell ⟨w.heap.size + 1, 2, none⟩ (.bool tog)).setCell ⟨w.heap.size + 1, 3, none⟩ (.bool br)).heap[w.heap.size + 1]? = some (.cells #[.string s, .slice pa1 pcs.length pc1, .bool tog, .bool br] 38 (0, 0)) := by
    rw [heap_setCell_at (heap_setCell_at (heap_setCell_at (heap_setCell_at hh _) _) _) _]; rfl
  have hp : SrcPost s pcs tog br w (.returned (srcV s pa1 pcs.length pc1 tog br)) ((((w1.setCell ⟨w.heap.size + 1, 0, none⟩ (.string s)).setCell ⟨w.heap.size + 1, 1, none⟩ (.slice pa1 pcs.length pc1)).setCell ⟨w.heap.size + 1, 2, none⟩ (.bool tog)).setCell ⟨w.heap.size + 1, 3, none⟩ (.bool br)) := by
    obtain ⟨pa', pc', pl, e1, hpc⟩ := pcs_of_row hrow
    simp only [Value.slice.injEq, true_and] at e1
    obtain ⟨rfl, rfl⟩ := e1
    refine ⟨pa1, pc1, pl, rfl, pcs_frame hpc (by simp; omega) (fun k hk => ?_) (by simp), ?_⟩
    · have h2 := (hpc.hlt k hk).1
      simp at h2
      rw [heap_setCell_not (by omega), heap_setCell_not (by omega), heap_setCell_not (by omega), heap_setCell_not (by omega)]
    · have h3 : Below w.heap.size (srcW w s pa pcs.length pc tog br).drew w1 := (Below.refl _ _).grown hgrow (by simp; omega) (fun k h => by cases h)
      have h4 : Below w.heap.size w w1 := (HBX.out.drew).trans h3
      exact (((h4.setCell (by simp) _).setCell (by simp) _).setCell (by simp) _).setCell (by simp) _
  generalize ((((w1.setCell ⟨w.heap.size + 1, 0, none⟩ (.string s)).setCell ⟨w.heap.size + 1, 1, none⟩ (.slice pa1 pcs.length pc1)).setCell ⟨w.heap.size + 1, 2, none⟩ (.bool tog)).setCell ⟨w.heap.size + 1, 3, none⟩ (.bool br)) = W2 at hW hp ⊢
  have c0 : W2.cell? ⟨w.heap.size + 1, 0, none⟩ = some (.string s) := cell_of_heap hW
  have c1 : W2.cell? ⟨w.heap.size + 1, 1, none⟩ = some (.slice pa1 pcs.length pc1) := cell_of_heap hW
  have c2 : W2.cell? ⟨w.heap.size + 1, 2, none⟩ = some (.bool tog) := cell_of_heap hW
  have c3 : W2.cell? ⟨w.heap.size + 1, 3, none⟩ = some (.bool br) := cell_of_heap hW
  have HP := Lib.hid hp
  clear hp hW hh hrow hown1 hgrow HBX HI
  go_wp2_with fail
  exact bodyPost_ret (v := srcV s pa1 pcs.length pc1 tog br) (by simp [results, Tryd.results15, go_sem, c0, c1, c2, c3]) rfl HP.out
end Go.Proofs.YtkclapimgmnldaaDoor

/-
  lined: whether the lines of a text are fixed in a room.
-/
namespace Go.Proofs.YtkclapimgmnldaaDoor
set_option linter.unusedVariables false
set_option linter.unusedSimpArgs false
set_option maxRecDepth 20000
open Go.RowKit

theorem bcell {W w1 : World} (hb : Below W.heap.size W w1) : (∀ b o, b < W.heap.size → w1.cell? ⟨b, o, none⟩ = W.cell? ⟨b, o, none⟩) ∧ (∀ b o, b < W.heap.size → w1.frozen? ⟨b, o, none⟩ = W.frozen? ⟨b, o, none⟩) :=
  ⟨fun b o h => hb.cell (p := ⟨b, o, none⟩) h, fun b o h => hb.frozen (p := ⟨b, o, none⟩) h⟩

theorem noCR_len_le (d : List UInt8) : (noCR d).length ≤ d.length := by
  unfold noCR; split
  · simp
  · exact Nat.le_refl _
theorem linesFrom_each (t : List UInt8) : ∀ (cur x : List UInt8), x ∈ linesFrom cur t → x.length ≤ cur.length + t.length := by
  induction t with
  | nil =>
    intro cur x hx
    simp only [linesFrom] at hx
    split at hx
    · cases hx
    · simp at hx; subst hx; simp
  | cons c r ih =>
    intro cur x hx
    rw [linesFrom_cons] at hx
    split at hx
    · rcases List.mem_cons.1 hx with rfl | hx
      · have := noCR_len_le cur; omega
      · have := ih [] x hx; simp at this ⊢; omega
    · have := ih _ x hx
      simp at this ⊢; omega
theorem lines_each {t : List UInt8} : ∀ x ∈ lines t, x.length ≤ t.length := fun x hx => by
  have := linesFrom_each t [] x hx
  simpa using this

abbrev roomO (d : Bool) (c m : Int) : Obj := .cells #[.bool d, .int .i64 c, .int .i64 m] 26
theorem Strs.alloc {w : World} {v : Value} {xs : List (List UInt8)} (h : Strs w v xs) (o : Obj) : Strs (w.alloc o) v xs := h.below ((Below.refl _ _).alloc (Nat.le_refl _) _)
theorem Strs.drew {w : World} {v : Value} {xs : List (List UInt8)} (h : Strs w v xs) : Strs w.drew v xs := h

theorem below_step {w W w' : World} (h : Below w.heap.size w W) (hb : Below W.heap.size W w') : Below w.heap.size w w' := h.trans (hb.mono h.size)

set_option maxRecDepth 100000 in
set_option maxHeartbeats 2000000 in
theorem lined_f1 (s : ByteArray) (d : Bool) (c m : Int) (w : World) (h1 : sizedB d c m = false) :
    Calls Tryd.prog 20 #[.string s, roomV d c m] w fun e w' => e = .returned (.bool false) ∧ Below w.heap.size w w' := by
  have H1 := Lib.hid h1
  clear h1
  go_enter Tryd.func20, Tryd.ntmps20
  go_wp2_with fail
  first
    | go_region_with ((go_at_call 12; refine (sized_any _ _ _ _).mono ?_; rintro e w' ⟨rfl, rfl⟩; rw [H1.out]))
    | skip
  all_goals
    go_wp2_with fail
    go_ret
    exact ⟨rfl, (((Below.refl _ _).alloc (Nat.le_refl _) _).alloc (by simp) _).drew⟩

set_option maxRecDepth 100000 in
set_option maxHeartbeats 2000000 in
theorem lined_f2 (s : ByteArray) (d : Bool) (c m n : Int) (w : World) (h1 : sizedB d c m = true) (hn : ((limitN d c m : Nat) : Int) = n) (h3 : decide (3 ≤ n) = false) :
    Calls Tryd.prog 20 #[.string s, roomV d c m] w fun e w' => e = .returned (.bool false) ∧ Below w.heap.size w w' := by
  have H1 := Lib.hid h1
  have HL := Lib.hid (fun w => limit_any d c m w)
  rw [hn] at HL
  clear h1 hn
  go_enter Tryd.func20, Tryd.ntmps20
  go_wp2_with fail
  first
    | go_region_with (first
      | (go_at_call 12; refine (sized_any _ _ _ _).mono ?_; rintro e w' ⟨rfl, rfl⟩; rw [H1.out])
      | (go_at_call 13; refine (HL.out _).mono ?_; rintro e w' ⟨rfl, rfl⟩))
    | skip
  all_goals
    go_wp2_with fail
    go_ret
    exact ⟨rfl, ((((Below.refl _ _).alloc (Nat.le_refl _) _).alloc (by simp) _).alloc (by simp; omega) _).drew⟩

set_option maxRecDepth 100000 in
set_option maxHeartbeats 2000000 in
theorem lined_f3 (s : ByteArray) (d : Bool) (c m n : Int) (w : World) (hs : s.size ≤ 9223372036854775807) (h1 : sizedB d c m = true) (hn : ((limitN d c m : Nat) : Int) = n) (h3 : decide (3 ≤ n) = true) (h4 : looseB s.data.toList = true) :
    Calls Tryd.prog 20 #[.string s, roomV d c m] w fun e w' => e = .returned (.bool false) ∧ Below w.heap.size w w' := by
  have H1 := Lib.hid h1
  have HL := Lib.hid (fun w => limit_any d c m w)
  rw [hn] at HL
  have H4 := Lib.hid (fun w => loose_any s w hs)
  rw [h4] at H4
  clear h1 hn h4
  go_enter Tryd.func20, Tryd.ntmps20
  go_wp2_with fail
  first
    | go_region_with (first
      | (go_at_call 12; refine (sized_any _ _ _ _).mono ?_; rintro e w' ⟨rfl, rfl⟩; rw [H1.out])
      | (go_at_call 13; refine (HL.out _).mono ?_; rintro e w' ⟨rfl, rfl⟩)
      | (go_at_call 23; refine (H4.out _).mono ?_; rintro e w' ⟨rfl, rfl⟩))
    | skip
  all_goals
    go_wp2_with fail
    go_ret
    exact ⟨rfl, ((((Below.refl _ _).alloc (Nat.le_refl _) _).alloc (by simp) _).alloc (by simp; omega) _).drew⟩

set_option maxRecDepth 100000 in
set_option maxHeartbeats 2000000 in
theorem lined_f4 (s : ByteArray) (d : Bool) (c m n : Int) (w : World) (hs : s.size ≤ 4194304) (h1 : sizedB d c m = true) (hn : ((limitN d c m : Nat) : Int) = n) (h3 : decide (3 ≤ n) = true) (h4 : looseB s.data.toList = false) :
    Calls Tryd.prog 20 #[.string s, roomV d c m] w fun e w' => e = .returned (.bool (belowB (lines s.data.toList) 2 n)) ∧ Below w.heap.size w w' := by
  have hl := lines_len s.data.toList
  have hll : s.data.toList.length = s.size := by simp
  have hcap : (lines s.data.toList).length * 16 ≤ 140737488355328 := by omega
  have HLen := Lib.hid (fun x hx => Nat.le_trans (lines_each (t := s.data.toList) x hx) (by omega : s.data.toList.length ≤ 9000000000000000000))
  have HLines := Lib.hid (fun w => specLines_any s w (by omega) hcap)
  have H1 := Lib.hid h1
  have HL := Lib.hid (fun w => limit_any d c m w)
  rw [hn] at HL
  have H4 := Lib.hid (fun w => loose_any s w (by omega))
  rw [h4] at H4
  clear h1 hn h4 hcap hll hl
  generalize lines s.data.toList = ls at *
  have HBel := Lib.hid (fun v w (h : Strs w v ls) => below_any v ls 2 n w h (by omega) (by omega) HLen.out)
  generalize belowB ls 2 n = k at *
  have HW := Lib.hid (fun w' hb => below_step (((((Below.refl w.heap.size w).alloc (Nat.le_refl _) (roomO d c m)).alloc (by simp) (roomO d c m)).alloc (by simp; omega) (roomO d c m)).drew) (w' := w') hb)
  go_enter Tryd.func20, Tryd.ntmps20
  go_wp2_with fail
  first
    | go_region_with (first
      | (go_at_call 12; refine (sized_any _ _ _ _).mono ?_; rintro e w' ⟨rfl, rfl⟩; rw [H1.out])
      | (go_at_call 13; refine (HL.out _).mono ?_; rintro e w' ⟨rfl, rfl⟩)
      | (go_at_call 23; refine (H4.out _).mono ?_; rintro e w' ⟨rfl, rfl⟩)
      | (go_at_call 25; refine (HLines.out _).mono ?_; rintro e w' ⟨v, rfl, hst, hb⟩; obtain ⟨hc, hf⟩ := bcell hb; have HST := Lib.hid hst.strs; have HBB := Lib.hid hb; clear hst hb)
      | (go_at_call 41; refine (HBel.out _ _ ?_).mono ?_; (repeat (first | exact HST.out | refine Strs.alloc ?_ _ | refine Strs.drew ?_)); rintro e w' ⟨rfl, rfl⟩))
    | skip
  all_goals
    go_wp2_with fail
    go_ret
    exact ⟨rfl, (HW.out _ HBB.out).alloc (HW.out _ HBB.out).size _⟩

/-- lined -/
theorem lined_any (s : ByteArray) (d : Bool) (c m : Int) (w : World) (hs : s.size ≤ 4194304) :
    Calls Tryd.prog 20 #[.string s, roomV d c m] w fun e w' => e = .returned (.bool (linedB s.data.toList d c m)) ∧ Below w.heap.size w w' := by
  unfold linedB
  cases h1 : sizedB d c m with
  | false => simpa using lined_f1 s d c m w h1
  | true =>
    by_cases h2 : 3 ≤ limitN d c m
    · rw [decide_eq_true h2]
      have h3 : decide ((3 : Int) ≤ ((limitN d c m : Nat) : Int)) = true := by rw [decide_eq_true_eq]; omega
      cases h4 : looseB s.data.toList with
      | true => simpa using lined_f3 s d c m _ w (by omega) h1 rfl h3 h4
      | false => simpa using lined_f4 s d c m _ w hs h1 rfl h3 h4
    · rw [decide_eq_false h2]
      have h3 : decide ((3 : Int) ≤ ((limitN d c m : Nat) : Int)) = false := by rw [decide_eq_false_iff_not]; omega
      simpa using lined_f2 s d c m _ w h1 rfl h3

end Go.Proofs.YtkclapimgmnldaaDoor

/-
  What the laws' walks share, in seats without FnLines.
-/
namespace Go.Proofs.YtkclapimgmnldaaDoor
set_option linter.unusedVariables false
set_option linter.unusedSimpArgs false
set_option maxRecDepth 20000
open Go.RowKit

/-- what a law's walk shows -/
def TrueB (w : World) (e : Ending) (w' : World) : Prop := e = .returned (.bool true) ∧ Below w.heap.size w w'

theorem specLinesG (s : ByteArray) (w : World) (hs : s.size ≤ 4194304) : Calls Tryd.prog 25 #[.string s] w (GivesL (lines s.data.toList) w) := by
  have hl := lines_len s.data.toList
  have hll : s.data.toList.length = s.size := by simp
  exact specLines_any s w (by omega) (by omega)

/-- lined, at a room of its own -/
theorem lined_t {s : ByteArray} (w : World) (hs : s.size ≤ 4194304) (b : Bool) (h : linedB s.data.toList true 0 0 = b) :
    Calls Tryd.prog 20 #[.string s, roomV true 0 0] w fun e w' => e = .returned (.bool b) ∧ Below w.heap.size w w' := by
  subst h
  exact lined_any s true 0 0 w hs
/-- lined, at any room -/
theorem lined_r {s : ByteArray} (d : Bool) (c m : Int) (w : World) (hs : s.size ≤ 4194304) (b : Bool) (h : linedB s.data.toList d c m = b) :
    Calls Tryd.prog 20 #[.string s, roomV d c m] w fun e w' => e = .returned (.bool b) ∧ Below w.heap.size w w' := by
  subst h
  exact lined_any s d c m w hs
end Go.Proofs.YtkclapimgmnldaaDoor

/-
  A law's source and room in their boxes, in seats without FnLinesAfter.
-/
namespace Go.Proofs.YtkclapimgmnldaaDoor
set_option linter.unusedVariables false
set_option linter.unusedSimpArgs false
set_option maxRecDepth 20000
open Go.RowKit

theorem pcs_later {base : Nat} {w w' : World} {pa : Option Addr} {pcs : List Int} {pc : Nat} {pl : List Nat} (h : PcsAt base w pa pcs pc pl) (hb : Below w.heap.size w w') : PcsAt base w' pa pcs pc pl :=
  pcs_frame h (Nat.le_refl _) (fun k hk => hb.block k (h.hlt k hk).2) hb.size

/-- the two boxes of a law's source and room -/
abbrev lawW (w : World) (s : ByteArray) (pa : Option Addr) (pn pc : Nat) (tog br d : Bool) (c m : Int) : World :=
  (w.alloc (.cells #[.string s, .slice pa pn pc, .bool tog, .bool br] 24)).alloc (.cells #[.bool d, .int .i64 c, .int .i64 m] 26)
theorem lawW_below (w : World) (s : ByteArray) (pa : Option Addr) (pn pc : Nat) (tog br d : Bool) (c m : Int) : Below w.heap.size w (lawW w s pa pn pc tog br d c m) := ((Below.refl _ _).alloc (Nat.le_refl _) _).alloc (by simp) _
/-- what they read as, in a later world -/
theorem law_cells {w w' : World} {s : ByteArray} {pa : Option Addr} {pn pc : Nat} {tog br d : Bool} {c m : Int} (hb : Below (w.heap.size + 2) (lawW w s pa pn pc tog br d c m) w') :
    w'.cell? ⟨w.heap.size, 0, none⟩ = some (.string s) ∧ w'.cell? ⟨w.heap.size, 1, none⟩ = some (.slice pa pn pc) ∧ w'.cell? ⟨w.heap.size, 2, none⟩ = some (.bool tog) ∧ w'.cell? ⟨w.heap.size, 3, none⟩ = some (.bool br) ∧
      w'.cell? ⟨w.heap.size + 1, 0, none⟩ = some (.bool d) ∧ w'.cell? ⟨w.heap.size + 1, 1, none⟩ = some (.int .i64 c) ∧ w'.cell? ⟨w.heap.size + 1, 2, none⟩ = some (.int .i64 m) := by
  have h0 : w'.heap[w.heap.size]? = some (.cells #[.string s, .slice pa pn pc, .bool tog, .bool br] 24 (0, 0)) := by
    rw [hb.block _ (by omega)]
    rw [Below.heap_alloc _ _ _ (by simp)]
    exact heap_new w _
  have h1 : w'.heap[w.heap.size + 1]? = some (.cells #[.bool d, .int .i64 c, .int .i64 m] 26 (0, 0)) := by
    rw [hb.block _ (by omega)]
    have := heap_new (w.alloc (.cells #[.string s, .slice pa pn pc, .bool tog, .bool br] 24)) (.cells #[.bool d, .int .i64 c, .int .i64 m] 26)
    simpa using this
  exact ⟨cell_of_heap h0, cell_of_heap h0, cell_of_heap h0, cell_of_heap h0, cell_of_heap h1, cell_of_heap h1, cell_of_heap h1⟩

/-- a source as a law has it -/
abbrev srcL (s : ByteArray) (pa : Option Addr) (pn pc : Nat) (tog br : Bool) : Value := .agg #[.string s, .slice pa pn pc, .bool tog, .bool br]

section
variable {w : World} {E : Nat → Addr} {s : ByteArray} {pa : Option Addr} {pcs : List Int} {pc : Nat} {tog d : Bool} {c m : Int}

/-- later worlds of the walk -/
theorem law_step {w w1 w2 : World} {s : ByteArray} {pa : Option Addr} {pn pc : Nat} {tog br d : Bool} {c m : Int} (h : Below (w.heap.size + 2) (lawW w s pa pn pc tog br d c m) w1) (hb : Below w1.heap.size w1 w2) : Below (w.heap.size + 2) (lawW w s pa pn pc tog br d c m) w2 :=
  h.trans (hb.mono (by have := h.size; simp at this; omega))
theorem law_base {w w1 : World} {s : ByteArray} {pa : Option Addr} {pn pc : Nat} {tog br d : Bool} {c m : Int} (h : Below (w.heap.size + 2) (lawW w s pa pn pc tog br d c m) w1) : Below w.heap.size w w1 :=
  (lawW_below w s pa pn pc tog br d c m).trans (h.mono (by omega))
end
end Go.Proofs.YtkclapimgmnldaaDoor

/-
  More bounds of the second form.
-/
namespace Go.Proofs.YtkclapimgmnldaaDoor
set_option linter.unusedVariables false
set_option linter.unusedSimpArgs false
set_option maxRecDepth 20000
open Go.ChangeShapes Go.WideShapes Go.ChangeAt Go.RowKit

theorem bulk_ss {H : Type} {a b : ByteArray} {ds : List (DataW H)} (h : Rows.uptoSmall H (DataW.lit (.string a.data.toList) :: DataW.lit (.string b.data.toList) :: ds) = true) : a.size + b.size ≤ 4194303 := by
  have h1 := bulk_le h
  have ha : a.data.toList.length = a.size := by simp
  have hb : b.data.toList.length = b.size := by simp
  simp only [Rows.uptoBulkAll, Rows.uptoBulk] at h1
  omega
theorem bulk_1 {H : Type} {d : DataW H} {ds : List (DataW H)} {n : Nat} (h : Rows.uptoSmall H (d :: ds) = true) (hn : n ≤ Rows.uptoBulk d) : n ≤ 1048576 := Nat.le_trans hn (bulk_d h)
theorem bulk_tl {H : Type} {d : DataW H} {ds : List (DataW H)} (h : Rows.uptoSmall H (d :: ds) = true) : Rows.uptoSmall H ds = true := by
  have h1 := bulk_le h
  simp only [Rows.uptoBulkAll] at h1
  exact decide_eq_true (by omega)
end Go.Proofs.YtkclapimgmnldaaDoor
