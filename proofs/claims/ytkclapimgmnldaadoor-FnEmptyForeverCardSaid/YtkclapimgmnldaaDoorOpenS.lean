/-
  Opening an argument that is a source; slices of numbers.
-/
import Derived.Test.YtkclapimgmnldaaDoorOpen
namespace Go.Proofs.YtkclapimgmnldaaDoor
set_option linter.unusedVariables false
set_option linter.unusedSimpArgs false
set_option maxRecDepth 20000
open Go.ChangeShapes Go.WideShapes Go.ChangeAt Go.RowKit

/-- a slice that reads as these numbers -/
structure Ints (w : World) (pa : Option Addr) (pcs : List Int) (pc : Nat) : Prop where
  le : pcs.length ≤ pc
  cap : pc ≤ 9223372036854775807
  cells : ∀ i c, pcs[i]? = some c → ∃ b o, pa = some ⟨b, o, none⟩ ∧ w.cell? ⟨b, o + i, none⟩ = some (.int .i64 c)
theorem Ints.below {w w' : World} {pa : Option Addr} {pcs : List Int} {pc : Nat} (h : Ints w pa pcs pc) (hb : Below w.heap.size w w') : Ints w' pa pcs pc :=
  ⟨h.le, h.cap, fun i c hc => by
    obtain ⟨b, o, e, hcell⟩ := h.cells i c hc
    exact ⟨b, o, e, (hb.cell (p := ⟨b, o + i, none⟩) (World.block_lt_of_cell? w _ hcell)).trans hcell⟩⟩

section
variable {H : Type} {enc : TypeId × Value → H} {W : World} {base b0 : Nat} {held : Bool} {r : Reach} {v : Value} {d : DataW H} {ps : List MemPlace}

theorem cellsInt : Tryd.prog.cellsOf 3 = 1 := by kernel_rfl
theorem bulk_lits {H : Type} (k : IntKind) (zs : List Int) : Rows.uptoBulkAll (lits (H := H) k zs) = zs.length := by
  induction zs with
  | nil => simp [lits, Rows.uptoBulkAll]
  | cons z zs ih =>
    simp only [lits, List.map_cons, Rows.uptoBulkAll, Rows.uptoBulk] at ih ⊢
    rw [ih]
    simp
    omega
theorem ints_of_trod {fuel : Nat} {u : Value} {x : DataW H × List MemPlace} (hf : DataW.trod enc Tryd.prog W base (fun _ => true) held fuel 22 [u] = some x) :
    ∃ pa pcs pc, u = .slice pa (pcs : List Int).length pc ∧ Ints W pa pcs pc ∧ pcs.length ≤ Rows.uptoBulk x.1 := by
  rcases open_ints Tryd.underlying22 Tryd.underlying3 cellsInt hf with ⟨h1, h2⟩ | ⟨a, len, cap, zs, h1, h2, h3, h4, h5, h6, h7, h8⟩
  · simp only [List.cons.injEq, and_true] at h1
    subst h1
    exact ⟨none, [], 0, rfl, ⟨Nat.le_refl _, by omega, fun i x h => by simp at h⟩, by simp⟩
  · simp only [List.cons.injEq, and_true] at h1
    subst h1
    rw [if_pos rfl] at h5
    unfold maxLen at h4
    have hlen : (zs.take len).length = len := by simp; omega
    refine ⟨some a, zs.take len, cap, by rw [hlen], ⟨by rw [hlen]; exact h3, h4, fun i x hx => ?_⟩, ?_⟩
    · have hi : i < len := by
        have := (List.getElem?_eq_some_iff.1 hx).1
        rw [hlen] at this
        exact this
      have hc0 := h7 0 (by omega)
      have hci := h7 i (by omega)
      have hsp := cell_spot hc0
      refine ⟨a.block, a.off, by have := hsp 0; simpa [Addr.add] using this, ?_⟩
      rw [← hsp i, hci]
      rw [List.getElem?_take, if_pos hi] at hx
      rw [List.getD_eq_getElem?_getD, hx]
      rfl
    · rw [h6]
      simp only [Rows.uptoBulk, bulk_lits]
      omega
theorem openInts (hval : Value.okWide Tryd.prog W r b0 22 v) (hd : DataW.Trod enc Tryd.prog W base (fun _ => true) held 22 v d ps) :
    ∃ pa pcs pc, v = .slice pa (pcs : List Int).length pc ∧ Ints W pa pcs pc ∧ pcs.length ≤ Rows.uptoBulk d := by
  obtain ⟨a, n, c, rfl⟩ := okWide_slice Tryd.underlying22 hval
  obtain ⟨fuel, hf⟩ := hd
  exact ints_of_trod hf

theorem cellsSource : Tryd.prog.cellsOf 24 = 4 := by kernel_rfl
theorem openSource (hval : Value.okWide Tryd.prog W r b0 24 v) (hd : DataW.Trod enc Tryd.prog W base (fun _ => true) held 24 v d ps) :
    ∃ (s : ByteArray) (pa : Option Addr) (pcs : List Int) (pc : Nat) (tog br : Bool), v = .agg #[.string s, .slice pa pcs.length pc, .bool tog, .bool br] ∧ Ints W pa pcs pc ∧ s.size + pcs.length ≤ Rows.uptoBulk d := by
  obtain ⟨v0, v1, v2, v3, y0, y1, y2, y3, n, rfl, rfl, rfl, h0, h1, h2, h3⟩ := Go.Joins.open_agg4 Tryd.underlying24 (by kernel_rfl) cellsSource hval hd
  obtain ⟨s, e0, rfl, hs⟩ := DataW.trod_string Tryd.underlying9 h0
  obtain ⟨pa, pcs, pc, e1, hi, hb⟩ := ints_of_trod h1
  obtain ⟨tog, e2, rfl⟩ := DataW.trod_bool Tryd.underlying4 h2
  obtain ⟨br, e3, rfl⟩ := DataW.trod_bool Tryd.underlying4 h3
  simp only [List.cons.injEq, and_true] at e0 e2 e3
  subst e0; subst e1; subst e2; subst e3
  refine ⟨s, pa, pcs, pc, tog, br, rfl, hi, ?_⟩
  have hl : s.data.toList.length = s.size := by simp
  simp only [Rows.uptoBulk, Rows.uptoBulkAll]
  omega
end
end Go.Proofs.YtkclapimgmnldaaDoor
