/-
  What the laws on rules of one's own share: whole, room, a rule's breaks in memory, a text put into a list of texts.
-/
import Derived.Test.YtkclapimgmnldaaDoorQByRule
import Derived.Test.YtkclapimgmnldaaDoorQC
import Derived.Test.YtkclapimgmnldaaDoorQO
import Derived.Test.YtkclapimgmnldaaDoorQHelp
import Derived.Test.YtkclapimgmnldaaDoorQV
namespace Go.Proofs.YtkclapimgmnldaaDoor
set_option linter.unusedVariables false
set_option linter.unusedSimpArgs false
set_option maxRecDepth 20000
open Go.RowKit

theorem rend_leB {u : Rl} {all : List (List UInt8) × Bool} {text : List UInt8} {ts : List (List UInt8)} {x : Sm RS} (h : REndC u 0 all text ts x) : ∀ k, x.err = some k → k ≤ 5 := by
  intro k hk
  obtain ⟨⟨h1, h2, h3⟩, -, -⟩ := h
  rw [hk] at h2
  rcases h2 with h2 | h2 | h2
  · cases h2
  · have := Option.some.inj h2; omega
  · have := Option.some.inj h2; omega
theorem rend_codeB {u : Rl} {text : List UInt8} {ts : List (List UInt8)} {x : Sm RS} {all : List (List UInt8) × Bool} (h0 : all.2 = false) (h : REndC u 0 all text ts x) : ts = all.1 ∧ codeI (errOf x.err) = 0 := by
  obtain ⟨⟨h1, h2, h3⟩, -, -⟩ := h
  refine ⟨h1, ?_⟩
  rcases h3 rfl with ⟨h4, h5⟩ | ⟨h4, h5 | h5⟩
  · rw [h0] at h4; cases h4
  · rw [h5]; rfl
  · rw [h5]; rfl
set_option maxHeartbeats 400000 in
theorem whole_b (s : ByteArray) (w : World) : Calls Tryd.prog 21 #[.string s] w fun e w' => e = .returned (srcV s none 0 0 false false) ∧ Below w.heap.size w w' := by
  go_enter Tryd.func21, Tryd.ntmps21
  go_wp2
  exact bodyPost_ret (v := srcV s none 0 0 false false) (by simp [results, Tryd.results21, go_sem]) rfl ⟨rfl, (Below.refl _ _).alloc (Nat.le_refl _) _⟩
set_option maxHeartbeats 400000 in
theorem room_b (w : World) : Calls Tryd.prog 22 #[] w fun e w' => e = .returned (roomV true 0 0) ∧ Below w.heap.size w w' := by
  go_enter Tryd.func22, Tryd.ntmps22
  go_wp2
  exact bodyPost_ret (v := roomV true 0 0) (by simp [results, Tryd.results22, go_sem]) rfl ⟨rfl, by first | exact Below.refl _ _ | exact (Below.refl _ _).alloc (Nat.le_refl _) _⟩

theorem info_boolB : (Tryd.prog.info? 4).map (fun i => (i.zero, i.size, i.bytes)) = some (some (.bool false), 1, 1) := by kernel_rfl
theorem make_bools (w : World) (N : Nat) (h : N ≤ 4194304) : (Instr.makeSlice 27 (.int .i64 (N : Int)) (.int .i64 (N : Int))).run Tryd.prog w = .ok (.slice (some ⟨w.heap.size, 0, none⟩) N N) (w.alloc (.cells (madeCells #[.bool false] N) 4)) := by
  obtain ⟨i, hi, hz⟩ := Option.map_eq_some_iff.1 info_boolB
  simp only [Prod.mk.injEq] at hz
  obtain ⟨hz, hsz, hby⟩ := hz
  have := run_make (P := Tryd.prog) w 27 4 i (.bool false) Tryd.underlying27 hi hz .i64 .i64 (N : Int) (N : Int) (by omega) (by omega) (by rw [hby]; omega) (by omega)
  rw [this, hsz]
  simp [Value.cells]
/-- a block that is these bools -/
def BrkH (w : World) (g : Nat) (bs : List Bool) : Prop := w.heap[g]? = some (.cells (bs.map Value.bool).toArray 4 (0, 0))
theorem BrkH.at {w : World} {g : Nat} {bs : List Bool} (h : BrkH w g bs) : BrksAt w bs (some ⟨g, 0, none⟩) [g] := fun i b hb => by
  refine ⟨g, 0, rfl, by simp, ?_⟩
  rw [cell_of_heap h]
  simp [hb]
theorem BrkH.made (w : World) (N : Nat) : BrkH (w.alloc (.cells (madeCells #[.bool false] N) 4)) w.heap.size (List.replicate N false) := by
  unfold BrkH
  rw [heap_new w _]
  congr 2
  apply Array.toList_inj.1
  rw [toList_madeCells_one]
  simp
theorem BrkH.put {w : World} {g : Nat} {bs : List Bool} (h : BrkH w g bs) (k : Nat) (b : Bool) : BrkH (w.setCell ⟨g, k, none⟩ (.bool b)) g (bs.set k b) := by
  unfold BrkH at *
  rw [heap_setCell_at h]
  congr 2
  apply Array.toList_inj.1
  simp [List.map_set]
theorem BrkH.later {w w' : World} {g : Nat} {bs : List Bool} (h : BrkH w g bs) (hb : Below w.heap.size w w') : BrkH w' g bs := (hb.block g (by
  rcases Nat.lt_or_ge g w.heap.size with h1 | h1
  · exact h1
  · unfold BrkH at h; rw [Array.getElem?_eq_none h1] at h; cases h)).trans h
theorem BrkH.cell {w : World} {g : Nat} {bs : List Bool} (h : BrkH w g bs) {k : Nat} (hk : k < bs.length) : w.cell? ⟨g, k, none⟩ = some (.bool bs[k]) := by
  rw [cell_of_heap h]
  simp [hk]
theorem BrkH.frozen {w : World} {g : Nat} {bs : List Bool} (h : BrkH w g bs) (k : Nat) : w.frozen? ⟨g, k, none⟩ = false := frozen_of_heap h k

/-- a text put into a list of texts -/
theorem owns_put {w : World} {base : Nat} {e : TypeId} {n : Nat} {xs : List Value} {g cap k : Nat} {u : Value} (h : w.ownsRow base e 1 (.slice (some ⟨g, 0, none⟩) n cap) n xs) : (w.setCell ⟨g, k, none⟩ u).ownsRow base e 1 (.slice (some ⟨g, 0, none⟩) n cap) n (xs.set k u) := by
  obtain ⟨h1, h2⟩ := h
  refine ⟨by simpa using h1, ?_⟩
  rcases h2 with ⟨h2, _⟩ | ⟨g', cap', cur, e', h3, h4, h5, h6, h7, h8⟩
  · cases h2
  · simp only [Value.slice.injEq, Option.some.injEq, Addr.mk.injEq, and_true, true_and] at e'
    obtain ⟨rfl, rfl⟩ := e'
    refine .inr ⟨g, cap, cur.setIfInBounds k u, rfl, h3, heap_setCell_at h4 u, h5, h6, by simpa using h7, ?_⟩
    rw [Array.toList_setIfInBounds, List.take_set, h8]
theorem StrsAt.put {base : Nat} {w : World} {g n cap k : Nat} {xs : List (List UInt8)} (h : StrsAt base w (.slice (some ⟨g, 0, none⟩) n cap) xs) (hn : n = xs.length) (y : List UInt8) : StrsAt base (w.setCell ⟨g, k, none⟩ (sv y)) (.slice (some ⟨g, 0, none⟩) n cap) (xs.set k y) := by
  subst hn
  unfold StrsAt at *
  rw [List.length_set, List.map_set]
  exact owns_put h
end Go.Proofs.YtkclapimgmnldaaDoor
