/-
  Split: a scanner with another split function; impl.LinesSplit.
-/
import Derived.Test.YtkclapimgmnldaaDoorGive
namespace Go.Proofs.YtkclapimgmnldaaDoor
set_option linter.unusedVariables false
set_option linter.unusedSimpArgs false
set_option maxRecDepth 20000
open Go.RowKit

set_option maxHeartbeats 400000 in
theorem split_any (B : Nat) (fn : Fn) (first cap : Array Value) (w : World) (hc : w.cell? ⟨B, 9, none⟩ = some (.bool false)) (hf : ∀ o, w.frozen? ⟨B, o, none⟩ = false) (h1 : ∃ v, w.cell? ⟨B, 1, none⟩ = some v) :
    Calls Tryd.prog 36 #[.pointer (some ⟨B, 0, none⟩), .func fn first cap] w fun e w' => e = .returned (.tuple #[]) ∧ w' = w.setCell ⟨B, 1, none⟩ (.func fn first cap) := by
  obtain ⟨v1, h1⟩ := h1
  go_enter Tryd.func36, Tryd.ntmps36
  go_wp2
  go_end0
  exact ⟨rfl, rfl⟩

/-- a scanner that has not begun, given a split function -/
theorem SOk.split {σ τ : Type} {cf : Cfg} {SI : σ → List Nat → World → Prop} {x : Sm σ} {tokv : Value} {called : Bool} {ba : Option Addr} {L : Nat} {own : List Nat} {w : World} (h : SOk cf SI x tokv called ba L own w) (f : FuncId) (first cap : Array Value) (SI' : τ → List Nat → World → Prop) (sp : τ) (osp' : List Nat)
    (hno : ∀ s e bytes pa pcs pc pl bl osp, SInv cf SI x tokv called ba L s e bytes pa pcs pc pl bl osp w → own = ownOf cf pl bl osp → osp = []) (hsp : SI' sp osp' (w.setCell ⟨cf.B, 1, none⟩ (.func (.func f) first cap))) (hnd : osp'.Nodup) (hdis : ∀ k, k ∈ osp' → k ∉ own ∧ cf.base ≤ k ∧ k < w.heap.size) :
    SOk { cf with f := f, first := first, cap := cap } SI' ⟨x.pend, x.rest, x.err, x.emp, x.done, sp⟩ tokv called ba L (own ++ osp') (w.setCell ⟨cf.B, 1, none⟩ (.func (.func f) first cap)) := by
  obtain ⟨s, e, bytes, pa, pcs, pc, pl, bl, osp, h, rfl⟩ := h
  obtain rfl := hno s e bytes pa pcs pc pl bl osp h rfl
  have hne : ∀ k, k ∈ cf.R :: (pl ++ bl ++ []) → k ≠ cf.B := fun k hk => h.r.notB hk
  have hb : Below cf.base w (w.setCell ⟨cf.B, 1, none⟩ (.func (.func f) first cap)) := (Below.refl _ _).setCell (h.r.hlt cf.B (by simp)).1 _
  refine ⟨s, e, bytes, pa, pcs, pc, pl, bl, osp', ⟨?_, ?_⟩, by simp [ownOf]⟩
  · rw [heap_setCell_at h.hB]; rfl
  · refine ⟨?_, ?_, h.r.hpc, ?_, h.r.hlen, h.r.hse, h.r.hpend, h.r.hlim, h.r.hbig, h.r.hrest, hsp, h.r.herr, h.r.hend, h.r.hg.below hb, ?_, ?_, h.r.hemp⟩
    · exact (heap_setCell_not (hne _ (by simp)) _).trans h.r.hR
    · intro i c hc
      obtain ⟨b, o, e1, hm, hcell⟩ := h.r.hp i c hc
      exact ⟨b, o, e1, hm, (World.cell?_of_block (a := ⟨b, o + i, none⟩) (heap_setCell_not (hne b (by simp [hm])) _)).trans hcell⟩
    · rcases h.r.hb with h1 | ⟨D, e1, e2, h1⟩
      · exact .inl h1
      · exact .inr ⟨D, e1, e2, (heap_setCell_not (hne D (by simp [e2])) _).trans h1⟩
    · have hnd0 := h.r.hnd
      simp only [List.append_nil] at hnd0
      show (cf.B :: cf.R :: (pl ++ bl ++ osp')).Nodup
      have e : cf.B :: cf.R :: (pl ++ bl ++ osp') = (cf.B :: cf.R :: (pl ++ bl)) ++ osp' := by simp
      rw [e]
      refine List.nodup_append.2 ⟨hnd0, hnd, fun a ha b hb' => ?_⟩
      rintro rfl
      exact (hdis a hb').1 (by simpa [ownOf] using ha)
    · intro k hk
      have hk' : k ∈ cf.B :: cf.R :: (pl ++ bl ++ osp') := hk
      have e : cf.B :: cf.R :: (pl ++ bl ++ osp') = (cf.B :: cf.R :: (pl ++ bl)) ++ osp' := by simp
      rw [e] at hk'
      show cf.base ≤ k ∧ k < (w.setCell ⟨cf.B, 1, none⟩ (.func (.func f) first cap)).heap.size
      rw [World.size_setCell]
      rcases List.mem_append.1 hk' with h1 | h1
      · exact h.r.hlt k (by simpa using h1)
      · exact (hdis k h1).2

/-- .. without memory of its own -/
theorem SOk.splitN {cf : Cfg} {x : Sm Unit} {tokv : Value} {called : Bool} {ba : Option Addr} {L : Nat} {own : List Nat} {w : World} (h : SOk cf noMem x tokv called ba L own w) (f : FuncId) :
    SOk { cf with f := f, first := #[], cap := #[] } noMem x tokv called ba L own (w.setCell ⟨cf.B, 1, none⟩ (.func (.func f) #[] #[])) := by
  have := h.split f #[] #[] noMem () [] (fun s e bytes pa pcs pc pl bl osp hI _ => hI.r.hsp) rfl List.nodup_nil (fun k hk => by cases hk)
  rw [List.append_nil] at this
  exact this
/-- the scanner's cells that Split looks at -/
theorem SOk.forSplit {σ : Type} {cf : Cfg} {SI : σ → List Nat → World → Prop} {x : Sm σ} {tokv : Value} {called : Bool} {ba : Option Addr} {L : Nat} {own : List Nat} {w : World} (h : SOk cf SI x tokv called ba L own w) : w.cell? ⟨cf.B, 9, none⟩ = some (.bool called) ∧ (∀ o, w.frozen? ⟨cf.B, o, none⟩ = false) ∧ ∃ v, w.cell? ⟨cf.B, 1, none⟩ = some v := by
  obtain ⟨s, e, bytes, pa, pcs, pc, pl, bl, osp, h, rfl⟩ := h
  exact ⟨h.c9, frozen_of_heap h.hB, _, cell_of_heap h.hB⟩
theorem SOk.memB {σ : Type} {cf : Cfg} {SI : σ → List Nat → World → Prop} {x : Sm σ} {tokv : Value} {called : Bool} {ba : Option Addr} {L : Nat} {own : List Nat} {w : World} (h : SOk cf SI x tokv called ba L own w) : cf.B ∈ own := by
  obtain ⟨s, e, bytes, pa, pcs, pc, pl, bl, osp, h, rfl⟩ := h
  simp [ownOf]

section
variable {base : Nat} {w : World} {E : Nat → Addr} {s : ByteArray}
end
end Go.Proofs.YtkclapimgmnldaaDoor
