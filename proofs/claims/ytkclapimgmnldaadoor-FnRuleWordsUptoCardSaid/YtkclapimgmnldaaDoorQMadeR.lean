/-
  impl.ByRule's first statement: a scanner and a rule are made, in whatever order.
-/
import Derived.Test.YtkclapimgmnldaaDoorQR
import Derived.Test.YtkclapimgmnldaaDoorQV
import Derived.Test.YtkclapimgmnldaaDoorQA
namespace Go.Proofs.YtkclapimgmnldaaDoor
set_option linter.unusedVariables false
set_option linter.unusedSimpArgs false
set_option maxRecDepth 20000
open Go.RowKit

/-- a rule as a value -/
abbrev rulV (u : Rl) (bp : Option Addr) (bc : Nat) : Value := .agg #[.slice bp u.brks.length bc, .bool u.keep, .bool u.skip, .int .i64 u.stop, .int .i64 u.fail]
noncomputable def madeQ : Code := sL (sR (Tryd.f14.body.getD .skip))
theorem bel_dr {B : Nat} {a w : World} (h : Below B a w) : Below B a w.drew := ⟨h.os, h.tape, h.output, h.size, h.block⟩
theorem bel_al {a w : World} (h : Below a.heap.size a w) (ob : Obj) : Below a.heap.size a (w.alloc ob) := h.alloc h.size ob
theorem bel_tr {a w w1 : World} (h : Below a.heap.size a w) (h1 : Below w.heap.size w w1) : Below a.heap.size a w1 := h.trans (h1.mono h.size)
theorem lt_of_heap {w : World} {k : Nat} {o : Obj} (h : w.heap[k]? = some o) : k < w.heap.size := by
  rcases Nat.lt_or_ge k w.heap.size with h1 | h1
  · exact h1
  · rw [Array.getElem?_eq_none h1] at h; cases h
/-- the frame of ByRule behind its first statements -/
def frQ (p0 p1 p2 p6 p7 p8 p11 : Value) (BS BR BX : Nat) (v9 v10 v12 v13 v14 v15 v16 v17 : Value) : Act := ⟨#[p0, p1, p2, .pointer (some ⟨BS, 0, none⟩), .pointer (some ⟨BR, 0, none⟩), .pointer (some ⟨BX, 0, none⟩), p6, p7, p8, v9, v10, p11, v12, v13, v14, v15, v16, v17, undef, undef, undef, undef, undef, undef, undef, undef, undef, undef, undef, undef, undef, undef], []⟩

/-- what has been made so far -/
structure NJ (base : Nat) (w : World) (E : Nat → Addr) (s : ByteArray) (pl : List Nat) (tog : Bool) (c m : Int) (u : Rl) (bp : Option Addr) (bc : Nat) (d broken : Bool) (b2 b5 : Bool) (v14 v17 : Value) (T W0 : Nat) (ba : Option Addr) (L : Nat) (own : List Nat) (w' : World) : Prop where
  bel : Below w.heap.size w w'
  i2 : b2 = true → v14 = .pointer (some ⟨W0 + 4, 0, none⟩) ∧ w.heap.size ≤ W0 ∧ SOk (newCf E base W0 tog broken d c m) noMem (newSm s) (.slice none 0 0) false ba L own w' ∧ (∀ k, k ∈ own → k ∈ pl ∨ w.heap.size ≤ k)
  i5 : b5 = true → v17 = .pointer (some ⟨T, 0, none⟩) ∧ w.heap.size ≤ T ∧ w'.heap[T]? = some (.cells (rulC u bp bc (.slice none 0 0)) 77 (0, 0))
  d5 : b2 = true → b5 = true → T ∉ own

section
variable {base : Nat} {w : World} {E : Nat → Addr} {s : ByteArray} {pa : Option Addr} {pcs : List Int} {pc : Nat} {pl : List Nat} {tog : Bool} {c m : Int} {u : Rl} {bp : Option Addr} {bc : Nat} {d broken b2 b5 : Bool} {v14 v17 : Value} {T W0 : Nat} {ba : Option Addr} {L : Nat} {own : List Nat} {w' w'' : World}
theorem NJ.s2 (h : NJ base w E s pl tog c m u bp bc d broken b2 b5 v14 v17 T W0 ba L own w') (hpl : ∀ k, k ∈ pl → k < w.heap.size) {ba' : Option Addr} {L' : Nat} {own' : List Nat} (hok : SOk (newCf E base w'.heap.size tog broken d c m) noMem (newSm s) (.slice none 0 0) false ba' L' own' w'') (hb : Below w'.heap.size w' w'') (hown : ∀ k, k ∈ own' → k ∈ pl ∨ w'.heap.size ≤ k) :
    NJ base w E s pl tog c m u bp bc d broken true b5 (.pointer (some ⟨w'.heap.size + 4, 0, none⟩)) v17 T w'.heap.size ba' L' own' w'' where
  bel := bel_tr h.bel hb
  i2 := fun _ => ⟨rfl, h.bel.size, hok, fun k hk => (hown k hk).imp id (fun h1 => Nat.le_trans h.bel.size h1)⟩
  i5 := fun hf => ⟨(h.i5 hf).1, (h.i5 hf).2.1, (hb.block _ (lt_of_heap (h.i5 hf).2.2)).trans (h.i5 hf).2.2⟩
  d5 := fun _ hf hm => by
    have h5 := h.i5 hf
    have := lt_of_heap h5.2.2
    rcases hown _ hm with h3 | h3
    · have := hpl _ h3; omega
    · omega
theorem NJ.s5 (h : NJ base w E s pl tog c m u bp bc d broken b2 b5 v14 v17 T W0 ba L own w') (hbw : base ≤ w.heap.size) :
    NJ base w E s pl tog c m u bp bc d broken b2 true v14 (.pointer (some ⟨w'.heap.size, 0, none⟩)) w'.heap.size W0 ba L own (w'.alloc (.cells (rulC u bp bc (.slice none 0 0)) 77)) where
  bel := bel_al h.bel _
  i2 := fun hf => ⟨(h.i2 hf).1, (h.i2 hf).2.1, (h.i2 hf).2.2.1.frame (lines_ok _ rfl rfl rfl) ((Below.refl _ _).alloc (Nat.le_trans hbw h.bel.size) _) (fun k hk => Below.heap_alloc _ _ _ ((h.i2 hf).2.2.1.lt k hk).2), (h.i2 hf).2.2.2⟩
  i5 := fun _ => ⟨rfl, h.bel.size, heap_new _ _⟩
  d5 := fun hf _ hm => by
    have := ((h.i2 hf).2.2.1.lt _ hm).2
    omega
def MadeQJ (base : Nat) (w : World) (E : Nat → Addr) (s : ByteArray) (pa : Option Addr) (pcs : List Int) (pc : Nat) (pl : List Nat) (tog : Bool) (c m : Int) (u : Rl) (bp : Option Addr) (bc : Nat) (d broken : Bool) (p0 p1 p2 p6 p7 p8 p11 : Value) (BS BR BX : Nat) (f : Nat → Bool) (a : Act) (w' : World) : Prop :=
  ∃ v9 v10 v12 v13 v14 v15 v16 v17 T W0 ba L own, a = frQ p0 p1 p2 p6 p7 p8 p11 BS BR BX v9 v10 v12 v13 v14 v15 v16 v17 ∧ (f 0 = true → v12 = srcV s pa pcs.length pc tog broken) ∧ (f 1 = true → v13 = roomV d c m) ∧ (f 3 = true → v15 = rulV u bp bc) ∧ (f 4 = true → v16 = .agg (rulC u bp bc (.slice none 0 0))) ∧ (f 6 = true → v9 = v14 ∧ f 2 = true) ∧ (f 7 = true → v10 = v17 ∧ f 5 = true) ∧
    NJ base w E s pl tog c m u bp bc d broken (f 2) (f 5) v14 v17 T W0 ba L own w'

set_option maxRecDepth 100000 in
set_option maxHeartbeats 1000000 in
theorem made_rule (hbw : base ≤ w.heap.size) (p0 p1 p2 p6 p7 p8 p11 : Value) (BS BR BX : Nat) (b0 : w.cell? ⟨BS, 0, none⟩ = some (.string s)) (b1 : w.cell? ⟨BS, 1, none⟩ = some (.slice pa pcs.length pc)) (b2 : w.cell? ⟨BS, 2, none⟩ = some (.bool tog)) (b3 : w.cell? ⟨BS, 3, none⟩ = some (.bool broken))
    (r0 : w.cell? ⟨BR, 0, none⟩ = some (.bool d)) (r1 : w.cell? ⟨BR, 1, none⟩ = some (.int .i64 c)) (r2 : w.cell? ⟨BR, 2, none⟩ = some (.int .i64 m)) (x0 : w.cell? ⟨BX, 0, none⟩ = some (.slice bp u.brks.length bc)) (x1 : w.cell? ⟨BX, 1, none⟩ = some (.bool u.keep)) (x2 : w.cell? ⟨BX, 2, none⟩ = some (.bool u.skip)) (x3 : w.cell? ⟨BX, 3, none⟩ = some (.int .i64 u.stop)) (x4 : w.cell? ⟨BX, 4, none⟩ = some (.int .i64 u.fail)) (hpl : ∀ k, k ∈ pl → k < w.heap.size)
    (hS : ∀ W, Below w.heap.size w W → Calls Tryd.prog 35 #[srcV s pa pcs.length pc tog broken, roomV d c m] W (ScannerPost E base s tog broken d c m pl W))
    (Q : Exit → Act → World → Prop) (hQ : ∀ v12 v13 v14 v15 v16 v17 T W0 ba L own w', NJ base w E s pl tog c m u bp bc d broken true true (.pointer (some ⟨W0 + 4, 0, none⟩)) (.pointer (some ⟨T, 0, none⟩)) T W0 ba L own w' → Q .normal (frQ p0 p1 p2 p6 p7 p8 p11 BS BR BX (.pointer (some ⟨W0 + 4, 0, none⟩)) (.pointer (some ⟨T, 0, none⟩)) v12 v13 v14 v15 v16 v17) w') :
    Code.wp Tryd.prog madeQ Q (frQ p0 p1 p2 p6 p7 p8 p11 BS BR BX undef undef undef undef undef undef undef undef) w := by
  unfold madeQ
  show Code.wp Tryd.prog (Code.region 1 _ true) Q _ w
  refine wp_region_inv (by kernel_rfl) (MadeQJ base w E s pa pcs pc pl tog c m u bp bc d broken p0 p1 p2 p6 p7 p8 p11 BS BR BX) ?_ ?_ ?_
  · exact ⟨undef, undef, undef, undef, undef, undef, undef, undef, 0, 0, none, 0, [], rfl, by simp, by simp, by simp, by simp, by simp, by simp, ⟨bel_dr (Below.refl _ _), by simp, by simp, by simp⟩⟩
  · rintro f a w1 i o ⟨v9, v10, v12, v13, v14, v15, v16, v17, T, W0, ba, L, own, rfl, j0, j1, j3, j4, j6, j7, h⟩ ho hfi he
    have hc : ∀ {p : Addr} {v : Value}, w.cell? p = some v → w1.cell? p = some v := fun {p v} hv => (h.bel.cell (World.block_lt_of_cell? w _ hv)).trans hv
    have b0 := hc b0
    have b1 := hc b1
    have b2 := hc b2
    have b3 := hc b3
    have r0 := hc r0
    have r1 := hc r1
    have r2 := hc r2
    have x0 := hc x0
    have x1 := hc x1
    have x2 := hc x2
    have x3 := hc x3
    have x4 := hc x4
    clear hc
    have HJ := Lib.hid (And.intro j0 (And.intro j1 (And.intro j3 (And.intro j4 (And.intro j6 (And.intro j7 h))))))
    match i, ho, hfi, he with
    | 0, ho, hfi, he =>
      cases ho
      refine wpOp_of rfl rfl ?_
      clear j0 j1 j3 j4 j6 j7 h hS hQ hfi he
      unfold frQ
      go_simp
      obtain ⟨j0, j1, j3, j4, j6, j7, h⟩ := HJ.out
      exact ⟨_, _, _, _, _, _, _, _, _, _, _, _, _, rfl, fun _ => rfl, fun hf => j1 (by simpa using hf), fun hf => j3 (by simpa using hf), fun hf => j4 (by simpa using hf), fun hf => by simpa using j6 (by simpa using hf), fun hf => by simpa using j7 (by simpa using hf), by simpa using h⟩
    | 1, ho, hfi, he =>
      cases ho
      refine wpOp_of rfl rfl ?_
      clear j0 j1 j3 j4 j6 j7 h hS hQ hfi he
      unfold frQ
      go_simp
      obtain ⟨j0, j1, j3, j4, j6, j7, h⟩ := HJ.out
      exact ⟨_, _, _, _, _, _, _, _, _, _, _, _, _, rfl, fun hf => j0 (by simpa using hf), fun _ => rfl, fun hf => j3 (by simpa using hf), fun hf => j4 (by simpa using hf), fun hf => by simpa using j6 (by simpa using hf), fun hf => by simpa using j7 (by simpa using hf), by simpa using h⟩
    | 2, ho, hfi, he =>
      cases ho
      refine wpOp_of rfl rfl ?_
      obtain rfl := j0 (he ⟨0, .data⟩ (by simp) rfl)
      obtain rfl := j1 (he ⟨1, .data⟩ (by simp) rfl)
      have HC := Lib.hid (hS w1 h.bel)
      have HFi := Lib.hid hfi
      clear j0 j1 j3 j4 j6 j7 h hS hQ hfi he
      unfold frQ
      go_simp
      refine HC.out.mono ?_
      rintro e w2 ⟨ba', L', own', rfl, hok, hb, hown⟩
      obtain ⟨j0, j1, j3, j4, j6, j7, h⟩ := HJ.out
      exact ⟨_, _, _, _, _, _, _, _, _, _, _, _, _, rfl, fun _ => rfl, fun _ => rfl, fun hf => j3 (by simpa using hf), fun hf => j4 (by simpa using hf), fun hf => (by have := (j6 (by simpa using hf)).2; rw [HFi.out] at this; cases this), fun hf => by simpa using j7 (by simpa using hf), by simpa using h.s2 hpl hok hb hown⟩
    | 3, ho, hfi, he =>
      cases ho
      refine wpOp_of rfl rfl ?_
      clear j0 j1 j3 j4 j6 j7 h hS hQ hfi he
      unfold frQ
      go_simp
      obtain ⟨j0, j1, j3, j4, j6, j7, h⟩ := HJ.out
      exact ⟨_, _, _, _, _, _, _, _, _, _, _, _, _, rfl, fun hf => j0 (by simpa using hf), fun hf => j1 (by simpa using hf), fun _ => rfl, fun hf => j4 (by simpa using hf), fun hf => by simpa using j6 (by simpa using hf), fun hf => by simpa using j7 (by simpa using hf), by simpa using h⟩
    | 4, ho, hfi, he =>
      cases ho
      refine wpOp_of rfl rfl ?_
      obtain rfl := j3 (he ⟨3, .data⟩ (by simp) rfl)
      clear j0 j1 j3 j4 j6 j7 h hS hQ hfi he
      unfold frQ
      go_simp
      obtain ⟨j0, j1, j3, j4, j6, j7, h⟩ := HJ.out
      exact ⟨_, _, _, _, _, _, _, _, _, _, _, _, _, rfl, fun hf => j0 (by simpa using hf), fun hf => j1 (by simpa using hf), fun _ => rfl, fun _ => rfl, fun hf => by simpa using j6 (by simpa using hf), fun hf => by simpa using j7 (by simpa using hf), by simpa using h⟩
    | 5, ho, hfi, he =>
      cases ho
      refine wpOp_of rfl rfl ?_
      obtain rfl := j4 (he ⟨4, .data⟩ (by simp) rfl)
      have HFi := Lib.hid hfi
      clear j0 j1 j3 j4 j6 j7 h hS hQ hfi he
      unfold frQ
      go_simp
      obtain ⟨j0, j1, j3, j4, j6, j7, h⟩ := HJ.out
      exact ⟨_, _, _, _, _, _, _, _, _, _, _, _, _, rfl, fun hf => j0 (by simpa using hf), fun hf => j1 (by simpa using hf), fun hf => j3 (by simpa using hf), fun _ => rfl, fun hf => by simpa using j6 (by simpa using hf), fun hf => (by have := (j7 (by simpa using hf)).2; rw [HFi.out] at this; cases this), by simpa using h.s5 hbw⟩
    | 6, ho, hfi, he =>
      cases ho
      refine wpOp_of rfl rfl ?_
      have HF := Lib.hid (he ⟨2, .data⟩ (by simp) rfl)
      obtain ⟨rfl, -⟩ := h.i2 HF.out
      clear j0 j1 j3 j4 j6 j7 h hS hQ hfi he
      unfold frQ
      go_simp
      obtain ⟨j0, j1, j3, j4, j6, j7, h⟩ := HJ.out
      exact ⟨_, _, _, _, _, _, _, _, _, _, _, _, _, rfl, fun hf => j0 (by simpa using hf), fun hf => j1 (by simpa using hf), fun hf => j3 (by simpa using hf), fun hf => j4 (by simpa using hf), fun _ => ⟨rfl, by simpa using HF.out⟩, fun hf => by simpa using j7 (by simpa using hf), by simpa using h⟩
    | 7, ho, hfi, he =>
      cases ho
      refine wpOp_of rfl rfl ?_
      have HF := Lib.hid (he ⟨5, .data⟩ (by simp) rfl)
      obtain ⟨rfl, -⟩ := h.i5 HF.out
      clear j0 j1 j3 j4 j6 j7 h hS hQ hfi he
      unfold frQ
      go_simp
      obtain ⟨j0, j1, j3, j4, j6, j7, h⟩ := HJ.out
      exact ⟨_, _, _, _, _, _, _, _, _, _, _, _, _, rfl, fun hf => j0 (by simpa using hf), fun hf => j1 (by simpa using hf), fun hf => j3 (by simpa using hf), fun hf => j4 (by simpa using hf), fun hf => by simpa using j6 (by simpa using hf), fun _ => ⟨rfl, by simpa using HF.out⟩, by simpa using h⟩
    | k + 8, ho, hfi, he => cases ho
  · rintro f a w1 ⟨v9, v10, v12, v13, v14, v15, v16, v17, T, W0, ba, L, own, rfl, j0, j1, j3, j4, j6, j7, h⟩ hall
    have f0 : f 0 = true := hall 0 (by decide) _ rfl (fun e he => by simp at he)
    have f1 : f 1 = true := hall 1 (by decide) _ rfl (fun e he => by simp at he)
    have f3 : f 3 = true := hall 3 (by decide) _ rfl (fun e he hb => by simp at he; subst he; simp [Region.binds] at hb)
    have f4 : f 4 = true := hall 4 (by decide) _ rfl (fun e he hb => by simp at he; rcases he with rfl | rfl <;> first | assumption | simp [Region.binds] at hb)
    have f5 : f 5 = true := hall 5 (by decide) _ rfl (fun e he hb => by simp at he; rcases he with rfl | rfl <;> first | assumption | simp [Region.binds] at hb)
    have f2 : f 2 = true := hall 2 (by decide) _ rfl (fun e he hb => by simp at he; rcases he with rfl | rfl <;> assumption)
    have f6 : f 6 = true := hall 6 (by decide) _ rfl (fun e he hb => by simp at he; rcases he with rfl | rfl | rfl | rfl | rfl | rfl | rfl | rfl <;> assumption)
    have f7 : f 7 = true := hall 7 (by decide) _ rfl (fun e he hb => by simp at he; rcases he with rfl | rfl | rfl | rfl | rfl | rfl | rfl | rfl | rfl <;> assumption)
    rw [f2, f5] at h
    obtain ⟨rfl, h2⟩ := h.i2 rfl
    obtain ⟨rfl, h5⟩ := h.i5 rfl
    obtain ⟨rfl, -⟩ := j6 f6
    obtain ⟨rfl, -⟩ := j7 f7
    exact hQ _ _ _ _ _ _ T W0 ba L own w1 h
end
end Go.Proofs.YtkclapimgmnldaaDoor
