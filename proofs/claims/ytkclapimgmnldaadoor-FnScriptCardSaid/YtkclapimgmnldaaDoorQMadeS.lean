/-
  impl.ByScript's first statement: a scanner and a tape are made, in whatever order.
-/
import Derived.Test.YtkclapimgmnldaaDoorQS
import Derived.Test.YtkclapimgmnldaaDoorQV
import Derived.Test.YtkclapimgmnldaaDoorQA
import Derived.Deep.RegionHeld3
namespace Go.Proofs.YtkclapimgmnldaaDoor
set_option linter.unusedVariables false
set_option linter.unusedSimpArgs false
set_option maxRecDepth 20000
open Go.RowKit

/-- a script as a value -/
abbrev scrV (rp : Option Addr) (rn rc : Nat) (rep : Bool) : Value := .agg #[.slice rp rn rc, .bool rep]
noncomputable def madeR : Code := sL (sR (Tryd.f30.body.getD .skip))
theorem bel_dr {B : Nat} {a w : World} (h : Below B a w) : Below B a w.drew := ⟨h.os, h.tape, h.output, h.size, h.block⟩
theorem bel_al {a w : World} (h : Below a.heap.size a w) (ob : Obj) : Below a.heap.size a (w.alloc ob) := h.alloc h.size ob
theorem bel_st {a w : World} {p : Addr} (h : Below a.heap.size a w) (hp : a.heap.size ≤ p.block) (v : Value) : Below a.heap.size a (w.setCell p v) := h.setCell hp v
theorem bel_tr {a w w1 : World} (h : Below a.heap.size a w) (h1 : Below w.heap.size w w1) : Below a.heap.size a w1 := h.trans (h1.mono h.size)
theorem lt_of_heap {w : World} {k : Nat} {o : Obj} (h : w.heap[k]? = some o) : k < w.heap.size := by
  rcases Nat.lt_or_ge k w.heap.size with h1 | h1
  · exact h1
  · rw [Array.getElem?_eq_none h1] at h; cases h

/-- the tape's cells at first -/
abbrev tape0 (rp : Option Addr) (rn rc : Nat) (rep : Bool) : Array Value := #[.slice rp rn rc, .bool rep, .int .i64 0, .slice none 0 0]
/-- the frame of ByScript behind its first statements -/
def frB (p0 p1 p2 p3 : Value) (BS BR BX O : Nat) (v9 v10 v11 v12 v13 v14 v15 v16 : Value) : Act := ⟨#[p0, p1, p2, p3, .pointer (some ⟨BS, 0, none⟩), .pointer (some ⟨BR, 0, none⟩), .pointer (some ⟨BX, 0, none⟩), undef, .pointer (some ⟨O, 0, none⟩), v9, v10, v11, v12, v13, v14, v15, v16, undef, undef, undef, undef, undef, undef, undef, undef, undef, undef, undef, undef, undef, undef, undef, undef, undef, undef, undef, undef, undef, undef, undef], []⟩

section
variable {base : Nat} {w : World} {E : Nat → Addr} {s : ByteArray} {pa : Option Addr} {pcs : List Int} {pc : Nat} {pl : List Nat} {tog : Bool} {c m : Int} {rep : Bool} {rp : Option Addr} {rn rc : Nat} {d broken : Bool}

/-- what has been made so far -/
structure MJ (base : Nat) (w : World) (E : Nat → Addr) (s : ByteArray) (pa : Option Addr) (pcs : List Int) (pc : Nat) (pl : List Nat) (tog : Bool) (c m : Int) (rep : Bool) (rp : Option Addr) (rn rc : Nat) (d broken : Bool) (f : Nat → Bool) (v9 v10 v11 v12 v13 v14 v15 v16 : Value) (OB CB T W0 : Nat) (ba : Option Addr) (L : Nat) (own : List Nat) (w' : World) : Prop where
  bel : Below w.heap.size w w'
  i0 : f 0 = true → v11 = srcV s pa pcs.length pc tog broken
  i1 : f 1 = true → v12 = roomV d c m
  i3 : f 3 = true → v14 = scrV rp rn rc rep
  i4 : f 4 = true → v15 = .agg (tape0 rp rn rc rep)
  i6 : f 6 = true → v9 = .pointer (some ⟨OB, 0, none⟩) ∧ w.heap.size ≤ OB ∧ w'.heap[OB]? = some (.cells #[if f 8 then .pointer (some ⟨W0 + 4, 0, none⟩) else .pointer none] 73 (0, 0))
  i7 : f 7 = true → v10 = .pointer (some ⟨CB, 0, none⟩) ∧ w.heap.size ≤ CB ∧ w'.heap[CB]? = some (.cells #[if f 9 then .pointer (some ⟨T, 0, none⟩) else .pointer none] 89 (0, 0))
  i5 : f 5 = true → v16 = .pointer (some ⟨T, 0, none⟩) ∧ w.heap.size ≤ T ∧ w'.heap[T]? = some (.cells (tape0 rp rn rc rep) 91 (0, 0))
  i2 : f 2 = true → v13 = .pointer (some ⟨W0 + 4, 0, none⟩) ∧ w.heap.size ≤ W0 ∧ SOk (newCf E base W0 tog broken d c m) noMem (newSm s) (.slice none 0 0) false ba L own w' ∧ (∀ k, k ∈ own → k ∈ pl ∨ w.heap.size ≤ k)
  d6 : f 2 = true → f 6 = true → OB ∉ own
  d7 : f 2 = true → f 7 = true → CB ∉ own
  d5 : f 2 = true → f 5 = true → T ∉ own
  e67 : f 6 = true → f 7 = true → OB ≠ CB
  e65 : f 6 = true → f 5 = true → OB ≠ T
  e75 : f 7 = true → f 5 = true → CB ≠ T
  l8 : f 8 = true → f 6 = true ∧ f 2 = true
  l9 : f 9 = true → f 7 = true ∧ f 5 = true

variable {f : Nat → Bool} {v9 v10 v11 v12 v13 v14 v15 v16 : Value} {OB CB T W0 : Nat} {ba : Option Addr} {L : Nat} {own : List Nat} {w' w'' : World}
/-- memory that grows -/
theorem MJ.grow (h : MJ base w E s pa pcs pc pl tog c m rep rp rn rc d broken f v9 v10 v11 v12 v13 v14 v15 v16 OB CB T W0 ba L own w') (hbw : base ≤ w.heap.size) (hb : Below w'.heap.size w' w'') : MJ base w E s pa pcs pc pl tog c m rep rp rn rc d broken f v9 v10 v11 v12 v13 v14 v15 v16 OB CB T W0 ba L own w'' where
  bel := bel_tr h.bel hb
  i0 := h.i0
  i1 := h.i1
  i3 := h.i3
  i4 := h.i4
  i6 := fun hf => ⟨(h.i6 hf).1, (h.i6 hf).2.1, (hb.block _ (lt_of_heap (h.i6 hf).2.2)).trans (h.i6 hf).2.2⟩
  i7 := fun hf => ⟨(h.i7 hf).1, (h.i7 hf).2.1, (hb.block _ (lt_of_heap (h.i7 hf).2.2)).trans (h.i7 hf).2.2⟩
  i5 := fun hf => ⟨(h.i5 hf).1, (h.i5 hf).2.1, (hb.block _ (lt_of_heap (h.i5 hf).2.2)).trans (h.i5 hf).2.2⟩
  i2 := fun hf => ⟨(h.i2 hf).1, (h.i2 hf).2.1, (h.i2 hf).2.2.1.frame (lines_ok _ rfl rfl rfl) (hb.mono (Nat.le_trans hbw h.bel.size)) (fun k hk => hb.block k ((h.i2 hf).2.2.1.lt k hk).2), (h.i2 hf).2.2.2⟩
  d6 := h.d6
  d7 := h.d7
  d5 := h.d5
  e67 := h.e67
  e65 := h.e65
  e75 := h.e75
  l8 := h.l8
  l9 := h.l9

/-- the invariant -/
def MadeJ (base : Nat) (w : World) (E : Nat → Addr) (s : ByteArray) (pa : Option Addr) (pcs : List Int) (pc : Nat) (pl : List Nat) (tog : Bool) (c m : Int) (rep : Bool) (rp : Option Addr) (rn rc : Nat) (d broken : Bool) (p0 p1 p2 p3 : Value) (BS BR BX O : Nat) (f : Nat → Bool) (a : Act) (w' : World) : Prop :=
  ∃ v9 v10 v11 v12 v13 v14 v15 v16 OB CB T W0 ba L own, a = frB p0 p1 p2 p3 BS BR BX O v9 v10 v11 v12 v13 v14 v15 v16 ∧ MJ base w E s pa pcs pc pl tog c m rep rp rn rc d broken f v9 v10 v11 v12 v13 v14 v15 v16 OB CB T W0 ba L own w'

theorem orb {a b : Bool} (h : (a || b) = true) (hb : b = false) : a = true := by cases a <;> simp_all

theorem MJ.s0 (h : MJ base w E s pa pcs pc pl tog c m rep rp rn rc d broken f v9 v10 v11 v12 v13 v14 v15 v16 OB CB T W0 ba L own w') : MJ base w E s pa pcs pc pl tog c m rep rp rn rc d broken (fun k => f k || k == 0) v9 v10 (srcV s pa pcs.length pc tog broken) v12 v13 v14 v15 v16 OB CB T W0 ba L own w' where
  bel := h.bel
  i0 := fun _ => rfl
  i1 := fun hf => h.i1 (by simpa using hf)
  i3 := fun hf => h.i3 (by simpa using hf)
  i4 := fun hf => h.i4 (by simpa using hf)
  i6 := fun hf => by simpa using h.i6 (by simpa using hf)
  i7 := fun hf => by simpa using h.i7 (by simpa using hf)
  i5 := fun hf => h.i5 (by simpa using hf)
  i2 := fun hf => h.i2 (by simpa using hf)
  d6 := fun h1 h2 => h.d6 (by simpa using h1) (by simpa using h2)
  d7 := fun h1 h2 => h.d7 (by simpa using h1) (by simpa using h2)
  d5 := fun h1 h2 => h.d5 (by simpa using h1) (by simpa using h2)
  e67 := fun h1 h2 => h.e67 (by simpa using h1) (by simpa using h2)
  e65 := fun h1 h2 => h.e65 (by simpa using h1) (by simpa using h2)
  e75 := fun h1 h2 => h.e75 (by simpa using h1) (by simpa using h2)
  l8 := fun hf => by simpa using h.l8 (by simpa using hf)
  l9 := fun hf => by simpa using h.l9 (by simpa using hf)
theorem MJ.s1 (h : MJ base w E s pa pcs pc pl tog c m rep rp rn rc d broken f v9 v10 v11 v12 v13 v14 v15 v16 OB CB T W0 ba L own w') : MJ base w E s pa pcs pc pl tog c m rep rp rn rc d broken (fun k => f k || k == 1) v9 v10 v11 (roomV d c m) v13 v14 v15 v16 OB CB T W0 ba L own w' where
  bel := h.bel
  i0 := fun hf => h.i0 (by simpa using hf)
  i1 := fun _ => rfl
  i3 := fun hf => h.i3 (by simpa using hf)
  i4 := fun hf => h.i4 (by simpa using hf)
  i6 := fun hf => by simpa using h.i6 (by simpa using hf)
  i7 := fun hf => by simpa using h.i7 (by simpa using hf)
  i5 := fun hf => h.i5 (by simpa using hf)
  i2 := fun hf => h.i2 (by simpa using hf)
  d6 := fun h1 h2 => h.d6 (by simpa using h1) (by simpa using h2)
  d7 := fun h1 h2 => h.d7 (by simpa using h1) (by simpa using h2)
  d5 := fun h1 h2 => h.d5 (by simpa using h1) (by simpa using h2)
  e67 := fun h1 h2 => h.e67 (by simpa using h1) (by simpa using h2)
  e65 := fun h1 h2 => h.e65 (by simpa using h1) (by simpa using h2)
  e75 := fun h1 h2 => h.e75 (by simpa using h1) (by simpa using h2)
  l8 := fun hf => by simpa using h.l8 (by simpa using hf)
  l9 := fun hf => by simpa using h.l9 (by simpa using hf)
theorem MJ.s3 (h : MJ base w E s pa pcs pc pl tog c m rep rp rn rc d broken f v9 v10 v11 v12 v13 v14 v15 v16 OB CB T W0 ba L own w') : MJ base w E s pa pcs pc pl tog c m rep rp rn rc d broken (fun k => f k || k == 3) v9 v10 v11 v12 v13 (scrV rp rn rc rep) v15 v16 OB CB T W0 ba L own w' where
  bel := h.bel
  i0 := fun hf => h.i0 (by simpa using hf)
  i1 := fun hf => h.i1 (by simpa using hf)
  i3 := fun _ => rfl
  i4 := fun hf => h.i4 (by simpa using hf)
  i6 := fun hf => by simpa using h.i6 (by simpa using hf)
  i7 := fun hf => by simpa using h.i7 (by simpa using hf)
  i5 := fun hf => h.i5 (by simpa using hf)
  i2 := fun hf => h.i2 (by simpa using hf)
  d6 := fun h1 h2 => h.d6 (by simpa using h1) (by simpa using h2)
  d7 := fun h1 h2 => h.d7 (by simpa using h1) (by simpa using h2)
  d5 := fun h1 h2 => h.d5 (by simpa using h1) (by simpa using h2)
  e67 := fun h1 h2 => h.e67 (by simpa using h1) (by simpa using h2)
  e65 := fun h1 h2 => h.e65 (by simpa using h1) (by simpa using h2)
  e75 := fun h1 h2 => h.e75 (by simpa using h1) (by simpa using h2)
  l8 := fun hf => by simpa using h.l8 (by simpa using hf)
  l9 := fun hf => by simpa using h.l9 (by simpa using hf)
theorem MJ.s4 (h : MJ base w E s pa pcs pc pl tog c m rep rp rn rc d broken f v9 v10 v11 v12 v13 v14 v15 v16 OB CB T W0 ba L own w') : MJ base w E s pa pcs pc pl tog c m rep rp rn rc d broken (fun k => f k || k == 4) v9 v10 v11 v12 v13 v14 (.agg (tape0 rp rn rc rep)) v16 OB CB T W0 ba L own w' where
  bel := h.bel
  i0 := fun hf => h.i0 (by simpa using hf)
  i1 := fun hf => h.i1 (by simpa using hf)
  i3 := fun hf => h.i3 (by simpa using hf)
  i4 := fun _ => rfl
  i6 := fun hf => by simpa using h.i6 (by simpa using hf)
  i7 := fun hf => by simpa using h.i7 (by simpa using hf)
  i5 := fun hf => h.i5 (by simpa using hf)
  i2 := fun hf => h.i2 (by simpa using hf)
  d6 := fun h1 h2 => h.d6 (by simpa using h1) (by simpa using h2)
  d7 := fun h1 h2 => h.d7 (by simpa using h1) (by simpa using h2)
  d5 := fun h1 h2 => h.d5 (by simpa using h1) (by simpa using h2)
  e67 := fun h1 h2 => h.e67 (by simpa using h1) (by simpa using h2)
  e65 := fun h1 h2 => h.e65 (by simpa using h1) (by simpa using h2)
  e75 := fun h1 h2 => h.e75 (by simpa using h1) (by simpa using h2)
  l8 := fun hf => by simpa using h.l8 (by simpa using hf)
  l9 := fun hf => by simpa using h.l9 (by simpa using hf)
/-- the scanner is made -/
theorem MJ.s2 (h0 : MJ base w E s pa pcs pc pl tog c m rep rp rn rc d broken f v9 v10 v11 v12 v13 v14 v15 v16 OB CB T W0 ba L own w') (hbw : base ≤ w.heap.size) (hf2 : f 2 = false) (hpl : ∀ k, k ∈ pl → k < w.heap.size) {ba' : Option Addr} {L' : Nat} {own' : List Nat} (hok : SOk (newCf E base w'.heap.size tog broken d c m) noMem (newSm s) (.slice none 0 0) false ba' L' own' w'') (hb : Below w'.heap.size w' w'') (hown : ∀ k, k ∈ own' → k ∈ pl ∨ w'.heap.size ≤ k) :
    MJ base w E s pa pcs pc pl tog c m rep rp rn rc d broken (fun k => f k || k == 2) v9 v10 v11 v12 (.pointer (some ⟨w'.heap.size + 4, 0, none⟩)) v14 v15 v16 OB CB T w'.heap.size ba' L' own' w'' := by
  have h := h0.grow hbw hb
  have hf8 : f 8 = false := by
    cases h8 : f 8 with
    | false => rfl
    | true => rw [(h0.l8 h8).2] at hf2; cases hf2
  have hno : ∀ k, w.heap.size ≤ k → k < w'.heap.size → k ∉ own' := fun k h1 h2 hm => by
    rcases hown k hm with h3 | h3
    · have := hpl k h3; omega
    · omega
  exact
  { bel := h.bel
    i0 := fun hf => h.i0 (by simpa using hf)
    i1 := fun hf => h.i1 (by simpa using hf)
    i3 := fun hf => h.i3 (by simpa using hf)
    i4 := fun hf => h.i4 (by simpa using hf)
    i6 := fun hf => by
      have := h.i6 (by simpa using hf)
      simpa [hf8] using this
    i7 := fun hf => by simpa using h.i7 (by simpa using hf)
    i5 := fun hf => h.i5 (by simpa using hf)
    i2 := fun _ => ⟨rfl, h0.bel.size, hok, fun k hk => (hown k hk).imp id (fun h1 => Nat.le_trans h0.bel.size h1)⟩
    d6 := fun _ h2 => by
      have h6 := h0.i6 (by simpa using h2)
      exact hno _ h6.2.1 (lt_of_heap h6.2.2)
    d7 := fun _ h2 => by
      have h6 := h0.i7 (by simpa using h2)
      exact hno _ h6.2.1 (lt_of_heap h6.2.2)
    d5 := fun _ h2 => by
      have h6 := h0.i5 (by simpa using h2)
      exact hno _ h6.2.1 (lt_of_heap h6.2.2)
    e67 := fun h1 h2 => h.e67 (by simpa using h1) (by simpa using h2)
    e65 := fun h1 h2 => h.e65 (by simpa using h1) (by simpa using h2)
    e75 := fun h1 h2 => h.e75 (by simpa using h1) (by simpa using h2)
    l8 := fun hf => by rw [hf8] at hf; simp at hf
    l9 := fun hf => by simpa using h.l9 (by simpa using hf) }
/-- the tape is boxed -/
theorem MJ.s5 (h0 : MJ base w E s pa pcs pc pl tog c m rep rp rn rc d broken f v9 v10 v11 v12 v13 v14 v15 v16 OB CB T W0 ba L own w') (hbw : base ≤ w.heap.size) (hf5 : f 5 = false) :
    MJ base w E s pa pcs pc pl tog c m rep rp rn rc d broken (fun k => f k || k == 5) v9 v10 v11 v12 v13 v14 v15 (.pointer (some ⟨w'.heap.size, 0, none⟩)) OB CB w'.heap.size W0 ba L own (w'.alloc (.cells (tape0 rp rn rc rep) 91)) := by
  have h := h0.grow hbw ((Below.refl w'.heap.size w').alloc (Nat.le_refl _) (.cells (tape0 rp rn rc rep) 91))
  have hf9 : f 9 = false := by
    cases h8 : f 9 with
    | false => rfl
    | true => rw [(h0.l9 h8).2] at hf5; cases hf5
  exact
  { bel := h.bel
    i0 := fun hf => h.i0 (by simpa using hf)
    i1 := fun hf => h.i1 (by simpa using hf)
    i3 := fun hf => h.i3 (by simpa using hf)
    i4 := fun hf => h.i4 (by simpa using hf)
    i6 := fun hf => by simpa using h.i6 (by simpa using hf)
    i7 := fun hf => by
      have := h.i7 (by simpa using hf)
      simpa [hf9] using this
    i5 := fun _ => ⟨rfl, h0.bel.size, heap_new _ _⟩
    i2 := fun hf => h.i2 (by simpa using hf)
    d6 := fun h1 h2 => h.d6 (by simpa using h1) (by simpa using h2)
    d7 := fun h1 h2 => h.d7 (by simpa using h1) (by simpa using h2)
    d5 := fun h1 _ hm => by
      have := ((h0.i2 (by simpa using h1)).2.2.1.lt _ hm).2
      omega
    e67 := fun h1 h2 => h.e67 (by simpa using h1) (by simpa using h2)
    e65 := fun h1 _ => by
      have := lt_of_heap (h0.i6 (by simpa using h1)).2.2
      omega
    e75 := fun h1 _ => by
      have := lt_of_heap (h0.i7 (by simpa using h1)).2.2
      omega
    l8 := fun hf => by simpa using h.l8 (by simpa using hf)
    l9 := fun hf => by rw [hf9] at hf; simp at hf }
/-- the scanner's box -/
theorem MJ.s6 (h0 : MJ base w E s pa pcs pc pl tog c m rep rp rn rc d broken f v9 v10 v11 v12 v13 v14 v15 v16 OB CB T W0 ba L own w') (hbw : base ≤ w.heap.size) (hf6 : f 6 = false) :
    MJ base w E s pa pcs pc pl tog c m rep rp rn rc d broken (fun k => f k || k == 6) (.pointer (some ⟨w'.heap.size, 0, none⟩)) v10 v11 v12 v13 v14 v15 v16 w'.heap.size CB T W0 ba L own (w'.alloc (.cells #[.pointer none] 73)) := by
  have h := h0.grow hbw ((Below.refl w'.heap.size w').alloc (Nat.le_refl _) (.cells #[.pointer none] 73))
  have hf8 : f 8 = false := by
    cases h8 : f 8 with
    | false => rfl
    | true => rw [(h0.l8 h8).1] at hf6; cases hf6
  exact
  { bel := h.bel
    i0 := fun hf => h.i0 (by simpa using hf)
    i1 := fun hf => h.i1 (by simpa using hf)
    i3 := fun hf => h.i3 (by simpa using hf)
    i4 := fun hf => h.i4 (by simpa using hf)
    i6 := fun _ => ⟨rfl, h0.bel.size, by simpa [hf8] using heap_new w' (.cells #[.pointer none] 73)⟩
    i7 := fun hf => by simpa using h.i7 (by simpa using hf)
    i5 := fun hf => h.i5 (by simpa using hf)
    i2 := fun hf => h.i2 (by simpa using hf)
    d6 := fun h1 _ hm => by
      have := ((h0.i2 (by simpa using h1)).2.2.1.lt _ hm).2
      omega
    d7 := fun h1 h2 => h.d7 (by simpa using h1) (by simpa using h2)
    d5 := fun h1 h2 => h.d5 (by simpa using h1) (by simpa using h2)
    e67 := fun _ h2 => by
      have := lt_of_heap (h0.i7 (by simpa using h2)).2.2
      omega
    e65 := fun _ h2 => by
      have := lt_of_heap (h0.i5 (by simpa using h2)).2.2
      omega
    e75 := fun h1 h2 => h.e75 (by simpa using h1) (by simpa using h2)
    l8 := fun hf => by rw [hf8] at hf; simp at hf
    l9 := fun hf => by simpa using h.l9 (by simpa using hf) }
/-- the tape's box -/
theorem MJ.s7 (h0 : MJ base w E s pa pcs pc pl tog c m rep rp rn rc d broken f v9 v10 v11 v12 v13 v14 v15 v16 OB CB T W0 ba L own w') (hbw : base ≤ w.heap.size) (hf7 : f 7 = false) :
    MJ base w E s pa pcs pc pl tog c m rep rp rn rc d broken (fun k => f k || k == 7) v9 (.pointer (some ⟨w'.heap.size, 0, none⟩)) v11 v12 v13 v14 v15 v16 OB w'.heap.size T W0 ba L own (w'.alloc (.cells #[.pointer none] 89)) := by
  have h := h0.grow hbw ((Below.refl w'.heap.size w').alloc (Nat.le_refl _) (.cells #[.pointer none] 89))
  have hf9 : f 9 = false := by
    cases h8 : f 9 with
    | false => rfl
    | true => rw [(h0.l9 h8).1] at hf7; cases hf7
  exact
  { bel := h.bel
    i0 := fun hf => h.i0 (by simpa using hf)
    i1 := fun hf => h.i1 (by simpa using hf)
    i3 := fun hf => h.i3 (by simpa using hf)
    i4 := fun hf => h.i4 (by simpa using hf)
    i6 := fun hf => by simpa using h.i6 (by simpa using hf)
    i7 := fun _ => ⟨rfl, h0.bel.size, by simpa [hf9] using heap_new w' (.cells #[.pointer none] 89)⟩
    i5 := fun hf => h.i5 (by simpa using hf)
    i2 := fun hf => h.i2 (by simpa using hf)
    d6 := fun h1 h2 => h.d6 (by simpa using h1) (by simpa using h2)
    d7 := fun h1 _ hm => by
      have := ((h0.i2 (by simpa using h1)).2.2.1.lt _ hm).2
      omega
    d5 := fun h1 h2 => h.d5 (by simpa using h1) (by simpa using h2)
    e67 := fun h1 _ => by
      have := lt_of_heap (h0.i6 (by simpa using h1)).2.2
      omega
    e65 := fun h1 h2 => h.e65 (by simpa using h1) (by simpa using h2)
    e75 := fun _ h2 => by
      have := lt_of_heap (h0.i5 (by simpa using h2)).2.2
      omega
    l8 := fun hf => by simpa using h.l8 (by simpa using hf)
    l9 := fun hf => by rw [hf9] at hf; simp at hf }
/-- the scanner is put into its box -/
theorem MJ.s8 (h : MJ base w E s pa pcs pc pl tog c m rep rp rn rc d broken f v9 v10 v11 v12 v13 v14 v15 v16 OB CB T W0 ba L own w') (hbw : base ≤ w.heap.size) (hf6 : f 6 = true) (hf2 : f 2 = true) :
    MJ base w E s pa pcs pc pl tog c m rep rp rn rc d broken (fun k => f k || k == 8) v9 v10 v11 v12 v13 v14 v15 v16 OB CB T W0 ba L own (w'.setCell ⟨OB, 0, none⟩ (.pointer (some ⟨W0 + 4, 0, none⟩))) := by
  have h6 := h.i6 hf6
  have hk : ∀ k, k ≠ OB → (w'.setCell ⟨OB, 0, none⟩ (.pointer (some ⟨W0 + 4, 0, none⟩))).heap[k]? = w'.heap[k]? := fun k hk => heap_setCell_not hk _
  exact
  { bel := bel_st h.bel h6.2.1 _
    i0 := fun hf => h.i0 (by simpa using hf)
    i1 := fun hf => h.i1 (by simpa using hf)
    i3 := fun hf => h.i3 (by simpa using hf)
    i4 := fun hf => h.i4 (by simpa using hf)
    i6 := fun _ => ⟨h6.1, h6.2.1, by rw [heap_setCell_at h6.2.2]; simp⟩
    i7 := fun hf => by
      have h7 := h.i7 (by simpa using hf)
      refine ⟨h7.1, h7.2.1, (hk _ (Ne.symm (h.e67 hf6 (by simpa using hf)))).trans ?_⟩
      simpa using h7.2.2
    i5 := fun hf => by
      have h7 := h.i5 (by simpa using hf)
      exact ⟨h7.1, h7.2.1, (hk _ (Ne.symm (h.e65 hf6 (by simpa using hf)))).trans h7.2.2⟩
    i2 := fun _ => by
      have h7 := h.i2 hf2
      exact ⟨h7.1, h7.2.1, h7.2.2.1.frame (lines_ok _ rfl rfl rfl) ((Below.refl _ _).setCell (p := ⟨OB, 0, none⟩) (Nat.le_trans hbw h6.2.1) _) (fun k hm => hk k (fun e => h.d6 hf2 hf6 (e ▸ hm))), h7.2.2.2⟩
    d6 := fun h1 h2 => h.d6 (by simpa using h1) (by simpa using h2)
    d7 := fun h1 h2 => h.d7 (by simpa using h1) (by simpa using h2)
    d5 := fun h1 h2 => h.d5 (by simpa using h1) (by simpa using h2)
    e67 := fun h1 h2 => h.e67 (by simpa using h1) (by simpa using h2)
    e65 := fun h1 h2 => h.e65 (by simpa using h1) (by simpa using h2)
    e75 := fun h1 h2 => h.e75 (by simpa using h1) (by simpa using h2)
    l8 := fun _ => ⟨by simpa using hf6, by simpa using hf2⟩
    l9 := fun hf => by simpa using h.l9 (by simpa using hf) }
/-- the tape is put into its box -/
theorem MJ.s9 (h : MJ base w E s pa pcs pc pl tog c m rep rp rn rc d broken f v9 v10 v11 v12 v13 v14 v15 v16 OB CB T W0 ba L own w') (hbw : base ≤ w.heap.size) (hf7 : f 7 = true) (hf5 : f 5 = true) :
    MJ base w E s pa pcs pc pl tog c m rep rp rn rc d broken (fun k => f k || k == 9) v9 v10 v11 v12 v13 v14 v15 v16 OB CB T W0 ba L own (w'.setCell ⟨CB, 0, none⟩ (.pointer (some ⟨T, 0, none⟩))) := by
  have h6 := h.i7 hf7
  have hk : ∀ k, k ≠ CB → (w'.setCell ⟨CB, 0, none⟩ (.pointer (some ⟨T, 0, none⟩))).heap[k]? = w'.heap[k]? := fun k hk => heap_setCell_not hk _
  exact
  { bel := bel_st h.bel h6.2.1 _
    i0 := fun hf => h.i0 (by simpa using hf)
    i1 := fun hf => h.i1 (by simpa using hf)
    i3 := fun hf => h.i3 (by simpa using hf)
    i4 := fun hf => h.i4 (by simpa using hf)
    i6 := fun hf => by
      have h7 := h.i6 (by simpa using hf)
      refine ⟨h7.1, h7.2.1, (hk _ (h.e67 (by simpa using hf) hf7)).trans ?_⟩
      simpa using h7.2.2
    i7 := fun _ => ⟨h6.1, h6.2.1, by rw [heap_setCell_at h6.2.2]; simp⟩
    i5 := fun hf => by
      have h7 := h.i5 hf5
      exact ⟨h7.1, h7.2.1, (hk _ (Ne.symm (h.e75 hf7 hf5))).trans h7.2.2⟩
    i2 := fun hf => by
      have hf2 : f 2 = true := by simpa using hf
      have h7 := h.i2 hf2
      exact ⟨h7.1, h7.2.1, h7.2.2.1.frame (lines_ok _ rfl rfl rfl) ((Below.refl _ _).setCell (p := ⟨CB, 0, none⟩) (Nat.le_trans hbw h6.2.1) _) (fun k hm => hk k (fun e => h.d7 hf2 hf7 (e ▸ hm))), h7.2.2.2⟩
    d6 := fun h1 h2 => h.d6 (by simpa using h1) (by simpa using h2)
    d7 := fun h1 h2 => h.d7 (by simpa using h1) (by simpa using h2)
    d5 := fun h1 h2 => h.d5 (by simpa using h1) (by simpa using h2)
    e67 := fun h1 h2 => h.e67 (by simpa using h1) (by simpa using h2)
    e65 := fun h1 h2 => h.e65 (by simpa using h1) (by simpa using h2)
    e75 := fun h1 h2 => h.e75 (by simpa using h1) (by simpa using h2)
    l8 := fun hf => by simpa using h.l8 (by simpa using hf)
    l9 := fun _ => ⟨by simpa using hf7, by simpa using hf5⟩ }

/-- what the first statement leaves -/
structure Made (base : Nat) (w : World) (E : Nat → Addr) (s : ByteArray) (pl : List Nat) (tog : Bool) (c m : Int) (rep : Bool) (rp : Option Addr) (rn rc : Nat) (d broken : Bool) (OB CB T W0 : Nat) (ba : Option Addr) (L : Nat) (own : List Nat) (w' : World) : Prop where
  bel : Below w.heap.size w w'
  hOB : w.heap.size ≤ OB ∧ w'.heap[OB]? = some (.cells #[.pointer (some ⟨W0 + 4, 0, none⟩)] 73 (0, 0))
  hCB : w.heap.size ≤ CB ∧ w'.heap[CB]? = some (.cells #[.pointer (some ⟨T, 0, none⟩)] 89 (0, 0))
  hT : w.heap.size ≤ T ∧ w'.heap[T]? = some (.cells (tape0 rp rn rc rep) 91 (0, 0))
  ok : SOk (newCf E base W0 tog broken d c m) noMem (newSm s) (.slice none 0 0) false ba L own w'
  owns : ∀ k, k ∈ own → k ∈ pl ∨ w.heap.size ≤ k
  d6 : OB ∉ own
  d7 : CB ∉ own
  d5 : T ∉ own
  e67 : OB ≠ CB
  e65 : OB ≠ T
  e75 : CB ≠ T
  w0 : w.heap.size ≤ W0

set_option maxRecDepth 100000 in
set_option maxHeartbeats 1000000 in
theorem made_region (hbw : base ≤ w.heap.size) (p0 p1 p2 p3 : Value) (BS BR BX O : Nat) (b0 : w.cell? ⟨BS, 0, none⟩ = some (.string s)) (b1 : w.cell? ⟨BS, 1, none⟩ = some (.slice pa pcs.length pc)) (b2 : w.cell? ⟨BS, 2, none⟩ = some (.bool tog)) (b3 : w.cell? ⟨BS, 3, none⟩ = some (.bool broken))
    (r0 : w.cell? ⟨BR, 0, none⟩ = some (.bool d)) (r1 : w.cell? ⟨BR, 1, none⟩ = some (.int .i64 c)) (r2 : w.cell? ⟨BR, 2, none⟩ = some (.int .i64 m)) (x0 : w.cell? ⟨BX, 0, none⟩ = some (.slice rp rn rc)) (x1 : w.cell? ⟨BX, 1, none⟩ = some (.bool rep)) (hpl : ∀ k, k ∈ pl → k < w.heap.size)
    (hS : ∀ W, Below w.heap.size w W → Calls Tryd.prog 35 #[srcV s pa pcs.length pc tog broken, roomV d c m] W (ScannerPost E base s tog broken d c m pl W))
    (Q : Exit → Act → World → Prop) (hQ : ∀ v11 v12 v13 v14 v15 v16 OB CB T W0 ba L own w', Made base w E s pl tog c m rep rp rn rc d broken OB CB T W0 ba L own w' → Q .normal (frB p0 p1 p2 p3 BS BR BX O (.pointer (some ⟨OB, 0, none⟩)) (.pointer (some ⟨CB, 0, none⟩)) v11 v12 v13 v14 v15 v16) w') :
    Code.wp Tryd.prog madeR Q (frB p0 p1 p2 p3 BS BR BX O undef undef undef undef undef undef undef undef) w := by
  unfold madeR
  show Code.wp Tryd.prog (Code.region 1 _ true) Q _ w
  refine wp_region_inv (by kernel_rfl) (MadeJ base w E s pa pcs pc pl tog c m rep rp rn rc d broken p0 p1 p2 p3 BS BR BX O) ?_ ?_ ?_
  · exact ⟨undef, undef, undef, undef, undef, undef, undef, undef, 0, 0, 0, 0, none, 0, [], rfl, ⟨bel_dr (Below.refl _ _), by simp, by simp, by simp, by simp, by simp, by simp, by simp, by simp, by simp, by simp, by simp, by simp, by simp, by simp, by simp, by simp⟩⟩
  · rintro f a w1 i o ⟨v9, v10, v11, v12, v13, v14, v15, v16, OB, CB, T, W0, ba, L, own, rfl, h⟩ ho hfi he
    have hc : ∀ {p : Addr} {v : Value}, w.cell? p = some v → w1.cell? p = some v := fun {p v} hv => (h.bel.cell (World.block_lt_of_cell? w _ hv)).trans hv
    have b0 := hc b0
    have b1 := hc b1
    have b2 := hc b2
    have b3 := hc b3
    have r0 := hc r0
    have r1 := hc r1
    have r2 := hc r2
    have x0 := hc x0
    have x1 := hc x1
    clear hc
    match i, ho, hfi, he with
    | 0, ho, hfi, he =>
      cases ho
      refine wpOp_of rfl rfl ?_
      have HN := Lib.hid h.s0
      clear h hS hQ hfi he
      unfold frB
      go_simp
      exact ⟨_, _, _, _, _, _, _, _, _, _, _, _, _, _, _, rfl, HN.out⟩
    | 1, ho, hfi, he =>
      cases ho
      refine wpOp_of rfl rfl ?_
      have HN := Lib.hid h.s1
      clear h hS hQ hfi he
      unfold frB
      go_simp
      exact ⟨_, _, _, _, _, _, _, _, _, _, _, _, _, _, _, rfl, HN.out⟩
    | 2, ho, hfi, he =>
      cases ho
      refine wpOp_of rfl rfl ?_
      obtain rfl := h.i0 (he ⟨0, .data⟩ (by simp) rfl)
      obtain rfl := h.i1 (he ⟨1, .data⟩ (by simp) rfl)
      have HC := Lib.hid (hS w1 h.bel)
      have HN := Lib.hid (And.intro h hfi)
      clear h hS hQ hfi he
      unfold frB
      go_simp
      refine HC.out.mono ?_
      rintro e w2 ⟨ba', L', own', rfl, hok, hb, hown⟩
      exact ⟨_, _, _, _, _, _, _, _, _, _, _, _, _, _, _, rfl, HN.out.1.s2 hbw HN.out.2 hpl hok hb hown⟩
    | 3, ho, hfi, he =>
      cases ho
      refine wpOp_of rfl rfl ?_
      have HN := Lib.hid h.s3
      clear h hS hQ hfi he
      unfold frB
      go_simp
      exact ⟨_, _, _, _, _, _, _, _, _, _, _, _, _, _, _, rfl, HN.out⟩
    | 4, ho, hfi, he =>
      cases ho
      refine wpOp_of rfl rfl ?_
      obtain rfl := h.i3 (he ⟨3, .data⟩ (by simp) rfl)
      have HN := Lib.hid h.s4
      clear h hS hQ hfi he
      unfold frB
      go_simp
      exact ⟨_, _, _, _, _, _, _, _, _, _, _, _, _, _, _, rfl, HN.out⟩
    | 5, ho, hfi, he =>
      cases ho
      refine wpOp_of rfl rfl ?_
      obtain rfl := h.i4 (he ⟨4, .data⟩ (by simp) rfl)
      have HN := Lib.hid (h.s5 hbw hfi)
      clear h hS hQ hfi he
      unfold frB
      go_simp
      exact ⟨_, _, _, _, _, _, _, _, _, _, _, _, _, _, _, rfl, HN.out⟩
    | 6, ho, hfi, he =>
      cases ho
      refine wpOp_of rfl rfl ?_
      have HN := Lib.hid (h.s6 hbw hfi)
      clear h hS hQ hfi he
      unfold frB
      go_simp
      exact ⟨_, _, _, _, _, _, _, _, _, _, _, _, _, _, _, rfl, HN.out⟩
    | 7, ho, hfi, he =>
      cases ho
      refine wpOp_of rfl rfl ?_
      have HN := Lib.hid (h.s7 hbw hfi)
      clear h hS hQ hfi he
      unfold frB
      go_simp
      exact ⟨_, _, _, _, _, _, _, _, _, _, _, _, _, _, _, rfl, HN.out⟩
    | 8, ho, hfi, he =>
      cases ho
      refine wpOp_of rfl rfl ?_
      have hf6 := he ⟨6, .data⟩ (by simp) rfl
      have hf2 := he ⟨2, .data⟩ (by simp) rfl
      obtain ⟨rfl, -, h6⟩ := h.i6 hf6
      obtain ⟨rfl, -⟩ := h.i2 hf2
      have k0 := cell_of_heap (i := 0) h6
      have k1 := frozen_of_heap h6 0
      simp at k0
      have HN := Lib.hid (h.s8 hbw hf6 hf2)
      clear h hS hQ hfi he h6 hf6 hf2
      unfold frB
      go_simp
      exact ⟨_, _, _, _, _, _, _, _, _, _, _, _, _, _, _, rfl, HN.out⟩
    | 9, ho, hfi, he =>
      cases ho
      refine wpOp_of rfl rfl ?_
      have hf7 := he ⟨7, .data⟩ (by simp) rfl
      have hf5 := he ⟨5, .data⟩ (by simp) rfl
      obtain ⟨rfl, -, h6⟩ := h.i7 hf7
      obtain ⟨rfl, -⟩ := h.i5 hf5
      have k0 := cell_of_heap (i := 0) h6
      have k1 := frozen_of_heap h6 0
      simp at k0
      have HN := Lib.hid (h.s9 hbw hf7 hf5)
      clear h hS hQ hfi he h6 hf7 hf5
      unfold frB
      go_simp
      exact ⟨_, _, _, _, _, _, _, _, _, _, _, _, _, _, _, rfl, HN.out⟩
    | k + 10, ho, hfi, he => cases ho
  · rintro f a w1 ⟨v9, v10, v11, v12, v13, v14, v15, v16, OB, CB, T, W0, ba, L, own, rfl, h⟩ hall
    have f0 : f 0 = true := hall 0 (by decide) _ rfl (fun e he => by simp at he)
    have f1 : f 1 = true := hall 1 (by decide) _ rfl (fun e he => by simp at he)
    have f6 : f 6 = true := hall 6 (by decide) _ rfl (fun e he => by simp at he)
    have f7 : f 7 = true := hall 7 (by decide) _ rfl (fun e he => by simp at he)
    have f3 : f 3 = true := hall 3 (by decide) _ rfl (fun e he hb => by simp at he; subst he; simp [Region.binds] at hb)
    have f4 : f 4 = true := hall 4 (by decide) _ rfl (fun e he hb => by simp at he; rcases he with rfl | rfl <;> first | assumption | simp [Region.binds] at hb)
    have f5 : f 5 = true := hall 5 (by decide) _ rfl (fun e he hb => by simp at he; rcases he with rfl | rfl <;> first | assumption | simp [Region.binds] at hb)
    have f2 : f 2 = true := hall 2 (by decide) _ rfl (fun e he hb => by simp at he; rcases he with rfl | rfl <;> assumption)
    have f8 : f 8 = true := hall 8 (by decide) _ rfl (fun e he hb => by simp at he; rcases he with rfl | rfl | rfl | rfl | rfl | rfl | rfl | rfl | rfl | rfl | rfl <;> assumption)
    have f9 : f 9 = true := hall 9 (by decide) _ rfl (fun e he hb => by simp at he; rcases he with rfl | rfl | rfl | rfl | rfl | rfl | rfl | rfl | rfl | rfl | rfl | rfl <;> assumption)
    obtain ⟨rfl, h62, h63⟩ := h.i6 f6
    obtain ⟨rfl, h72, h73⟩ := h.i7 f7
    obtain ⟨rfl, h52, h53⟩ := h.i5 f5
    obtain ⟨rfl, h22, h23, h24⟩ := h.i2 f2
    rw [f8] at h63
    rw [f9] at h73
    exact hQ _ _ _ _ _ _ OB CB T W0 ba L own w1 ⟨h.bel, ⟨h62, h63⟩, ⟨h72, h73⟩, ⟨h52, h53⟩, h23, h24, h.d6 f2 f6, h.d7 f2 f7, h.d5 f2 f5, h.e67 f6 f7, h.e65 f6 f5, h.e75 f7 f5, h22⟩
end
end Go.Proofs.YtkclapimgmnldaaDoor
