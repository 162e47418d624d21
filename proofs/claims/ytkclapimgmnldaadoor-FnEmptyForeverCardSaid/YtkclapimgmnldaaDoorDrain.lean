/-
  A scanner that is asked to its end, its tokens thrown away; a row of anything beside a scanner.
-/
import Derived.Test.YtkclapimgmnldaaDoorGive
namespace Go.Proofs.YtkclapimgmnldaaDoor
set_option linter.unusedVariables false
set_option linter.unusedSimpArgs false
set_option maxRecDepth 20000
open Go.RowKit

/-- a row beside a scanner -/
def RowG (base : Nat) (own : List Nat) (w : World) (e : TypeId) (v : Value) (n : Nat) (xs : List Value) : Prop := w.ownsRow base e 1 v n xs ∧ ∀ k, v.ownBlock = some k → k ∉ own

theorem RowG.scan {base : Nat} {own own' : List Nat} {w w' : World} {e : TypeId} {v : Value} {n : Nat} {xs : List Value} (h : RowG base own w e v n xs) (ho : Off own w w') (hf : Fresh own own' w) : RowG base own' w' e v n xs := by
  obtain ⟨h1, h2⟩ := h
  refine ⟨?_, fun k hk hm => ?_⟩
  · obtain ⟨h3, h4⟩ := h1
    refine ⟨h3, ?_⟩
    rcases h4 with h4 | ⟨g, cap, cur, rfl, h5, h6, r⟩
    · exact .inl h4
    · have hlt : g < w.heap.size := by
        rcases Nat.lt_or_ge g w.heap.size with h | h
        · exact h
        · rw [Array.getElem?_eq_none h] at h6; cases h6
      exact .inr ⟨g, cap, cur, rfl, h5, (ho.block g hlt (h2 g rfl)).trans h6, r⟩
  · rcases hf k hm with h3 | h3
    · exact h2 k hk h3
    · have := (World.ownsRow.lt h1 k hk).2
      omega

section
variable {σ : Type} {cf : Cfg} {SI : σ → List Nat → World → Prop} {split : σ → List UInt8 → Bool → Ans σ} {ins : Bool} {x : Sm σ} {tokv : Value} {called : Bool} {ba : Option Addr} {L : Nat} {own : List Nat} {w : World}

theorem SOk.grow {fu : σ → Nat} (hs : SplitOK cf SI split ins fu) (h : SOk cf SI x tokv called ba L own w) {ob : Obj} {w1 : World} {row : Option Nat} (hw : (w.alloc ob).grownBy w1 row) (hrow : ∀ k, row = some k → cf.base ≤ k ∧ k ∉ own) : SOk cf SI x tokv called ba L own w1 := by
  have hb := h.base_le
  refine h.frame hs ?_ fun k hk => ?_
  · exact ((Below.refl _ _).alloc hb ob).grown hw (by simp; omega) fun k hk => (hrow k hk).1
  · have hlt := (h.lt k hk).2
    rw [hw.block k (by simp; omega) (fun e => (hrow k e.symm).2 hk)]
    exact Below.heap_alloc _ _ _ hlt
theorem Off.grow {own0 : List Nat} {w0 : World} (ho : Off own0 w0 w) {ob : Obj} {w1 : World} {row : Option Nat} (hw : (w.alloc ob).grownBy w1 row) (hrow : ∀ k, row = some k → w0.heap.size ≤ k) : Off own0 w0 w1 := by
  have hs := ho.size
  have hsz := hw.size
  simp at hsz
  refine ⟨hw.os.trans ho.os, hw.tape.trans ho.tape, hw.output.trans ho.output, by omega, fun k hk hn => ?_⟩
  rw [hw.block k (by simp; omega) (fun e => by have := hrow k e.symm; omega)]
  exact (Below.heap_alloc _ _ _ (by omega)).trans (ho.block k hk hn)
theorem RowG.push {base : Nat} (h : ∀ k, k ∈ own → k < w.heap.size) {e : TypeId} {v v' : Value} {n n' : Nat} {xs xs' : List Value} (hg : RowG base own w e v n xs) {ob : Obj} {w1 : World} (hr : w1.ownsRow base e 1 v' n' xs') (hat : v'.ownBlock = v.ownBlock ∨ v'.ownBlock = some (w.alloc ob).heap.size) : RowG base own w1 e v' n' xs' := by
  refine ⟨hr, fun k hk hm => ?_⟩
  rcases hat with h1 | h1
  · rw [h1] at hk; exact hg.2 k hk hm
  · rw [h1] at hk
    have := h k hm
    simp at hk
    omega

/-- the loop's invariant -/
def DrainI (cf : Cfg) (SI : σ → List Nat → World → Prop) (split : σ → List UInt8 → Bool → Ans σ) (P : List (List UInt8) → Sm σ → Prop) (own0 : List Nat) (w0 : World) (n : Nat) (w : World) : Prop :=
  ∃ x tokv called ba L own ts, SOk cf SI x tokv called ba L own w ∧ x.emp ≤ 100 ∧ (x.done = true → called = true) ∧ Off own0 w0 w ∧ Fresh own0 own w0 ∧ Runs split cf.lim cf.tog cf.endE P n x ts
/-- what it leaves -/
def Drained (cf : Cfg) (SI : σ → List Nat → World → Prop) (P : List (List UInt8) → Sm σ → Prop) (own0 : List Nat) (w0 : World) (w : World) : Prop :=
  ∃ x tokv ba L own ts, SOk cf SI x tokv true ba L own w ∧ x.emp ≤ 100 ∧ Off own0 w0 w ∧ Fresh own0 own w0 ∧ P ts x

theorem drain_start (h : SOk cf SI x tokv called ba L own w) (hemp : x.emp ≤ 100) (hdc : x.done = true → called = true) {P : List (List UInt8) → Sm σ → Prop} {n : Nat} (hr : Runs split cf.lim cf.tog cf.endE P n x []) : DrainI cf SI split P own w n w :=
  ⟨x, tokv, called, ba, L, own, [], h, hemp, hdc, Off.refl _ _, Fresh.refl _ _, hr⟩

/-- one more call of Scan: the end, or the invariant again -/
def DrainPost (cf : Cfg) (SI : σ → List Nat → World → Prop) (split : σ → List UInt8 → Bool → Ans σ) (P : List (List UInt8) → Sm σ → Prop) (own0 : List Nat) (w0 : World) (n : Nat) (e : Ending) (w : World) : Prop :=
  (e = .returned (.bool false) ∧ Drained cf SI P own0 w0 w) ∨ ∃ m, n = m + 1 ∧ e = .returned (.bool true) ∧ DrainI cf SI split P own0 w0 m w
theorem drain_scan (hs : SplitOK cf SI split ins) {P : List (List UInt8) → Sm σ → Prop} {own0 : List Nat} {w0 : World} {n : Nat} (h : DrainI cf SI split P own0 w0 n w) :
    Calls Tryd.prog 47 #[.pointer (some ⟨cf.B, 0, none⟩)] w (DrainPost cf SI split P own0 w0 n) := by
  obtain ⟨x, tokv, called, ba, L, own1, ts, h, hemp, hdc, ho, hf, hr⟩ := h
  refine (scan_any hs own1 h hemp hdc).mono ?_
  rintro en w2 ⟨o, x', tokv', ba', L', own2, hscan, hok, ho1, hf1, hret, hpan⟩
  rcases hr.step hscan with ⟨rfl, hP⟩ | ⟨t, m, rfl, rfl, hr'⟩
  · obtain ⟨rfl, -, -⟩ := hret _ rfl
    exact .inl ⟨rfl, x', tokv', ba', L', own2, ts, hok, scan_emp hscan hemp, ho.trans ho1 hf, hf.trans hf1 ho.size, hP⟩
  · obtain ⟨rfl, -, -⟩ := hret _ rfl
    exact .inr ⟨m, rfl, rfl, x', tokv', true, ba', L', own2, ts ++ [t], hok, scan_emp hscan hemp, fun _ => rfl, ho.trans ho1 hf, hf.trans hf1 ho.size, hr'⟩
end

theorem info_bool : (Tryd.prog.info? 4).map (fun i => (i.zero, i.size, i.bytes)) = some (some (.bool false), 1, 1) := by kernel_rfl

/-- a slice of so many falses that the call made -/
def FalsesAt (base : Nat) (w : World) (v : Value) (n : Nat) : Prop := w.ownsRow base 4 1 v n (List.replicate n (.bool false))
/-- what LinesAfter gives -/
def AfterPost (n : Int) (pl : List Nat) (w : World) (e : Ending) (w' : World) : Prop := ∃ v, e = .returned v ∧ FalsesAt w.heap.size w' v n.toNat ∧ Off pl w w'
end Go.Proofs.YtkclapimgmnldaaDoor
