/-
  Out of a row's list of errors: what the walks lean on.
-/
import Derived.Test.YtkclapimgmnldaaDoorQRun
import Derived.Test.YtkclapimgmnldaaDoorQL
import Derived.Test.YtkclapimgmnldaaDoorQV
namespace Go.Proofs.YtkclapimgmnldaaDoor
set_option linter.unusedVariables false
set_option linter.unusedSimpArgs false
set_option maxRecDepth 20000
open Go.ChangeShapes Go.WideShapes Go.ChangeAt Go.RowKit

/-- the listed errors of a law that scans, with their numbers and texts -/
def list8 : List (String × Nat × List UInt8) := [("io.EOF", 6, [69, 79, 70]),
  ("io.ErrNoProgress", 8, [109, 117, 108, 116, 105, 112, 108, 101, 32, 82, 101, 97, 100, 32, 99, 97, 108, 108, 115, 32, 114, 101, 116, 117, 114, 110, 32, 110, 111, 32, 100, 97, 116, 97, 32, 111, 114, 32, 101, 114, 114, 111, 114]),
  ("bufio.ErrTooLong", 2, [98, 117, 102, 105, 111, 46, 83, 99, 97, 110, 110, 101, 114, 58, 32, 116, 111, 107, 101, 110, 32, 116, 111, 111, 32, 108, 111, 110, 103]),
  ("bufio.ErrNegativeAdvance", 3, [98, 117, 102, 105, 111, 46, 83, 99, 97, 110, 110, 101, 114, 58, 32, 83, 112, 108, 105, 116, 70, 117, 110, 99, 32, 114, 101, 116, 117, 114, 110, 115, 32, 110, 101, 103, 97, 116, 105, 118, 101, 32, 97, 100, 118, 97, 110, 99, 101, 32, 99, 111, 117, 110, 116]),
  ("bufio.ErrAdvanceTooFar", 4, [98, 117, 102, 105, 111, 46, 83, 99, 97, 110, 110, 101, 114, 58, 32, 83, 112, 108, 105, 116, 70, 117, 110, 99, 32, 114, 101, 116, 117, 114, 110, 115, 32, 97, 100, 118, 97, 110, 99, 101, 32, 99, 111, 117, 110, 116, 32, 98, 101, 121, 111, 110, 100, 32, 105, 110, 112, 117, 116]),
  ("bufio.ErrBadReadCount", 7, [98, 117, 102, 105, 111, 46, 83, 99, 97, 110, 110, 101, 114, 58, 32, 82, 101, 97, 100, 32, 114, 101, 116, 117, 114, 110, 101, 100, 32, 105, 109, 112, 111, 115, 115, 105, 98, 108, 101, 32, 99, 111, 117, 110, 116]),
  ("bufio.ErrFinalToken", 1, [102, 105, 110, 97, 108, 32, 116, 111, 107, 101, 110]),
  ("loop.example/lib-g01189/impl.errRead", 5, [114, 101, 97, 100])]
theorem list8_globals : ∀ x ∈ list8, Tryd.prog.globalNamed x.1 = some x.2.1 ∧ (Tryd.prog.globals[x.2.1]?).map (·.type) = some 83 := by
  intro x hx
  simp only [list8, List.mem_cons, List.not_mem_nil, or_false] at hx
  rcases hx with rfl | rfl | rfl | rfl | rfl | rfl | rfl | rfl <;> exact ⟨by kernel_rfl, by kernel_rfl⟩

theorem getD_inj {l : List Addr} (hnd : l.Nodup) (z : Addr) {c d : Nat} (hc : c < l.length) (hd : d < l.length) (h : l.getD c z = l.getD d z) : c = d := by
  simp only [List.getD_eq_getElem?_getD, List.getElem?_eq_getElem hc, List.getElem?_eq_getElem hd, Option.getD_some] at h
  have hp := List.pairwise_iff_getElem.1 hnd
  rcases Nat.lt_trichotomy c d with h1 | h1 | h1
  · exact absurd h (hp c d hc hd h1)
  · exact h1
  · exact absurd h.symm (hp d c hd hc h1)
theorem getD_mem {l : List Addr} (z : Addr) {c : Nat} (hc : c < l.length) : l.getD c z ∈ l := by
  simp only [List.getD_eq_getElem?_getD, List.getElem?_eq_getElem hc, Option.getD_some]
  exact List.getElem_mem hc

theorem env_mk {W : World} (a0 a1 a2 a3 a4 a5 a6 : Addr) (hnd : [a0, a1, a2, a3, a4, a5, a6].Nodup) (hl : ∀ a ∈ [a0, a1, a2, a3, a4, a5, a6], ∃ c t, W.heap[a.block]? = some (.cells c t (0, 0)))
    (h0 : W.cell? ⟨6, 0, none⟩ = some (.iface 124 (.pointer (some a0)))) (h1 : W.cell? ⟨2, 0, none⟩ = some (.iface 124 (.pointer (some a1))))
    (h2 : W.cell? ⟨3, 0, none⟩ = some (.iface 124 (.pointer (some a2)))) (h3 : W.cell? ⟨4, 0, none⟩ = some (.iface 124 (.pointer (some a3))))
    (h5 : W.cell? ⟨5, 0, none⟩ = some (.iface 124 (.pointer (some a5)))) (h6 : W.cell? ⟨1, 0, none⟩ = some (.iface 124 (.pointer (some a6)))) :
    Env W.heap.size W (fun c => [a0, a1, a2, a3, a4, a5, a6].getD c a0) where
  g := {
    errs := {
      inj := fun c d hc hd h => getD_inj hnd a0 hc hd h
      lies := fun c hc => by
        have hm : ([a0, a1, a2, a3, a4, a5, a6].getD c a0) ∈ [a0, a1, a2, a3, a4, a5, a6] := getD_mem a0 hc
        obtain ⟨cs, t, h⟩ := hl _ hm
        refine ⟨?_, cs, t, h⟩
        rcases Nat.lt_or_ge ([a0, a1, a2, a3, a4, a5, a6].getD c a0).block W.heap.size with h' | h'
        · exact h'
        · rw [Array.getElem?_eq_none h'] at h; cases h }
    eof := h0
    tooLong := h1
    neg := h2
    far := h3
    fin := h6
    lt := ⟨World.block_lt_of_cell? W _ h0, World.block_lt_of_cell? W _ h1, World.block_lt_of_cell? W _ h2, World.block_lt_of_cell? W _ h3, World.block_lt_of_cell? W _ h6⟩ }
  rd := h5
  lt := World.block_lt_of_cell? W _ h5
  le := Nat.le_refl _

/-- what the errors' package-level variable reads as -/
abbrev errReadV (a : Addr) : Array Value := #[.iface 124 (.pointer (some a))]

theorem env8 {W : World} (hL : laidMet Tryd.prog (list8.map fun x => (x.1, errD x.2.2)) W) : ∃ E, Env W.heap.size W E ∧ W.var? Tryd.prog "loop.example/lib-g01189/impl.errRead" = some (errReadV (E 5)) := by
  obtain ⟨ads, hl, hnd, hlies, hat⟩ := errs_of_laid list8 hL list8_globals
  match ads, hl with
  | [a0, a4, a1, a2, a3, ab, a6, a5], _ =>
    refine ⟨_, env_mk (W := W) a0 a1 a2 a3 a4 a5 a6 ?_ ?_ (hat 0 _ a0 rfl rfl).2 (hat 2 _ a1 rfl rfl).2 (hat 3 _ a2 rfl rfl).2 (hat 4 _ a3 rfl rfl).2 (hat 7 _ a5 rfl rfl).2 (hat 6 _ a6 rfl rfl).2, (hat 7 _ a5 rfl rfl).1⟩
    · simp only [List.nodup_cons, List.mem_cons, not_or, List.not_mem_nil, not_false_eq_true, List.nodup_nil, and_true] at hnd ⊢
      grind
    · intro a ha
      exact (hlies a (by simp only [List.mem_cons, List.not_mem_nil, or_false] at ha ⊢; grind)).2
end Go.Proofs.YtkclapimgmnldaaDoor

/-
  Out of a row's list of nine errors: what the walks lean on that ask for an error's number.
-/
namespace Go.Proofs.YtkclapimgmnldaaDoor
set_option linter.unusedVariables false
set_option linter.unusedSimpArgs false
set_option maxRecDepth 20000
open Go.ChangeShapes Go.WideShapes Go.ChangeAt Go.RowKit

def list9 : List (String × Nat × List UInt8) := [("io.EOF", 6, [69, 79, 70]),
  ("io.ErrNoProgress", 8, [109, 117, 108, 116, 105, 112, 108, 101, 32, 82, 101, 97, 100, 32, 99, 97, 108, 108, 115, 32, 114, 101, 116, 117, 114, 110, 32, 110, 111, 32, 100, 97, 116, 97, 32, 111, 114, 32, 101, 114, 114, 111, 114]),
  ("bufio.ErrTooLong", 2, [98, 117, 102, 105, 111, 46, 83, 99, 97, 110, 110, 101, 114, 58, 32, 116, 111, 107, 101, 110, 32, 116, 111, 111, 32, 108, 111, 110, 103]),
  ("bufio.ErrNegativeAdvance", 3, [98, 117, 102, 105, 111, 46, 83, 99, 97, 110, 110, 101, 114, 58, 32, 83, 112, 108, 105, 116, 70, 117, 110, 99, 32, 114, 101, 116, 117, 114, 110, 115, 32, 110, 101, 103, 97, 116, 105, 118, 101, 32, 97, 100, 118, 97, 110, 99, 101, 32, 99, 111, 117, 110, 116]),
  ("bufio.ErrAdvanceTooFar", 4, [98, 117, 102, 105, 111, 46, 83, 99, 97, 110, 110, 101, 114, 58, 32, 83, 112, 108, 105, 116, 70, 117, 110, 99, 32, 114, 101, 116, 117, 114, 110, 115, 32, 97, 100, 118, 97, 110, 99, 101, 32, 99, 111, 117, 110, 116, 32, 98, 101, 121, 111, 110, 100, 32, 105, 110, 112, 117, 116]),
  ("bufio.ErrBadReadCount", 7, [98, 117, 102, 105, 111, 46, 83, 99, 97, 110, 110, 101, 114, 58, 32, 82, 101, 97, 100, 32, 114, 101, 116, 117, 114, 110, 101, 100, 32, 105, 109, 112, 111, 115, 115, 105, 98, 108, 101, 32, 99, 111, 117, 110, 116]),
  ("bufio.ErrFinalToken", 1, [102, 105, 110, 97, 108, 32, 116, 111, 107, 101, 110]),
  ("loop.example/lib-g01189/impl.errSplit", 0, [115, 112, 108, 105, 116]),
  ("loop.example/lib-g01189/impl.errRead", 5, [114, 101, 97, 100])]
theorem list9_globals : ∀ x ∈ list9, Tryd.prog.globalNamed x.1 = some x.2.1 ∧ (Tryd.prog.globals[x.2.1]?).map (·.type) = some 83 := by
  intro x hx
  simp only [list9, List.mem_cons, List.not_mem_nil, or_false] at hx
  rcases hx with rfl | rfl | rfl | rfl | rfl | rfl | rfl | rfl | rfl <;> exact ⟨by kernel_rfl, by kernel_rfl⟩

theorem env9 {W : World} (hL : laidMet Tryd.prog (list9.map fun x => (x.1, errD x.2.2)) W) : ∃ E, EnvC W.heap.size W E ∧ W.var? Tryd.prog "loop.example/lib-g01189/impl.errRead" = some (errReadV (E 5)) ∧ W.var? Tryd.prog "loop.example/lib-g01189/impl.errSplit" = some (errReadV (E 4)) := by
  obtain ⟨ads, hl, hnd, hlies, hat⟩ := errs_of_laid list9 hL list9_globals
  match ads, hl with
  | [a0, an, a1, a2, a3, ab, a6, a4, a5], _ =>
    have h4 := (hat 7 _ a4 rfl rfl).2
    refine ⟨_, ⟨env_mk (W := W) a0 a1 a2 a3 a4 a5 a6 ?_ ?_ (hat 0 _ a0 rfl rfl).2 (hat 2 _ a1 rfl rfl).2 (hat 3 _ a2 rfl rfl).2 (hat 4 _ a3 rfl rfl).2 (hat 8 _ a5 rfl rfl).2 (hat 6 _ a6 rfl rfl).2, h4, World.block_lt_of_cell? W _ h4⟩, (hat 8 _ a5 rfl rfl).1, (hat 7 _ a4 rfl rfl).1⟩
    · simp only [List.nodup_cons, List.mem_cons, not_or, List.not_mem_nil, not_false_eq_true, List.nodup_nil, and_true] at hnd ⊢
      grind
    · intro a ha
      exact (hlies a (by simp only [List.mem_cons, List.not_mem_nil, or_false] at ha ⊢; grind)).2
end Go.Proofs.YtkclapimgmnldaaDoor
