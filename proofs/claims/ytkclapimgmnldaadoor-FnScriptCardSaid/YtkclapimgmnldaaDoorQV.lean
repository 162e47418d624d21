/-
  What a scanner of lines gives in all; impl.Lines.
-/
import Derived.Test.YtkclapimgmnldaaDoorQRun
import Derived.Test.YtkclapimgmnldaaDoorQHelp
import Derived.Test.YtkclapimgmnldaaDoorQT
import Derived.Stop.IfaceNil
namespace Go.Proofs.YtkclapimgmnldaaDoor
set_option linter.unusedVariables false
set_option linter.unusedSimpArgs false
set_option maxRecDepth 20000
open Go.RowKit

theorem StrsAt.mono {b b' : Nat} {w : World} {v : Value} {xs : List (List UInt8)} (h : StrsAt b w v xs) (hb : b' ≤ b) : StrsAt b' w v xs := by
  obtain ⟨h1, h2⟩ := h
  refine ⟨h1, ?_⟩
  rcases h2 with h2 | ⟨g, cap, cur, e, h3, r⟩
  · exact .inl h2
  · exact .inr ⟨g, cap, cur, e, by omega, r⟩

/-- a call that answers with a list of texts in new memory -/
def GivesL (xs : List (List UInt8)) (w : World) (e : Ending) (w' : World) : Prop := ∃ v, e = .returned v ∧ StrsAt w.heap.size w' v xs ∧ Below w.heap.size w w'

/-- only the pieces and new blocks -/
theorem off_new {pl own : List Nat} {w w1 w2 : World} (hb : Below w.heap.size w w1) (hown : ∀ k, k ∈ own → k ∈ pl ∨ w.heap.size ≤ k) (ho : Off own w1 w2) : Off pl w w2 :=
  ⟨ho.os.trans hb.os, ho.tape.trans hb.tape, ho.output.trans hb.output, Nat.le_trans hb.size ho.size, fun k hk hn => by
    rw [ho.block k (Nat.lt_of_lt_of_le hk hb.size) (fun hm => by rcases hown k hm with h | h; exact hn h; omega)]
    exact hb.block k hk⟩
theorem off_nil {w w' : World} (h : Off [] w w') : Below w.heap.size w w' := ⟨h.os, h.tape, h.output, h.size, fun k hk => h.block k hk (by simp)⟩

/-- what all runs of a scanner of lines come to -/
def EndsL (endE : Nat) (t : List UInt8) (ts : List (List UInt8)) (x : Sm Unit) : Prop := ts = tokens t ∧ Fine endE x ∧ x.pend = [] ∧ x.rest = [] ∧ x.err = some endE
theorem lines_all {lim : Nat} (tog : Bool) (endE : Nat) (s : ByteArray) (hlim : 0 < lim) (hr : Roomy lim s.data.toList) : Runs splitLines lim tog endE (EndsL endE s.data.toList) s.size (newSm s) [] := by
  have := lines_runs lim tog endE hlim s.size (newSm s) [] (by simp) ⟨rfl, rfl, .inl rfl⟩ (by simpa using hr)
  have e : (newSm s).pend ++ (newSm s).rest = s.data.toList := rfl
  rw [e] at this
  exact this

section
variable {base : Nat} {w : World} {E : Nat → Addr} {s : ByteArray}
set_option maxHeartbeats 400000 in
theorem implLines_any (hE : Env base w E) (hs : s.size ≤ 4194304) (hr : Roomy 65536 s.data.toList) :
    Calls Tryd.prog 24 #[.string s] w (GivesL (tokens s.data.toList) w) := by
  have HS := Lib.hid (scanner_any (s := s) (pa := none) (pcs := []) (pc := 0) (tog := false) (c := 0) (m := 0) true false hE (PcsAt.none base w) (by omega) rfl)
  have HR := Lib.hid (lines_all (lim := 65536) false 0 s (by omega) hr)
  clear hE hr
  go_enter Tryd.func24, Tryd.ntmps24
  go_wp2_with fail
  refine HS.out.mono ?_
  rintro e w1 ⟨ba, L, own, rfl, hok, hb, hown⟩
  have HT := Lib.hid (texts_any (lines_ok _ rfl rfl rfl) own hok (by simp) (by simp) (EndsL 0 s.data.toList) s.size HR.out (by omega))
  have HB := Lib.hid hb
  have HO := Lib.hid hown
  clear hok hb hown HS HR
  go_wp2_with fail
  refine HT.out.mono ?_
  rintro e w2 ⟨v, x, tokv, ba', L', own', ts, rfl, ⟨rfl, -⟩, -, ho, -, hg⟩
  have HP : GivesL (tokens s.data.toList) w (.returned v) w2 := ⟨v, rfl, hg.1.mono HB.out.size, off_nil (off_new HB.out HO.out ho)⟩
  have HP := Lib.hid HP
  clear ho hg HT HB HO
  generalize GivesL (tokens s.data.toList) w = PP at *
  go_wp2_with fail
  exact HP.out
end
end Go.Proofs.YtkclapimgmnldaaDoor

/-
  Split: a scanner with another split function; impl.LinesSplit.
-/
namespace Go.Proofs.YtkclapimgmnldaaDoor
set_option linter.unusedVariables false
set_option linter.unusedSimpArgs false
set_option maxRecDepth 20000
open Go.RowKit

set_option maxHeartbeats 400000 in
theorem split_any (B : Nat) (fn : Fn) (first cap : Array Value) (w : World) (hc : w.cell? ⟨B, 9, none⟩ = some (.bool false)) (hf : ∀ o, w.frozen? ⟨B, o, none⟩ = false) (h1 : ∃ v, w.cell? ⟨B, 1, none⟩ = some v) :
    Calls Tryd.prog 36 #[.pointer (some ⟨B, 0, none⟩), .func fn first cap] w fun e w' => e = .returned (.tuple #[]) ∧ w' = w.setCell ⟨B, 1, none⟩ (.func fn first cap) := by
  obtain ⟨v1, h1⟩ := h1
  go_enter Tryd.func36, Tryd.ntmps36
  go_wp2
  go_end0
  exact ⟨rfl, rfl⟩

/-- a scanner that has not begun, given a split function -/
theorem SOk.split {σ τ : Type} {cf : Cfg} {SI : σ → List Nat → World → Prop} {x : Sm σ} {tokv : Value} {called : Bool} {ba : Option Addr} {L : Nat} {own : List Nat} {w : World} (h : SOk cf SI x tokv called ba L own w) (f : FuncId) (first cap : Array Value) (SI' : τ → List Nat → World → Prop) (sp : τ) (osp' : List Nat)
    (hno : ∀ s e bytes pa pcs pc pl bl osp, SInv cf SI x tokv called ba L s e bytes pa pcs pc pl bl osp w → own = ownOf cf pl bl osp → osp = []) (hsp : SI' sp osp' (w.setCell ⟨cf.B, 1, none⟩ (.func (.func f) first cap))) (hnd : osp'.Nodup) (hdis : ∀ k, k ∈ osp' → k ∉ own ∧ cf.base ≤ k ∧ k < w.heap.size) :
    SOk { cf with f := f, first := first, cap := cap } SI' ⟨x.pend, x.rest, x.err, x.emp, x.done, sp⟩ tokv called ba L (own ++ osp') (w.setCell ⟨cf.B, 1, none⟩ (.func (.func f) first cap)) := by
  obtain ⟨s, e, bytes, pa, pcs, pc, pl, bl, osp, h, rfl⟩ := h
  obtain rfl := hno s e bytes pa pcs pc pl bl osp h rfl
  have hne : ∀ k, k ∈ cf.R :: (pl ++ bl ++ []) → k ≠ cf.B := fun k hk => h.r.notB hk
  have hb : Below cf.base w (w.setCell ⟨cf.B, 1, none⟩ (.func (.func f) first cap)) := (Below.refl _ _).setCell (h.r.hlt cf.B (by simp)).1 _
  refine ⟨s, e, bytes, pa, pcs, pc, pl, bl, osp', ⟨?_, ?_⟩, by simp [ownOf]⟩
  · rw [heap_setCell_at h.hB]; rfl
  · refine ⟨?_, ?_, h.r.hpc, ?_, h.r.hlen, h.r.hse, h.r.hpend, h.r.hlim, h.r.hbig, h.r.hrest, hsp, h.r.herr, h.r.hend, h.r.hg.below hb, ?_, ?_, h.r.hemp⟩
    · exact (heap_setCell_not (hne _ (by simp)) _).trans h.r.hR
    · intro i c hc
      obtain ⟨b, o, e1, hm, hcell⟩ := h.r.hp i c hc
      exact ⟨b, o, e1, hm, (World.cell?_of_block (a := ⟨b, o + i, none⟩) (heap_setCell_not (hne b (by simp [hm])) _)).trans hcell⟩
    · rcases h.r.hb with h1 | ⟨D, e1, e2, h1⟩
      · exact .inl h1
      · exact .inr ⟨D, e1, e2, (heap_setCell_not (hne D (by simp [e2])) _).trans h1⟩
    · have hnd0 := h.r.hnd
      simp only [List.append_nil] at hnd0
      show (cf.B :: cf.R :: (pl ++ bl ++ osp')).Nodup
      have e : cf.B :: cf.R :: (pl ++ bl ++ osp') = (cf.B :: cf.R :: (pl ++ bl)) ++ osp' := by simp
      rw [e]
      refine List.nodup_append.2 ⟨hnd0, hnd, fun a ha b hb' => ?_⟩
      rintro rfl
      exact (hdis a hb').1 (by simpa [ownOf] using ha)
    · intro k hk
      have hk' : k ∈ cf.B :: cf.R :: (pl ++ bl ++ osp') := hk
      have e : cf.B :: cf.R :: (pl ++ bl ++ osp') = (cf.B :: cf.R :: (pl ++ bl)) ++ osp' := by simp
      rw [e] at hk'
      show cf.base ≤ k ∧ k < (w.setCell ⟨cf.B, 1, none⟩ (.func (.func f) first cap)).heap.size
      rw [World.size_setCell]
      rcases List.mem_append.1 hk' with h1 | h1
      · exact h.r.hlt k (by simpa using h1)
      · exact (hdis k h1).2

/-- .. without memory of its own -/
theorem SOk.splitN {cf : Cfg} {x : Sm Unit} {tokv : Value} {called : Bool} {ba : Option Addr} {L : Nat} {own : List Nat} {w : World} (h : SOk cf noMem x tokv called ba L own w) (f : FuncId) :
    SOk { cf with f := f, first := #[], cap := #[] } noMem x tokv called ba L own (w.setCell ⟨cf.B, 1, none⟩ (.func (.func f) #[] #[])) := by
  have := h.split f #[] #[] noMem () [] (fun s e bytes pa pcs pc pl bl osp hI _ => hI.r.hsp) rfl List.nodup_nil (fun k hk => by cases hk)
  rw [List.append_nil] at this
  exact this
/-- the scanner's cells that Split looks at -/
theorem SOk.forSplit {σ : Type} {cf : Cfg} {SI : σ → List Nat → World → Prop} {x : Sm σ} {tokv : Value} {called : Bool} {ba : Option Addr} {L : Nat} {own : List Nat} {w : World} (h : SOk cf SI x tokv called ba L own w) : w.cell? ⟨cf.B, 9, none⟩ = some (.bool called) ∧ (∀ o, w.frozen? ⟨cf.B, o, none⟩ = false) ∧ ∃ v, w.cell? ⟨cf.B, 1, none⟩ = some v := by
  obtain ⟨s, e, bytes, pa, pcs, pc, pl, bl, osp, h, rfl⟩ := h
  exact ⟨h.c9, frozen_of_heap h.hB, _, cell_of_heap h.hB⟩
theorem SOk.memB {σ : Type} {cf : Cfg} {SI : σ → List Nat → World → Prop} {x : Sm σ} {tokv : Value} {called : Bool} {ba : Option Addr} {L : Nat} {own : List Nat} {w : World} (h : SOk cf SI x tokv called ba L own w) : cf.B ∈ own := by
  obtain ⟨s, e, bytes, pa, pcs, pc, pl, bl, osp, h, rfl⟩ := h
  simp [ownOf]

section
variable {base : Nat} {w : World} {E : Nat → Addr} {s : ByteArray}
end
end Go.Proofs.YtkclapimgmnldaaDoor

/-
  Err and code: the number of the error that a scanner stands at.
-/
namespace Go.Proofs.YtkclapimgmnldaaDoor
set_option linter.unusedVariables false
set_option linter.unusedSimpArgs false
set_option maxRecDepth 20000
open Go.RowKit

/-- What a law leans on that asks for the number of an error. -/
structure EnvC (base : Nat) (w : World) (E : Nat → Addr) : Prop where
  e : Env base w E
  sp : w.cell? ⟨0, 0, none⟩ = some (.iface 124 (.pointer (some (E 4))))
  lts : 0 < base
theorem EnvC.below {base : Nat} {w w' : World} {E : Nat → Addr} (h : EnvC base w E) (hb : Below base w w') : EnvC base w' E :=
  ⟨h.e.below hb, (hb.cell (p := ⟨_, 0, none⟩) h.lts).trans h.sp, h.lts⟩
theorem EnvC.later {base : Nat} {w w' : World} {E : Nat → Addr} (h : EnvC base w E) (hb : Below w.heap.size w w') : EnvC base w' E := h.below (hb.mono h.e.le)

theorem EnvC.drewN {base : Nat} {w : World} {E : Nat → Addr} (h : EnvC base w E) (n : Nat) : EnvC base (w.drewN n) E := h.below (below_drewN (Below.refl _ _) n)

/-- the number of an error -/
def codeI : Option Nat → Int
  | none => 0
  | some c => c
theorem errIface : Tryd.prog.isIface 83 = true := by kernel_rfl

set_option maxHeartbeats 400000 in
theorem code_none (w : World) : Calls Tryd.prog 39 #[.nilIface] w fun e w' => e = .returned (.int .i64 0) ∧ w = w' := by
  go_enter Tryd.func39, Tryd.ntmps39
  go_wp2
  go_ret
  exact ⟨rfl, rfl⟩

set_option maxHeartbeats 400000 in
theorem code_1 {base : Nat} {w : World} {E : Nat → Addr} (h : EnvC base w E) : Calls Tryd.prog 39 #[.iface 124 (.pointer (some (E 1)))] w fun e w' => e = .returned (.int .i64 1) ∧ w = w' := by
  have hE := h.e.g.errs
  have g1 := h.e.g.tooLong
  have g2 := h.e.g.neg
  have g3 := h.e.g.far
  have g4 := h.sp
  have g5 := h.e.rd
  have h0 := run_eql_iface_nil (P := Tryd.prog) w 83 errIface 124 (.pointer (some (E 1)))
  have e1 : (binOp .eql 83 (.iface 124 (.pointer (some (E 1)))) (.iface 124 (.pointer (some (E 1))))).run Tryd.prog w = .ok (.bool true) w := eql_errs hE 1 1 (by omega) (by omega)
  clear h hE
  go_enter Tryd.func39, Tryd.ntmps39
  go_wp2
  go_ret
  exact ⟨rfl, rfl⟩

set_option maxHeartbeats 400000 in
theorem code_2 {base : Nat} {w : World} {E : Nat → Addr} (h : EnvC base w E) : Calls Tryd.prog 39 #[.iface 124 (.pointer (some (E 2)))] w fun e w' => e = .returned (.int .i64 2) ∧ w = w' := by
  have hE := h.e.g.errs
  have g1 := h.e.g.tooLong
  have g2 := h.e.g.neg
  have g3 := h.e.g.far
  have g4 := h.sp
  have g5 := h.e.rd
  have h0 := run_eql_iface_nil (P := Tryd.prog) w 83 errIface 124 (.pointer (some (E 2)))
  have e1 : (binOp .eql 83 (.iface 124 (.pointer (some (E 2)))) (.iface 124 (.pointer (some (E 1))))).run Tryd.prog w = .ok (.bool false) w := eql_errs hE 2 1 (by omega) (by omega)
  have e2 : (binOp .eql 83 (.iface 124 (.pointer (some (E 2)))) (.iface 124 (.pointer (some (E 2))))).run Tryd.prog w = .ok (.bool true) w := eql_errs hE 2 2 (by omega) (by omega)
  clear h hE
  go_enter Tryd.func39, Tryd.ntmps39
  go_wp2
  go_ret
  exact ⟨rfl, rfl⟩

set_option maxHeartbeats 400000 in
theorem code_3 {base : Nat} {w : World} {E : Nat → Addr} (h : EnvC base w E) : Calls Tryd.prog 39 #[.iface 124 (.pointer (some (E 3)))] w fun e w' => e = .returned (.int .i64 3) ∧ w = w' := by
  have hE := h.e.g.errs
  have g1 := h.e.g.tooLong
  have g2 := h.e.g.neg
  have g3 := h.e.g.far
  have g4 := h.sp
  have g5 := h.e.rd
  have h0 := run_eql_iface_nil (P := Tryd.prog) w 83 errIface 124 (.pointer (some (E 3)))
  have e1 : (binOp .eql 83 (.iface 124 (.pointer (some (E 3)))) (.iface 124 (.pointer (some (E 1))))).run Tryd.prog w = .ok (.bool false) w := eql_errs hE 3 1 (by omega) (by omega)
  have e2 : (binOp .eql 83 (.iface 124 (.pointer (some (E 3)))) (.iface 124 (.pointer (some (E 2))))).run Tryd.prog w = .ok (.bool false) w := eql_errs hE 3 2 (by omega) (by omega)
  have e3 : (binOp .eql 83 (.iface 124 (.pointer (some (E 3)))) (.iface 124 (.pointer (some (E 3))))).run Tryd.prog w = .ok (.bool true) w := eql_errs hE 3 3 (by omega) (by omega)
  clear h hE
  go_enter Tryd.func39, Tryd.ntmps39
  go_wp2
  go_ret
  exact ⟨rfl, rfl⟩

set_option maxHeartbeats 400000 in
theorem code_4 {base : Nat} {w : World} {E : Nat → Addr} (h : EnvC base w E) : Calls Tryd.prog 39 #[.iface 124 (.pointer (some (E 4)))] w fun e w' => e = .returned (.int .i64 4) ∧ w = w' := by
  have hE := h.e.g.errs
  have g1 := h.e.g.tooLong
  have g2 := h.e.g.neg
  have g3 := h.e.g.far
  have g4 := h.sp
  have g5 := h.e.rd
  have h0 := run_eql_iface_nil (P := Tryd.prog) w 83 errIface 124 (.pointer (some (E 4)))
  have e1 : (binOp .eql 83 (.iface 124 (.pointer (some (E 4)))) (.iface 124 (.pointer (some (E 1))))).run Tryd.prog w = .ok (.bool false) w := eql_errs hE 4 1 (by omega) (by omega)
  have e2 : (binOp .eql 83 (.iface 124 (.pointer (some (E 4)))) (.iface 124 (.pointer (some (E 2))))).run Tryd.prog w = .ok (.bool false) w := eql_errs hE 4 2 (by omega) (by omega)
  have e3 : (binOp .eql 83 (.iface 124 (.pointer (some (E 4)))) (.iface 124 (.pointer (some (E 3))))).run Tryd.prog w = .ok (.bool false) w := eql_errs hE 4 3 (by omega) (by omega)
  have e4 : (binOp .eql 83 (.iface 124 (.pointer (some (E 4)))) (.iface 124 (.pointer (some (E 4))))).run Tryd.prog w = .ok (.bool true) w := eql_errs hE 4 4 (by omega) (by omega)
  clear h hE
  go_enter Tryd.func39, Tryd.ntmps39
  go_wp2
  go_ret
  exact ⟨rfl, rfl⟩

set_option maxHeartbeats 400000 in
theorem code_5 {base : Nat} {w : World} {E : Nat → Addr} (h : EnvC base w E) : Calls Tryd.prog 39 #[.iface 124 (.pointer (some (E 5)))] w fun e w' => e = .returned (.int .i64 5) ∧ w = w' := by
  have hE := h.e.g.errs
  have g1 := h.e.g.tooLong
  have g2 := h.e.g.neg
  have g3 := h.e.g.far
  have g4 := h.sp
  have g5 := h.e.rd
  have h0 := run_eql_iface_nil (P := Tryd.prog) w 83 errIface 124 (.pointer (some (E 5)))
  have e1 : (binOp .eql 83 (.iface 124 (.pointer (some (E 5)))) (.iface 124 (.pointer (some (E 1))))).run Tryd.prog w = .ok (.bool false) w := eql_errs hE 5 1 (by omega) (by omega)
  have e2 : (binOp .eql 83 (.iface 124 (.pointer (some (E 5)))) (.iface 124 (.pointer (some (E 2))))).run Tryd.prog w = .ok (.bool false) w := eql_errs hE 5 2 (by omega) (by omega)
  have e3 : (binOp .eql 83 (.iface 124 (.pointer (some (E 5)))) (.iface 124 (.pointer (some (E 3))))).run Tryd.prog w = .ok (.bool false) w := eql_errs hE 5 3 (by omega) (by omega)
  have e4 : (binOp .eql 83 (.iface 124 (.pointer (some (E 5)))) (.iface 124 (.pointer (some (E 4))))).run Tryd.prog w = .ok (.bool false) w := eql_errs hE 5 4 (by omega) (by omega)
  have e5 : (binOp .eql 83 (.iface 124 (.pointer (some (E 5)))) (.iface 124 (.pointer (some (E 5))))).run Tryd.prog w = .ok (.bool true) w := eql_errs hE 5 5 (by omega) (by omega)
  clear h hE
  go_enter Tryd.func39, Tryd.ntmps39
  go_wp2
  go_ret
  exact ⟨rfl, rfl⟩

/-- code, in one -/
theorem code_any {base : Nat} {w : World} {E : Nat → Addr} (h : EnvC base w E) (c : Option Nat) (hc : ∀ k, c = some k → 1 ≤ k ∧ k ≤ 5) : Calls Tryd.prog 39 #[errV E c] w fun e w' => e = .returned (.int .i64 (codeI c)) ∧ w = w' := by
  cases c with
  | none => exact code_none w
  | some k =>
    obtain ⟨h1, h2⟩ := hc k rfl
    match k, h1, h2 with
    | 1, _, _ => exact code_1 h
    | 2, _, _ => exact code_2 h
    | 3, _, _ => exact code_3 h
    | 4, _, _ => exact code_4 h
    | 5, _, _ => exact code_5 h

/-- what Err makes of an error -/
def errOf : Option Nat → Option Nat
  | some 0 => none
  | c => c

set_option maxHeartbeats 400000 in
theorem err_some (B c : Nat) (w : World) (E : Nat → Addr) (base : Nat) (hE : ErrAt w E base) (hc7 : c < 7) (hc : w.cell? ⟨B, 7, none⟩ = some (.iface 124 (.pointer (some (E c))))) (hg : w.cell? ⟨6, 0, none⟩ = some (.iface 124 (.pointer (some (E 0))))) :
    Calls Tryd.prog 40 #[.pointer (some ⟨B, 0, none⟩)] w fun e w' => e = .returned (errV E (errOf (some c))) ∧ ∃ n, w' = w.drewN n := by
  have h1 := fun n => eql_errs_all hE c 0 n hc7 (by omega)
  cases c with
  | zero =>
    have hb : ((0 : Nat) == 0) = true := rfl
    simp only [hb] at h1
    go_enter Tryd.func40, Tryd.ntmps40
    go_wp2
    go_quiet (fail)
    go_wp2
    go_ret
    exact ⟨rfl, _, rfl⟩
  | succ c =>
    have hb : ((c + 1 : Nat) == 0) = false := rfl
    simp only [hb] at h1
    go_enter Tryd.func40, Tryd.ntmps40
    go_wp2
    go_quiet (fail)
    go_wp2
    go_ret
    exact ⟨rfl, _, rfl⟩

/-- Err of a scanner -/
theorem err_any {σ : Type} {cf : Cfg} {SI : σ → List Nat → World → Prop} {x : Sm σ} {tokv : Value} {called : Bool} {ba : Option Addr} {L : Nat} {own : List Nat} {w : World} (h : SOk cf SI x tokv called ba L own w) :
    Calls Tryd.prog 40 #[.pointer (some ⟨cf.B, 0, none⟩)] w fun e w' => e = .returned (errV cf.E (errOf x.err)) ∧ ∃ n, w' = w.drewN n := by
  obtain ⟨s, e, bytes, pa, pcs, pc, pl, bl, osp, h, rfl⟩ := h
  have h7 := h.c7
  have hg := h.r.hg
  cases hx : x.err with
  | none =>
    rw [hx] at h7
    exact err_nil cf.B w _ h7 hg.eof
  | some c =>
    rw [hx] at h7
    exact err_some cf.B c w cf.E cf.base hg.errs (h.r.herr c hx) h7 hg.eof
end Go.Proofs.YtkclapimgmnldaaDoor

/-
  A scanner that is asked to its end, its tokens thrown away; a row of anything beside a scanner.
-/
namespace Go.Proofs.YtkclapimgmnldaaDoor
set_option linter.unusedVariables false
set_option linter.unusedSimpArgs false
set_option maxRecDepth 20000
open Go.RowKit

/-- a row beside a scanner -/
def RowG (base : Nat) (own : List Nat) (w : World) (e : TypeId) (v : Value) (n : Nat) (xs : List Value) : Prop := w.ownsRow base e 1 v n xs ∧ ∀ k, v.ownBlock = some k → k ∉ own

theorem RowG.scan {base : Nat} {own own' : List Nat} {w w' : World} {e : TypeId} {v : Value} {n : Nat} {xs : List Value} (h : RowG base own w e v n xs) (ho : Off own w w') (hf : Fresh own own' w) : RowG base own' w' e v n xs := by
  obtain ⟨h1, h2⟩ := h
  refine ⟨?_, fun k hk hm => ?_⟩
  · obtain ⟨h3, h4⟩ := h1
    refine ⟨h3, ?_⟩
    rcases h4 with h4 | ⟨g, cap, cur, rfl, h5, h6, r⟩
    · exact .inl h4
    · have hlt : g < w.heap.size := by
        rcases Nat.lt_or_ge g w.heap.size with h | h
        · exact h
        · rw [Array.getElem?_eq_none h] at h6; cases h6
      exact .inr ⟨g, cap, cur, rfl, h5, (ho.block g hlt (h2 g rfl)).trans h6, r⟩
  · rcases hf k hm with h3 | h3
    · exact h2 k hk h3
    · have := (World.ownsRow.lt h1 k hk).2
      omega

section
variable {σ : Type} {cf : Cfg} {SI : σ → List Nat → World → Prop} {split : σ → List UInt8 → Bool → Ans σ} {ins : Bool} {x : Sm σ} {tokv : Value} {called : Bool} {ba : Option Addr} {L : Nat} {own : List Nat} {w : World}

theorem SOk.grow {fu : σ → Nat} (hs : SplitOK cf SI split ins fu) (h : SOk cf SI x tokv called ba L own w) {ob : Obj} {w1 : World} {row : Option Nat} (hw : (w.alloc ob).grownBy w1 row) (hrow : ∀ k, row = some k → cf.base ≤ k ∧ k ∉ own) : SOk cf SI x tokv called ba L own w1 := by
  have hb := h.base_le
  refine h.frame hs ?_ fun k hk => ?_
  · exact ((Below.refl _ _).alloc hb ob).grown hw (by simp; omega) fun k hk => (hrow k hk).1
  · have hlt := (h.lt k hk).2
    rw [hw.block k (by simp; omega) (fun e => (hrow k e.symm).2 hk)]
    exact Below.heap_alloc _ _ _ hlt
theorem Off.grow {own0 : List Nat} {w0 : World} (ho : Off own0 w0 w) {ob : Obj} {w1 : World} {row : Option Nat} (hw : (w.alloc ob).grownBy w1 row) (hrow : ∀ k, row = some k → w0.heap.size ≤ k) : Off own0 w0 w1 := by
  have hs := ho.size
  have hsz := hw.size
  simp at hsz
  refine ⟨hw.os.trans ho.os, hw.tape.trans ho.tape, hw.output.trans ho.output, by omega, fun k hk hn => ?_⟩
  rw [hw.block k (by simp; omega) (fun e => by have := hrow k e.symm; omega)]
  exact (Below.heap_alloc _ _ _ (by omega)).trans (ho.block k hk hn)
theorem RowG.push {base : Nat} (h : ∀ k, k ∈ own → k < w.heap.size) {e : TypeId} {v v' : Value} {n n' : Nat} {xs xs' : List Value} (hg : RowG base own w e v n xs) {ob : Obj} {w1 : World} (hr : w1.ownsRow base e 1 v' n' xs') (hat : v'.ownBlock = v.ownBlock ∨ v'.ownBlock = some (w.alloc ob).heap.size) : RowG base own w1 e v' n' xs' := by
  refine ⟨hr, fun k hk hm => ?_⟩
  rcases hat with h1 | h1
  · rw [h1] at hk; exact hg.2 k hk hm
  · rw [h1] at hk
    have := h k hm
    simp at hk
    omega

/-- the loop's invariant -/
def DrainI (cf : Cfg) (SI : σ → List Nat → World → Prop) (split : σ → List UInt8 → Bool → Ans σ) (P : List (List UInt8) → Sm σ → Prop) (own0 : List Nat) (w0 : World) (n : Nat) (w : World) : Prop :=
  ∃ x tokv called ba L own ts, SOk cf SI x tokv called ba L own w ∧ x.emp ≤ 100 ∧ (x.done = true → called = true) ∧ Off own0 w0 w ∧ Fresh own0 own w0 ∧ Runs split cf.lim cf.tog cf.endE P n x ts
/-- what it leaves -/
def Drained (cf : Cfg) (SI : σ → List Nat → World → Prop) (P : List (List UInt8) → Sm σ → Prop) (own0 : List Nat) (w0 : World) (w : World) : Prop :=
  ∃ x tokv ba L own ts, SOk cf SI x tokv true ba L own w ∧ x.emp ≤ 100 ∧ Off own0 w0 w ∧ Fresh own0 own w0 ∧ P ts x

theorem drain_start (h : SOk cf SI x tokv called ba L own w) (hemp : x.emp ≤ 100) (hdc : x.done = true → called = true) {P : List (List UInt8) → Sm σ → Prop} {n : Nat} (hr : Runs split cf.lim cf.tog cf.endE P n x []) : DrainI cf SI split P own w n w :=
  ⟨x, tokv, called, ba, L, own, [], h, hemp, hdc, Off.refl _ _, Fresh.refl _ _, hr⟩

/-- one more call of Scan: the end, or the invariant again -/
def DrainPost (cf : Cfg) (SI : σ → List Nat → World → Prop) (split : σ → List UInt8 → Bool → Ans σ) (P : List (List UInt8) → Sm σ → Prop) (own0 : List Nat) (w0 : World) (n : Nat) (e : Ending) (w : World) : Prop :=
  (e = .returned (.bool false) ∧ Drained cf SI P own0 w0 w) ∨ ∃ m, n = m + 1 ∧ e = .returned (.bool true) ∧ DrainI cf SI split P own0 w0 m w
theorem drain_scan (hs : SplitOK cf SI split ins) {P : List (List UInt8) → Sm σ → Prop} {own0 : List Nat} {w0 : World} {n : Nat} (h : DrainI cf SI split P own0 w0 n w) :
    Calls Tryd.prog 47 #[.pointer (some ⟨cf.B, 0, none⟩)] w (DrainPost cf SI split P own0 w0 n) := by
  obtain ⟨x, tokv, called, ba, L, own1, ts, h, hemp, hdc, ho, hf, hr⟩ := h
  refine (scan_any hs own1 h hemp hdc).mono ?_
  rintro en w2 ⟨o, x', tokv', ba', L', own2, hscan, hok, ho1, hf1, hret, hpan⟩
  rcases hr.step hscan with ⟨rfl, hP⟩ | ⟨t, m, rfl, rfl, hr'⟩
  · obtain ⟨rfl, -, -⟩ := hret _ rfl
    exact .inl ⟨rfl, x', tokv', ba', L', own2, ts, hok, scan_emp hscan hemp, ho.trans ho1 hf, hf.trans hf1 ho.size, hP⟩
  · obtain ⟨rfl, -, -⟩ := hret _ rfl
    exact .inr ⟨m, rfl, rfl, x', tokv', true, ba', L', own2, ts ++ [t], hok, scan_emp hscan hemp, fun _ => rfl, ho.trans ho1 hf, hf.trans hf1 ho.size, hr'⟩
end

theorem info_bool : (Tryd.prog.info? 4).map (fun i => (i.zero, i.size, i.bytes)) = some (some (.bool false), 1, 1) := by kernel_rfl

/-- a slice of so many falses that the call made -/
def FalsesAt (base : Nat) (w : World) (v : Value) (n : Nat) : Prop := w.ownsRow base 4 1 v n (List.replicate n (.bool false))
/-- what LinesAfter gives -/
def AfterPost (n : Int) (pl : List Nat) (w : World) (e : Ending) (w' : World) : Prop := ∃ v, e = .returned v ∧ FalsesAt w.heap.size w' v n.toNat ∧ Off pl w w'
end Go.Proofs.YtkclapimgmnldaaDoor

/-
  impl.LinesFrom: the tokens and the error's number, whatever the source and the room.
-/
namespace Go.Proofs.YtkclapimgmnldaaDoor
set_option linter.unusedVariables false
set_option linter.unusedSimpArgs false
set_option maxRecDepth 20000
open Go.RowKit

/-- the two boxes of the arguments -/
abbrev boxV (w : World) (s : ByteArray) (pa : Option Addr) (pn pc : Nat) (tog broken d : Bool) (c m : Int) : World :=
  (w.alloc (.cells #[.string s, .slice pa pn pc, .bool tog, .bool broken] 38)).alloc (.cells #[.bool d, .int .i64 c, .int .i64 m] 40)
theorem boxV_below (w : World) (s : ByteArray) (pa : Option Addr) (pn pc : Nat) (tog broken d : Bool) (c m : Int) : Below w.heap.size w (boxV w s pa pn pc tog broken d c m) := ((Below.refl _ _).alloc (Nat.le_refl _) _).alloc (by simp) _
theorem pcs_on {base : Nat} {w w' : World} {pa : Option Addr} {pcs : List Int} {pc : Nat} {pl : List Nat} (h : PcsAt base w pa pcs pc pl) (hb : Below w.heap.size w w') : PcsAt base w' pa pcs pc pl :=
  ⟨fun i x hx => by
    obtain ⟨b, o, e, hm, hc⟩ := h.hp i x hx
    exact ⟨b, o, e, hm, (hb.cell (p := ⟨b, o + i, Option.none⟩) (h.hlt b hm).2).trans hc⟩, h.hpc, h.hnd, fun k hk => ⟨(h.hlt k hk).1, Nat.lt_of_lt_of_le (h.hlt k hk).2 hb.size⟩⟩
theorem off_box {pl : List Nat} {w w1 w2 : World} (hb : Below w.heap.size w w1) (h : Off pl w1 w2) : Off pl w w2 :=
  ⟨h.os.trans hb.os, h.tape.trans hb.tape, h.output.trans hb.output, Nat.le_trans hb.size h.size, fun k hk hn => (h.block k (Nat.lt_of_lt_of_le hk hb.size) hn).trans (hb.block k hk)⟩

/-- what LinesFrom gives -/
def FromPost (xs : List (List UInt8)) (cd : Int) (pl : List Nat) (w : World) (e : Ending) (w' : World) : Prop := ∃ v, e = .returned (.tuple #[v, .int .i64 cd]) ∧ StrsAt w.heap.size w' v xs ∧ Off pl w w'

section
variable {base : Nat} {w : World} {E : Nat → Addr} {s : ByteArray} {pa : Option Addr} {pcs : List Int} {pc : Nat} {pl : List Nat} {tog : Bool} {c m : Int}



end
end Go.Proofs.YtkclapimgmnldaaDoor
