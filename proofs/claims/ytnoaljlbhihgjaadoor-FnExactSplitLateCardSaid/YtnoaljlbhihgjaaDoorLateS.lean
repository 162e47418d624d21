/-
  impl.SplitLate: Split panics exactly if scanning has started.
-/
import Derived.Test.YtnoaljlbhihgjaaDoorGive
import Derived.Test.YtnoaljlbhihgjaaDoorSplit
import Derived.Defers
import Derived.Recover
import Derived.Stop.IfaceNil
namespace Go.Proofs.YtnoaljlbhihgjaaDoor
set_option linter.unusedVariables false
set_option linter.unusedSimpArgs false
set_option maxRecDepth 20000
open Go.RowKit

theorem anyIface : Tryd.prog.isIface 20 = true := by kernel_rfl

theorem late_panicking (p : Addr) (b : Bool) (u : TypeId) (pv : Value) (older : List PanicEntry) (w : World) (hc : w.cell? p = some (.bool b)) (hz : w.frozen? p = false) :
    CallsD Tryd.prog 46 #[.pointer (some p)] (.panicking ({ v := .iface u pv, recovered := false } :: older)) w fun e u' w' =>
      e = .returned (.tuple #[]) ∧ u' = .panicking ({ v := .iface u pv, recovered := true } :: older) ∧ w' = w.setCell p (.bool true) := by
  have h1 := run_neq_iface_nil (P := Tryd.prog) w 20 anyIface u pv
  refine callsD_of_wpS Tryd.func46 rfl fun c₀ cs hu => ?_
  apply wpS_region
  simp [wpOpsS, go_sem, recoverD, hu, Tryd.ntmps46, Exit.thenS, h1, hc, hz, bodyPostS, results, Tryd.results46]

theorem late_idle (p : Addr) (b : Bool) (w : World) (hc : w.cell? p = some (.bool b)) (hz : w.frozen? p = false) :
    CallsD Tryd.prog 46 #[.pointer (some p)] .returning w fun e u' w' => e = .returned (.tuple #[]) ∧ u' = .returning ∧ w' = w.setCell p (.bool false) := by
  have h1 := run_neq_nil_nil_at (P := Tryd.prog) w 20 anyIface
  refine callsD_of_wpS Tryd.func46 rfl fun c₀ cs hu => ?_
  apply wpS_region
  simp [wpOpsS, go_sem, recoverD, hu, Tryd.ntmps46, Exit.thenS, h1, hc, hz, bodyPostS, results, Tryd.results46]
  cases c₀
  simp_all

/-- Split, behind the beginning of scanning -/
theorem split_late (B : Nat) (fn : Fn) (first cap : Array Value) (w : World) (hc : w.cell? ⟨B, 9, none⟩ = some (.bool true)) :
    Calls Tryd.prog 37 #[.pointer (some ⟨B, 0, none⟩), .func fn first cap] w fun e w' => (∃ y, e = .panicked [{ v := .iface 9 y, recovered := false }]) ∧ w = w' := by
  go_enter Tryd.func37, Tryd.ntmps37
  go_wp2
  exact ⟨rfl, ⟨_, rfl⟩, rfl⟩

/-- the scanner while the calls go on -/
def LateI (cf : Cfg) (own0 : List Nat) (w0 : World) (n0 m : Int) (w : World) : Prop :=
  ∃ x tokv called ba L own, SOk cf noMem x tokv called ba L own w ∧ x.emp ≤ 100 ∧ (x.done = true → called = true) ∧ Off own0 w0 w ∧ Fresh own0 own w0 ∧ ((called = false ∧ m = n0) ∨ (called = true ∧ 0 ≤ m ∧ 0 < n0))

theorem scan_lines_live {lim : Nat} {tog : Bool} {endE : Nat} {x x' : Sm Unit} {o : Out} (h : Sm.Scan splitLines lim tog endE x o x') : ∃ o', o = some o' := by
  rcases h with ⟨_, rfl, _⟩ | ⟨_, k, h⟩
  · exact ⟨none, rfl⟩
  · cases o with
    | none => exact absurd rfl (lines_live lim tog endE k x none x' h)
    | some o' => exact ⟨o', rfl⟩

/-- what BufferLate gives -/
def LatePost (b : Bool) (w : World) (e : Ending) (w' : World) : Prop := e = .returned (.bool b) ∧ Below w.heap.size w w'

theorem late_below {w wr : World} {o : Obj} (h : Below (w.heap.size + 1) (w.alloc o) wr) : Below w.heap.size w wr := ((Below.refl _ _).alloc (Nat.le_refl _) o).trans (h.mono (by omega))

/-- at the door: Buffer has returned -/
theorem late_door0 {w W3 : World} {n : Int} {tmps : Array Value} (hW : Below w.heap.size w W3) (hc : W3.heap[w.heap.size]? = some (.cells #[.bool false] 4 (0, 0))) (hn : decide (0 < n) = false) (h8 : tmps.getD 4 undef = .pointer (some ⟨w.heap.size, 0, none⟩) := by rfl) :
    bodyPostD Tryd.prog Tryd.f29 (LatePost (decide (0 < n)) w) Exit.ret { tmps := tmps, defers := [{ target := .fn (.func 46) #[.pointer (some ⟨w.heap.size, 0, none⟩)], args := #[] }] } W3 := by
  have hcell : W3.cell? ⟨w.heap.size, 0, none⟩ = some (.bool false) := cell_of_heap hc
  refine leaves_cons (f := 46) (args := #[.pointer (some ⟨w.heap.size, 0, none⟩)]) (by simp) (by simp [go_sem]) ?_
  refine (late_idle ⟨w.heap.size, 0, none⟩ false _ hcell (frozen_of_heap hc 0)).mono ?_
  rintro e u' w'' ⟨rfl, rfl, rfl⟩
  have hlt : w.heap.size < W3.heap.size := World.block_lt_of_cell? W3 _ hcell
  have hl : (W3.setCell ⟨w.heap.size, 0, none⟩ (.bool false)).cell? ⟨w.heap.size, 0, none⟩ = some (.bool false) := cell_of_heap (heap_setCell_at hc _)
  have hP : LatePost (decide (0 < n)) w (.returned (.bool false)) (W3.setCell ⟨w.heap.size, 0, none⟩ (.bool false)) := ⟨by rw [hn], hW.setCell (Nat.le_refl _) _⟩
  have h8' : tmps[4]?.getD undef = .pointer (some ⟨w.heap.size, 0, none⟩) := by simpa using h8
  simp [Leaves, settle, results, Tryd.results29, go_sem, h8', hl, hP]
theorem late_door1 {w W3 : World} {n : Int} {y : Value} {tmps : Array Value} (hW : Below w.heap.size w W3) (hc : W3.heap[w.heap.size]? = some (.cells #[.bool false] 4 (0, 0))) (hn : decide (0 < n) = true) (h8 : tmps.getD 4 undef = .pointer (some ⟨w.heap.size, 0, none⟩) := by rfl) :
    bodyPostD Tryd.prog Tryd.f29 (LatePost (decide (0 < n)) w) (Exit.panic [{ v := .iface 9 y, recovered := false }]) { tmps := tmps, defers := [{ target := .fn (.func 46) #[.pointer (some ⟨w.heap.size, 0, none⟩)], args := #[] }] } W3 := by
  have hcell : W3.cell? ⟨w.heap.size, 0, none⟩ = some (.bool false) := cell_of_heap hc
  refine leaves_cons (f := 46) (args := #[.pointer (some ⟨w.heap.size, 0, none⟩)]) (by simp) (by simp [go_sem]) ?_
  refine (late_panicking ⟨w.heap.size, 0, none⟩ false _ _ [] _ hcell (frozen_of_heap hc 0)).mono ?_
  rintro e u' w'' ⟨rfl, rfl, rfl⟩
  have hl : (W3.setCell ⟨w.heap.size, 0, none⟩ (.bool true)).cell? ⟨w.heap.size, 0, none⟩ = some (.bool true) := cell_of_heap (heap_setCell_at hc _)
  have hP : LatePost (decide (0 < n)) w (.returned (.bool true)) (W3.setCell ⟨w.heap.size, 0, none⟩ (.bool true)) := ⟨by rw [hn], hW.setCell (Nat.le_refl _) _⟩
  have h8' : tmps[4]?.getD undef = .pointer (some ⟨w.heap.size, 0, none⟩) := by simpa using h8
  simp [Leaves, settle, results, Tryd.results29, go_sem, h8', hl, hP]

section
variable {base : Nat} {w : World} {E : Nat → Addr} {s : ByteArray}
set_option maxRecDepth 100000 in
set_option maxHeartbeats 1000000 in
theorem splitLate_any (n : Int) (hE : Env base w E) (hs : s.size ≤ 140737488355328) (hn : n ≤ 9223372036854775807) (hn0 : -9223372036854775808 ≤ n) :
    Calls Tryd.prog 29 #[.string s, .int .i64 n] w (LatePost (decide (0 < n)) w) := by
  have hmf : ∀ (fn : Fn) (first cap : Array Value) (w : World), (Instr.makeFunc fn first cap).run Tryd.prog w = .ok (.func fn first cap) w := fun _ _ _ _ => rfl
  have hE1 : Env base (w.alloc (.cells #[.bool false] 4)) E := hE.later ((Below.refl _ _).alloc (Nat.le_refl _) _)
  have HS := Lib.hid (scanner_any (s := s) (pa := none) (pcs := []) (pc := 0) (tog := false) (c := 0) (m := 0) true false hE1 (PcsAt.none base _) (by omega) rfl)
  clear hE hE1
  go_enter_defers Tryd.func29, Tryd.ntmps29
  go_wp2_with fail
  refine HS.out.mono ?_
  rintro e w1 ⟨ba, L, own, rfl, hok, hb, hown⟩
  have hso : SplitOK (newCf E base (w.alloc (.cells #[.bool false] 4)).heap.size false false true 0 0) noMem splitLines true := lines_ok _ rfl rfl rfl
  have HSO := Lib.hid hso
  have HT := Lib.hid (show LateI (newCf E base (w.alloc (.cells #[.bool false] 4)).heap.size false false true 0 0) own w1 (min n 1000) (min n 1000) w1 from ⟨_, _, _, _, _, _, hok, by simp, by simp, Off.refl _ _, Fresh.refl _ _, .inl ⟨rfl, rfl⟩⟩)
  have hcB : (newCf E base (w.alloc (.cells #[.bool false] 4)).heap.size false false true 0 0).B = w.heap.size + 5 := by simp
  have HCB := Lib.hid hcB
  have hwB : ∀ w2, Off own w1 w2 → Below (w.heap.size + 1) (w.alloc (.cells #[.bool false] 4)) w2 := fun w2 ho => by
    have := off_nil (off_new hb hown ho)
    simpa using this
  have HWB := Lib.hid hwB
  clear hok hb hown HS hso hcB hwB
  generalize newCf E base (w.alloc (.cells #[.bool false] 4)).heap.size false false true 0 0 = cf at *
  go_wp2_with fail
  go_loopw [6] (fun i wr => ∃ k : Int, i = .int .i64 k ∧ k ≤ 1000 ∧ LateI cf own w1 (min n 1000) k wr) (fun i _ => (intOf i).toNat)
  case atStart => exact ⟨_, rfl, by omega, HT.out⟩
  case round =>
    obtain ⟨k, rfl, hk, x, tokv, called, ba, L, own1, h, hemp, hdc, ho, hf, hcl⟩ := hrel
    by_cases hk0 : 0 < k
    · have hC := scan_any HSO.out own1 h hemp hdc
      rw [HCB.out] at hC
      have HC := Lib.hid hC
      have hcl' : 0 < min n 1000 := by rcases hcl with ⟨_, h1⟩ | ⟨_, _, h1⟩ <;> omega
      have HH := Lib.hid (And.intro hemp (And.intro ho (And.intro hf hcl')))
      clear h hemp hdc ho hf hcl HT hC hcl'
      go_wp2_with fail
      refine HC.out.mono ?_
      rintro en w2 ⟨o, x', tokv', ba', L', own2, hscan, hok, ho1, hf1, hret, hpan⟩
      obtain ⟨hemp, ho, hf, hcl⟩ := HH.out
      obtain ⟨o', rfl⟩ := scan_lines_live hscan
      obtain ⟨rfl, -, -⟩ := hret _ rfl
      have HI := Lib.hid (show LateI cf own w1 (min n 1000) (k - 1) w2 from ⟨x', tokv', true, ba', L', own2, hok, scan_emp hscan hemp, fun _ => rfl, ho.trans ho1 hf, hf.trans hf1 ho.size, .inr ⟨rfl, by omega, hcl⟩⟩)
      clear hscan hok ho1 hf1 hret hpan hemp ho hf hcl HC HH
      go_wp2_with fail
      go_roundw
      case rel => exact ⟨k - 1, rfl, by omega, HI.out⟩
      case measure => simp [intOf]; omega
    · have hfr : wr.frozen? ⟨w.heap.size, 0, none⟩ = false := by
        have := (HWB.out wr ho).frozen (p := ⟨w.heap.size, 0, none⟩) (by simp)
        rw [this]
        exact frozen_of_heap (heap_new w _) 0
      have hcell : wr.cell? ⟨w.heap.size, 0, none⟩ = some (.bool false) := by
        have := (HWB.out wr ho).cell (p := ⟨w.heap.size, 0, none⟩) (by simp)
        rw [this]
        exact cell_of_heap (heap_new w _)
      have hlt : w.heap.size < wr.heap.size := by have := (HWB.out wr ho).size; simp at this; omega
      obtain ⟨s0, e0, bytes, pa, pcs, pc, pl, bl, osp, hI, rfl⟩ := h
      have h9 := hI.c9
      have hB := hI.hB
      rw [HCB.out] at h9 hB
      have hBlt : w.heap.size + 5 < wr.heap.size := World.block_lt_of_cell? wr _ h9
      have HWR := Lib.hid (HWB.out wr ho)
      rcases hcl with ⟨rfl, h1⟩ | ⟨rfl, _, h1⟩
      · have hn1 : decide (0 < n) = false := by rw [decide_eq_false_iff_not]; omega
        have HN1 := Lib.hid hn1
        have HBF := Lib.hid (split_any (w.heap.size + 5) (.func 38) #[] #[] wr h9 (frozen_of_heap hB) ⟨_, cell_of_heap hB⟩)
        clear hI hB h9 hemp hdc ho hf HT hn1 h1
        go_wp2_with fail
        refine HBF.out.mono ?_
        rintro e w2 ⟨rfl, rfl⟩
        go_wp2_with fail
        have hbw := late_below (w := w) HWR.out
        have hW := ((hbw.setCell (p := ⟨w.heap.size + 5, 1, none⟩) (by simp) (.func (.func 38) #[] #[])).setCell (p := ⟨w.heap.size, 0, none⟩) (Nat.le_refl _) (.bool false))
        have hwc : ((wr.setCell ⟨w.heap.size + 5, 1, none⟩ (.func (.func 38) #[] #[])).setCell ⟨w.heap.size, 0, none⟩ (.bool false)).heap[w.heap.size]? = some (.cells #[.bool false] 4 (0, 0)) := by
          rw [heap_setCell_at (c := #[.bool false]) (t := 4) (fz := (0, 0))]
          · rfl
          · rw [heap_setCell_not (by omega)]
            exact (HWR.out.block _ (by omega)).trans (heap_new w _)
        generalize ((wr.setCell ⟨w.heap.size + 5, 1, none⟩ (.func (.func 38) #[] #[])).setCell ⟨w.heap.size, 0, none⟩ (.bool false)) = W3 at hW hwc ⊢
        exact late_door0 hW hwc HN1.out
      · have hn1 : decide (0 < n) = true := by rw [decide_eq_true_eq]; omega
        have HN1 := Lib.hid hn1
        have HBF := Lib.hid (split_late (w.heap.size + 5) (.func 38) #[] #[] wr h9)
        clear hI hB hemp hdc ho hf HT hn1 h1 h9
        go_wp2_with fail
        refine HBF.out.mono ?_
        rintro e w2 ⟨⟨y, rfl⟩, rfl⟩
        go_wp2_with fail
        have hbw := late_below (w := w) HWR.out
        have hwc : wr.heap[w.heap.size]? = some (.cells #[.bool false] 4 (0, 0)) := (HWR.out.block _ (by omega)).trans (heap_new w _)
        exact late_door1 hbw hwc HN1.out
end
end Go.Proofs.YtnoaljlbhihgjaaDoor
