/-
  The thin package's reader: what one call of Read hands out.
-/
import Derived.Test.YtkclapimgmnldaaDoorBase
import Derived.Lib.BufferWrite
import Derived.Lib.MinMax
namespace Go.Proofs.YtkclapimgmnldaaDoor
set_option linter.unusedVariables false
set_option linter.unusedSimpArgs false
set_option maxRecDepth 20000
open Go.RowKit

set_option maxHeartbeats 400000 in
theorem read_end (R : Nat) (p : Value) (t : TypeId) (y : Value) (w : World) (h0 : w.cell? ⟨R, 0, none⟩ = some (.string ⟨#[]⟩)) (h3 : w.cell? ⟨R, 3, none⟩ = some (.iface t y)) :
    Calls Tryd.prog 79 #[.pointer (some ⟨R, 0, none⟩), p] w fun en w' => en = .returned (.tuple #[.int .i64 0, .iface t y]) ∧ ∃ n, w' = w.drewN n := by
  go_enter Tryd.func79, Tryd.ntmps79
  go_wp2
  go_quiet (fail)
  go_wp2
  go_ret2
  exact ⟨rfl, _, rfl⟩

theorem info_u8 : (Tryd.prog.info? 5).map (·.size) = some 1 := by kernel_rfl

/-- copy out of a string, as many bytes as there is room for -/
theorem run_copy_str (w : World) (g o dLen dCap n : Nat) (s : ByteArray) (cur : Array Value) (t : TypeId)
    (hg : w.heap[g]? = some (.cells cur t (0, 0))) (hn : n = Nat.min s.size dLen) (hfit : o + n ≤ cur.size) :
    (Builtin.copy_ #[101, 9] 3 #[.slice (some ⟨g, o, none⟩) dLen dCap, .string s]).run Tryd.prog w =
      .ok (.int .i64 (n : Int)) (w.setRow g (cur.toList.take o ++ (s.data.toList.take n).map bv ++ cur.toList.drop (o + n)).toArray) := by
  have hsz : s.data.toList.length = s.size := by rw [Array.length_toList]; rfl
  have hlen : ((s.data.toList.take n).map bv).length = n := by
    rw [List.length_map, List.length_take, hsz]; exact Nat.min_eq_left (by rw [hn]; exact Nat.min_le_left _ _)
  have hst := run_storeCells_at Tryd.prog g o t ((s.data.toList.take n).map bv) 0 cur w hg (by rw [hlen]; simpa using hfit) (fun v hv => by
    simp only [List.mem_map] at hv
    obtain ⟨b, _, rfl⟩ := hv
    rfl)
  rw [hlen] at hst
  simp only [Nat.add_zero] at hst
  have htk : List.take n (List.map (fun b : UInt8 => Value.int IntKind.u8 (b.toNat : Int)) s.data.toList) = (s.data.toList.take n).map bv := by
    rw [← List.map_take]
  obtain ⟨i, hq, hi⟩ := Option.map_eq_some_iff.1 info_u8
  simp [Builtin.copy_, run_underlying Tryd.underlying101, Builtin.lenOf, Builtin.firstCells, sizeOf, typeInfo, hq, ← hn]
  rw [htk, hst]
  simp [Result.andThen, goInt]

theorem heap_setCell_ne (w : World) {g k i : Nat} (h : k ≠ g) (v : Value) : (w.setCell ⟨g, i, none⟩ v).heap[k]? = w.heap[k]? := Below.heap_setCell w ⟨g, i, none⟩ v k h

/-- the row behind a read -/
def rowOf (cur : Array Value) (o n : Nat) (s : ByteArray) : Array Value := (cur.toList.take o ++ (s.data.toList.take n).map bv ++ cur.toList.drop (o + n)).toArray
/-- the error that comes with a read -/
def readErr (tog b : Bool) (y : Value) : Value := if tog && b then y else .nilIface

def PiecePost (w : World) (R D : Nat) (row : Array Value) (s : ByteArray) (n pn pb po pc : Nat) (ev : Value) (en : Ending) (w' : World) : Prop :=
  en = .returned (.tuple #[.int .i64 (n : Int), ev]) ∧
    ∃ pa', (pn = 0 ∨ pa' = some ⟨pb, po + 1, none⟩) ∧ ∃ q, w' = (((w.setCell ⟨R, 1, none⟩ (.slice pa' pn (pc - 1))).setRow D row).setCell ⟨R, 0, none⟩ (.string (s.extract n s.size))).drewN q

section
variable (R D o k c n : Nat) (s : ByteArray) (tog b : Bool) (t : TypeId) (y : Value) (w : World)

set_option maxHeartbeats 1000000 in
theorem read_plain (h0 : w.cell? ⟨R, 0, none⟩ = some (.string s)) (pa : Option Addr) (pc : Nat) (h1 : w.cell? ⟨R, 1, none⟩ = some (.slice pa 0 pc)) (h2 : w.cell? ⟨R, 2, none⟩ = some (.bool tog))
    (h3 : w.cell? ⟨R, 3, none⟩ = some (.iface t y)) (hne : s.toList.isEmpty = false) (hf : ∀ o, w.frozen? ⟨R, o, none⟩ = false)
    (hRD : R ≠ D) (cur : Array Value) (hD : w.heap[D]? = some (.cells cur 5 (0, 0))) (hn : n = Nat.min s.size k) (hfit : o + n ≤ cur.size) (hns : n ≤ s.size) (_hs : s.size ≤ 140737488355328) (hb : (s.extract n s.size).toList.isEmpty = b) :
    Calls Tryd.prog 79 #[.pointer (some ⟨R, 0, none⟩), .slice (some ⟨D, o, none⟩) k c] w fun en w' => en = .returned (.tuple #[.int .i64 (n : Int), readErr tog b (.iface t y)]) ∧
      ∃ q, w' = ((w.setRow D (rowOf cur o n s)).setCell ⟨R, 0, none⟩ (.string (s.extract n s.size))).drewN q := by
  have HC : ∀ w' : World, w'.heap[D]? = some (.cells cur 5 (0, 0)) → (Builtin.copy_ #[101, 9] 3 #[.slice (some ⟨D, o, none⟩) k c, .string s]).run Tryd.prog w' = .ok (.int .i64 (n : Int)) (w'.setRow D (rowOf cur o n s)) :=
    fun w' h => run_copy_str w' D o k c n s cur 5 h hn hfit
  have HC := Lib.hid HC
  have HD := Lib.hid hD
  generalize rowOf cur o n s = row at HC ⊢
  clear hn hD hfit
  have hcell : ∀ cs i, (w.setRow D cs).cell? ⟨R, i, none⟩ = w.cell? ⟨R, i, none⟩ := fun cs i => World.cell?_of_block (a := ⟨R, i, none⟩) (setRow_other w D R cs hRD)
  have hfz : ∀ cs i, (w.setRow D cs).frozen? ⟨R, i, none⟩ = w.frozen? ⟨R, i, none⟩ := fun cs i => World.frozen?_of_block (a := ⟨R, i, none⟩) (setRow_other w D R cs hRD)
  go_enter Tryd.func79, Tryd.ntmps79
  cases tog <;> cases b
  all_goals
    go_wp2_with fail
    rw [HC.out _ HD.out]
    go_wp2_with fail
    try (go_quiet (fail); go_wp2_with fail)
    go_ret2
    first | exact ⟨rfl, 0, rfl⟩ | exact ⟨rfl, _, rfl⟩

set_option maxHeartbeats 1000000 in
theorem read_piece (h0 : w.cell? ⟨R, 0, none⟩ = some (.string s)) (pb po pn pc : Nat) (q : Int) (h1 : w.cell? ⟨R, 1, none⟩ = some (.slice (some ⟨pb, po, none⟩) (pn + 1) pc)) (hq : w.cell? ⟨pb, po, none⟩ = some (.int .i64 q)) (h2 : w.cell? ⟨R, 2, none⟩ = some (.bool tog))
    (hpc : pn + 1 ≤ pc) (hpc2 : pc ≤ 9223372036854775807) (hk : 1 ≤ k) (hkc : k ≤ c) (_hc : c ≤ 4194304)
    (h3 : w.cell? ⟨R, 3, none⟩ = some (.iface t y)) (hne : s.toList.isEmpty = false) (hf : ∀ o, w.frozen? ⟨R, o, none⟩ = false)
    (hRD : R ≠ D) (cur : Array Value) (hD : w.heap[D]? = some (.cells cur 5 (0, 0))) (m : Nat) (hm : (m : Int) = min (k : Int) (max 1 q)) (hn : n = Nat.min s.size m) (hfit : o + n ≤ cur.size) (hns : n ≤ s.size) (_hs : s.size ≤ 140737488355328) (hb : (s.extract n s.size).toList.isEmpty = b) :
    Calls Tryd.prog 79 #[.pointer (some ⟨R, 0, none⟩), .slice (some ⟨D, o, none⟩) k c] w (PiecePost w R D (rowOf cur o n s) s n pn pb po pc (readErr tog b (.iface t y))) := by
  have HC : ∀ w' : World, w'.heap[D]? = some (.cells cur 5 (0, 0)) → (Builtin.copy_ #[101, 9] 3 #[.slice (some ⟨D, o, none⟩) m c, .string s]).run Tryd.prog w' = .ok (.int .i64 (n : Int)) (w'.setRow D (rowOf cur o n s)) :=
    fun w' h => run_copy_str w' D o m c n s cur 5 h hn hfit
  have HC := Lib.hid HC
  have HD := Lib.hid hD
  generalize rowOf cur o n s = row at HC ⊢
  have hmk : m ≤ k := by omega
  have hm1 : 1 ≤ m := by omega
  have hm' : min (k : Int) (max 1 q) = (m : Int) := hm.symm
  clear hn hD hfit hm
  have hcell : ∀ v cs i, ((w.setCell ⟨R, 1, none⟩ v).setRow D cs).cell? ⟨R, i, none⟩ = (w.setCell ⟨R, 1, none⟩ v).cell? ⟨R, i, none⟩ := fun v cs i => World.cell?_of_block (a := ⟨R, i, none⟩) (setRow_other _ D R cs hRD)
  have hfz : ∀ v cs i, ((w.setCell ⟨R, 1, none⟩ v).setRow D cs).frozen? ⟨R, i, none⟩ = w.frozen? ⟨R, i, none⟩ := fun v cs i => (World.frozen?_of_block (a := ⟨R, i, none⟩) (setRow_other _ D R cs hRD)).trans (World.frozen?_setCell ..)
  have HD2 := Lib.hid fun v => (heap_setCell_ne w (g := R) (k := D) (i := 1) (Ne.symm hRD) v).trans HD.out
  go_enter Tryd.func79, Tryd.ntmps79
  by_cases hp1 : pc = 1
  · subst hp1
    obtain rfl : pn = 0 := by omega
    cases tog <;> cases b
    all_goals
      go_wp2_with fail
      rw [HC.out _ (HD2.out _)]
      go_wp2_with fail
      try (go_quiet (fail); go_wp2_with fail)
      go_ret2
      refine ⟨rfl, some ⟨pb, po, none⟩, Or.inl rfl, ?_⟩
      first | exact ⟨0, rfl⟩ | exact ⟨_, rfl⟩
  · cases tog <;> cases b
    all_goals
      go_wp2_with fail
      rw [HC.out _ (HD2.out _)]
      go_wp2_with fail
      try (go_quiet (fail); go_wp2_with fail)
      go_ret2
      refine ⟨rfl, some ⟨pb, po + 1, none⟩, Or.inr rfl, ?_⟩
      first | exact ⟨0, rfl⟩ | exact ⟨_, rfl⟩
end
end Go.Proofs.YtkclapimgmnldaaDoor
