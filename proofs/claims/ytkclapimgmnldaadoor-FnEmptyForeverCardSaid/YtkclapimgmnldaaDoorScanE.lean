/-
  Scan's piece that finds the buffer full: the error, or a new buffer.
-/
import Derived.Test.YtkclapimgmnldaaDoorScanD
namespace Go.Proofs.YtkclapimgmnldaaDoor
set_option linter.unusedVariables false
set_option linter.unusedSimpArgs false
set_option maxRecDepth 20000
open Go.RowKit

section
variable (B s e L : Nat) (ba : Option Addr) (a : Act) (w : World) (Q : Exit → Act → World → Prop)

set_option maxRecDepth 100000 in
set_option maxHeartbeats 1000000 in
theorem m4_skip (hF : Fr B a) (h4 : w.cell? ⟨B, 4, none⟩ = some (.slice ba L L)) (h6 : w.cell? ⟨B, 6, none⟩ = some (.int .i64 (e : Int))) (he : e ≠ L)
    (hn : ∀ a' n, Fr B a' → Q .normal a' (w.drewN n)) : Code.wp Tryd.prog m4 Q a w := by
  obtain ⟨_, _, _, _, f, rfl⟩ := hF
  have HN := Lib.hid hn
  clear hn
  have hd1 : ((e : Int) == (L : Int)) = false := by rw [beq_eq_false_iff_ne]; omega
  conv => arg 2; whnf
  unfold fr
  go_wp2
  go_quiet (fail)
  go_wp2
  exact HN.out _ _ (Fr.of _ _ rfl rfl rfl)

set_option maxRecDepth 100000 in
set_option maxHeartbeats 1000000 in
theorem m4_long (mx : Int) (E : Nat → Addr) (base : Nat) (hF : Fr B a) (h2 : w.cell? ⟨B, 2, none⟩ = some (.int .i64 mx)) (h4 : w.cell? ⟨B, 4, none⟩ = some (.slice ba L L)) (h6 : w.cell? ⟨B, 6, none⟩ = some (.int .i64 (L : Int)))
    (h7 : w.cell? ⟨B, 7, none⟩ = some (errV E none)) (hf : ∀ o, w.frozen? ⟨B, o, none⟩ = false) (hg : Glob w E base) (hm : mx ≤ (L : Int))
    (hret : ∀ a' n, Fr B a' → a'.tmps[2]? = some (.bool false) → Q .ret a' ((errW w B E none 1).drewN n)) : Code.wp Tryd.prog m4 Q a w := by
  obtain ⟨_, _, _, _, f, rfl⟩ := hF
  have HR := Lib.hid hret
  have HC := Lib.hid fun q => setErr_any B 1 (w.drewN q) E base none (hg.below (below_drewN (Below.refl _ _) q)) (fun _ h => by cases h) h7 (hf 7)
  have ht := hg.tooLong
  clear hret hg h7
  have hd1 : ((L : Int) == (L : Int)) = true := by simp
  have hd2 : decide (mx ≤ (L : Int)) = true := by simpa using hm
  conv => arg 2; whnf
  unfold fr
  go_wp2
  go_quiet (fail)
  go_wp2
  go_quiet (fail)
  go_wp2_with fail
  refine (HC.out _).mono ?_
  rintro en w' ⟨rfl, n, rfl⟩
  go_wp2_with fail
  rw [errW_drewN, World.drewN_drewN]
  exact HR.out _ _ (Fr.of _ _ rfl rfl rfl) rfl

theorem info_u8_all : (Tryd.prog.info? 5).map (fun i => (i.zero, i.size, i.bytes)) = some (some (.int .u8 0), 1, 1) := by kernel_rfl

theorem make_bytes (w : World) (N : Nat) (h : N ≤ 4194304) : (Instr.makeSlice 101 (.int .i64 (N : Int)) (.int .i64 (N : Int))).run Tryd.prog w = .ok (.slice (some ⟨w.heap.size, 0, none⟩) N N) (w.alloc (.cells (madeCells #[.int .u8 0] N) 5)) := by
  obtain ⟨i, hi, hz⟩ := Option.map_eq_some_iff.1 info_u8_all
  simp only [Prod.mk.injEq] at hz
  obtain ⟨hz, hsz, hby⟩ := hz
  have := run_make (P := Tryd.prog) w 101 5 i (.int .u8 0) Tryd.underlying101 hi hz .i64 .i64 (N : Int) (N : Int) (by omega) (by omega) (by rw [hby]; omega) (by omega)
  rw [this, hsz]
  simp [Value.cells]

/-- the size of the new buffer -/
def newSize (L : Nat) (mx : Int) : Nat := min (if L = 0 then 4096 else L * 2 : Nat) mx.toNat

set_option maxRecDepth 100000 in
set_option maxHeartbeats 2000000 in
theorem m4_grow (mx : Int) (N : Nat) (hN : N = newSize L mx) (hF : Fr B a) (h2 : w.cell? ⟨B, 2, none⟩ = some (.int .i64 mx)) (h4 : w.cell? ⟨B, 4, none⟩ = some (.slice ba L L)) (h5 : w.cell? ⟨B, 5, none⟩ = some (.int .i64 (s : Int))) (h6 : w.cell? ⟨B, 6, none⟩ = some (.int .i64 (L : Int)))
    (hf : ∀ o, w.frozen? ⟨B, o, none⟩ = false) (hBlt : B < w.heap.size) (hm : (L : Int) < mx) (hmx : mx ≤ 4194304) (hs : s ≤ L) (src : Array Value) (h1 : ∀ v ∈ src, v.oneCell' = true) (hsrc : (L = 0 ∧ src = #[]) ∨ ∃ D, D < w.heap.size ∧ 0 < L ∧ src.size = L ∧ ba = some ⟨D, 0, none⟩ ∧ w.heap[D]? = some (.cells src 5 (0, 0)))
    (hn : ∀ a' w2, Fr B a' → Alk w2 (((((w.alloc (.cells (madeCells #[.int .u8 0] N) 5)).setRow w.heap.size (rowMove src (madeCells #[.int .u8 0] N) s (L - s))).setCell ⟨B, 4, none⟩ (.slice (some ⟨w.heap.size, 0, none⟩) N N)).setCell ⟨B, 6, none⟩ (.int .i64 ((L : Int) - (s : Int)))).setCell ⟨B, 5, none⟩ (.int .i64 0)) → Q .normal a' w2) : Code.wp Tryd.prog m4 Q a w := by
  obtain ⟨_, _, _, _, f, rfl⟩ := hF
  have HN := Lib.hid hn
  clear hn
  have hNL : L < N := by rw [hN]; unfold newSize; split <;> omega
  have hNb : N ≤ 4194304 := by rw [hN]; unfold newSize; omega
  have hd1 : ((L : Int) == (L : Int)) = true := by simp
  have hd2 : decide (mx ≤ (L : Int)) = false := by simp; omega
  have hd3 : decide ((4611686018427387903 : Int) < (L : Int)) = false := by simp; omega
  have hmk : ∀ q, (Instr.makeSlice 101 (.int .i64 (N : Int)) (.int .i64 (N : Int))).run Tryd.prog (w.drewN q) = .ok (.slice (some ⟨w.heap.size, 0, none⟩) N N) ((w.alloc (.cells (madeCells #[.int .u8 0] N) 5)).drewN q) := fun q => make_bytes (w.drewN q) N hNb
  have hc1 : ∀ ob i, (w.alloc ob).cell? ⟨B, i, none⟩ = w.cell? ⟨B, i, none⟩ := fun ob i => World.cell?_alloc_lt w ob ⟨B, i, none⟩ hBlt
  have hc2 : ∀ ob cs i, ((w.alloc ob).setRow w.heap.size cs).cell? ⟨B, i, none⟩ = w.cell? ⟨B, i, none⟩ := fun ob cs i => (World.cell?_of_block (a := ⟨B, i, none⟩) (setRow_other _ _ B cs (by omega))).trans (hc1 ob i)
  have hf1 : ∀ ob i, (w.alloc ob).frozen? ⟨B, i, none⟩ = w.frozen? ⟨B, i, none⟩ := fun ob i => World.frozen?_alloc_old w ob ⟨B, i, none⟩ (Nat.ne_of_lt hBlt)
  have hf2 : ∀ ob cs i, ((w.alloc ob).setRow w.heap.size cs).frozen? ⟨B, i, none⟩ = w.frozen? ⟨B, i, none⟩ := fun ob cs i => (World.frozen?_of_block (a := ⟨B, i, none⟩) (setRow_other _ _ B cs (by omega))).trans (hf1 ob i)
  conv => arg 2; whnf
  unfold fr
  rcases hsrc with ⟨rfl, rfl⟩ | ⟨D, hDlt, hL1, hsz, rfl, hD⟩
  · obtain rfl : s = 0 := by omega
    have HC0 : ∀ (q : Nat) (sp : Option Addr), (Builtin.copy_ #[101, 101] 3 #[.slice (some ⟨w.heap.size, 0, none⟩) N N, .slice sp 0 0]).run Tryd.prog ((w.alloc (.cells (madeCells #[.int .u8 0] N) 5)).drewN q) = .ok (.int .i64 0) (((w.alloc (.cells (madeCells #[.int .u8 0] N) 5)).drewN q).setRow w.heap.size (rowMove #[] (madeCells #[.int .u8 0] N) 0 (0 - 0))) := fun q sp => by
      have e : rowMove #[] (madeCells #[.int .u8 0] N) 0 (0 - 0) = madeCells #[.int .u8 0] N := by simp [rowMove]
      rw [e, setRow_self ((w.alloc (.cells (madeCells #[.int .u8 0] N) 5)).drewN q) w.heap.size _ 5 (0, 0) (heap_alloc_new w _)]
      exact run_copy_none _ 101 101 3 5 _ sp N N 0 0 Tryd.underlying101 info_u8 (by simp)
    have HC := Lib.hid HC0
    clear HC0
    generalize rowMove #[] (madeCells #[.int .u8 0] N) 0 (0 - 0) = row at HC HN
    have hmin : min (4096 : Int) mx = (N : Int) := by rw [hN]; unfold newSize; rw [if_pos rfl]; omega
    have hd5 : decide (mx ≤ 0) = false := by simp; omega
    clear hN hd1 hd2
    go_wp2
    go_quiet (fail)
    go_wp2
    go_quiet (fail)
    go_wp2_with fail
    refine wp_region_mid 14 (by kernel_rfl) (by kernel_rfl) ?_
    simp only [List.take_succ_cons, List.take_zero, List.drop_succ_cons, List.drop_zero]
    repeat still_step
    refine wpStill_nil ?_
    go_wp2_with fail
    rw [HC.out _ _, setRow_drewN]
    go_wp2_with fail
    refine wpStill_nil ?_
    go_wp2_with fail
    refine wp_region_mid 11 (by kernel_rfl) (by kernel_rfl) ?_
    simp only [List.take_succ_cons, List.take_zero, List.drop_succ_cons, List.drop_zero]
    repeat still_step
    refine wpStill_nil ?_
    go_wp2_with fail
    refine wpStill_nil ?_
    go_wp2_with fail
    exact HN.out _ _ (Fr.of _ _ rfl rfl rfl) ⟨rfl, rfl, rfl, rfl⟩
  · have HC0 : ∀ (q : Nat) (sp : Option Addr), (L - s = 0 ∨ sp = some ⟨D, s, none⟩) → (Builtin.copy_ #[101, 101] 3 #[.slice (some ⟨w.heap.size, 0, none⟩) N N, .slice sp (L - s) (L - s)]).run Tryd.prog ((w.alloc (.cells (madeCells #[.int .u8 0] N) 5)).drewN q) = .ok (.int .i64 ((L - s : Nat) : Int)) (((w.alloc (.cells (madeCells #[.int .u8 0] N) 5)).drewN q).setRow w.heap.size (rowMove src (madeCells #[.int .u8 0] N) s (L - s))) :=
      fun q sp hsp => run_copy_move _ w.heap.size D s (L - s) N N (L - s) sp src _ 5 5 (heap_alloc_new w _) ((Below.heap_alloc w _ D hDlt).trans hD) (by omega) (by rw [size_madeCells]; omega) (by omega) h1 hsp
    have HC := Lib.hid HC0
    clear HC0
    generalize rowMove src (madeCells #[.int .u8 0] N) s (L - s) = row at HC HN
    have hadd : (⟨D, 0, none⟩ : Addr).add s = ⟨D, s, none⟩ := by
      unfold Addr.add; split
      · rename_i h0; subst h0; rfl
      · simp
    clear hD h1
    by_cases hL0 : L = 0
    · omega
    · have hd4 : ((L : Int) * 2 == 0) = false := by rw [beq_eq_false_iff_ne]; omega
      have hmin : min ((L : Int) * 2) mx = (N : Int) := by rw [hN]; unfold newSize; rw [if_neg hL0]; omega
      clear hN
      by_cases hLs : L = s
      · subst hLs
        simp only [Nat.sub_self] at HC
        simp only [Int.sub_self] at HN
        go_wp2
        go_quiet (fail)
        go_wp2
        go_quiet (fail)
        go_wp2_with fail
        refine wp_region_mid 14 (by kernel_rfl) (by kernel_rfl) ?_
        simp only [List.take_succ_cons, List.take_zero, List.drop_succ_cons, List.drop_zero]
        repeat still_step
        refine wpStill_nil ?_
        go_wp2_with fail
        rw [HC.out _ _ (Or.inl trivial), setRow_drewN]
        go_wp2_with fail
        refine wpStill_nil ?_
        go_wp2_with fail
        refine wp_region_mid 11 (by kernel_rfl) (by kernel_rfl) ?_
        simp only [List.take_succ_cons, List.take_zero, List.drop_succ_cons, List.drop_zero]
        repeat still_step
        refine wpStill_nil ?_
        go_wp2_with fail
        refine wpStill_nil ?_
        go_wp2_with fail
        exact HN.out _ _ (Fr.of _ _ rfl rfl rfl) ⟨rfl, rfl, rfl, rfl⟩
      · 
        go_wp2
        go_quiet (fail)
        go_wp2
        go_quiet (fail)
        go_wp2_with fail
        refine wp_region_mid 14 (by kernel_rfl) (by kernel_rfl) ?_
        simp only [List.take_succ_cons, List.take_zero, List.drop_succ_cons, List.drop_zero]
        repeat still_step
        refine wpStill_nil ?_
        go_wp2_with fail
        rw [HC.out _ _ (Or.inr rfl), setRow_drewN]
        go_wp2_with fail
        refine wpStill_nil ?_
        go_wp2_with fail
        refine wp_region_mid 11 (by kernel_rfl) (by kernel_rfl) ?_
        simp only [List.take_succ_cons, List.take_zero, List.drop_succ_cons, List.drop_zero]
        repeat still_step
        refine wpStill_nil ?_
        go_wp2_with fail
        refine wpStill_nil ?_
        go_wp2_with fail
        exact HN.out _ _ (Fr.of _ _ rfl rfl rfl) ⟨rfl, rfl, rfl, rfl⟩
end
end Go.Proofs.YtkclapimgmnldaaDoor
