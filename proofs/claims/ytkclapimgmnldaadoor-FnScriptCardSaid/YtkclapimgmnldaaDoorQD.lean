/-
  Scan's other pieces: the end at an error, the shift, the new buffer.
-/
import Derived.Test.YtkclapimgmnldaaDoorQB
import Derived.Test.YtkclapimgmnldaaDoorQA
namespace Go.Proofs.YtkclapimgmnldaaDoor
set_option linter.unusedVariables false
set_option linter.unusedSimpArgs false
set_option maxRecDepth 20000
open Go.RowKit

section
variable (B s e L : Nat) (ba : Option Addr) (a : Act) (w : World) (Q : Exit → Act → World → Prop)

set_option maxRecDepth 100000 in
set_option maxHeartbeats 1000000 in
theorem m2_err (x : Value) (t : Nat) (hF : Fr B a)
    (h7 : w.cell? ⟨B, 7, none⟩ = some (.iface t x)) (v5 v6 : Value) (h5 : w.cell? ⟨B, 5, none⟩ = some v5) (h6 : w.cell? ⟨B, 6, none⟩ = some v6) (hf : ∀ o, w.frozen? ⟨B, o, none⟩ = false)
    (hret : ∀ a', Fr B a' → a'.tmps[2]? = some (.bool false) → Q .ret a' ((w.setCell ⟨B, 5, none⟩ (.int .i64 ((0 : Nat) : Int))).setCell ⟨B, 6, none⟩ (.int .i64 ((0 : Nat) : Int)))) :
    Code.wp Tryd.prog m2 Q a w := by
  obtain ⟨_, _, _, _, f, rfl⟩ := hF
  have HR := Lib.hid hret
  clear hret
  conv => arg 2; whnf
  unfold fr
  go_wp2
  exact HR.out _ (Fr.of _ _ rfl rfl rfl) rfl

set_option maxRecDepth 100000 in
set_option maxHeartbeats 1000000 in
theorem m2_ok (hF : Fr B a) (h7 : w.cell? ⟨B, 7, none⟩ = some .nilIface) (hn : ∀ a', Fr B a' → Q .normal a' w) : Code.wp Tryd.prog m2 Q a w := by
  obtain ⟨_, _, _, _, f, rfl⟩ := hF
  have HN := Lib.hid hn
  clear hn
  conv => arg 2; whnf
  unfold fr
  go_wp2
  exact HN.out _ (Fr.of _ _ rfl rfl rfl)

set_option maxRecDepth 100000 in
set_option maxHeartbeats 1000000 in
theorem m3_skip (hF : Fr B a) (h4 : w.cell? ⟨B, 4, none⟩ = some (.slice ba L L)) (h5 : w.cell? ⟨B, 5, none⟩ = some (.int .i64 (s : Int))) (h6 : w.cell? ⟨B, 6, none⟩ = some (.int .i64 (e : Int)))
    (hc : s = 0 ∨ (0 < s ∧ e ≠ L ∧ s ≤ L / 2)) (hL : L ≤ 4194304)
    (hn : ∀ a' n, Fr B a' → Q .normal a' (w.drewN n)) : Code.wp Tryd.prog m3 Q a w := by
  obtain ⟨_, _, _, _, f, rfl⟩ := hF
  have HN := Lib.hid hn
  clear hn
  conv => arg 2; whnf
  unfold fr
  rcases hc with rfl | ⟨hs, he, hs2⟩
  · go_wp2
    go_quiet (fail)
    go_wp2
    exact HN.out _ _ (Fr.of _ _ rfl rfl rfl)
  · have hd : decide (0 < s) = true := by simpa using hs
    have hd1 : ((e : Int) == (L : Int)) = false := by rw [beq_eq_false_iff_ne]; omega
    have hd2 : decide ((L : Int) / 2 < (s : Int)) = false := by simp; omega
    go_wp2
    go_quiet (fail)
    go_wp2
    exact HN.out _ _ (Fr.of _ _ rfl rfl rfl)

theorem setRow_drewN (w : World) (g q : Nat) (cs : Array Value) : (w.drewN q).setRow g cs = (w.setRow g cs).drewN q := rfl

/-- the buffer's row behind a shift, and behind a copy into a new one -/
def rowMove (src dst : Array Value) (s k : Nat) : Array Value := ((src.toList.drop s).take k ++ dst.toList.drop k).toArray

theorem run_copy_move (w : World) (G D s k dL dC sC : Nat) (sp : Option Addr) (src dst : Array Value) (tG tD : TypeId) (hG : w.heap[G]? = some (.cells dst tG (0, 0))) (hD : w.heap[D]? = some (.cells src tD (0, 0))) (hk : s + k ≤ src.size) (hkd : k ≤ dst.size) (hdL : k ≤ dL)
    (h1 : ∀ v ∈ src, v.oneCell' = true) (hsp : k = 0 ∨ sp = some ⟨D, s, none⟩) :
    (Builtin.copy_ #[101, 101] 3 #[.slice (some ⟨G, 0, none⟩) dL dC, .slice sp k sC]).run Tryd.prog w = .ok (.int .i64 (k : Int)) (w.setRow G (rowMove src dst s k)) := by
  by_cases hk0 : k = 0
  · subst hk0
    have e : rowMove src dst s 0 = dst := by simp [rowMove]
    rw [e, setRow_self w G dst tG (0, 0) hG]
    exact run_copy_none w 101 101 3 5 _ sp dL dC 0 sC Tryd.underlying101 info_u8 (by simp)
  · obtain rfl : sp = some ⟨D, s, none⟩ := hsp.resolve_left hk0
    have hlen : ((src.toList.drop s).take k).length = k := by simp; omega
    have := run_copy_row (P := Tryd.prog) w 101 101 3 5 G 0 dL dC ⟨D, s, none⟩ k sC dst tG ((src.toList.drop s).take k) Tryd.underlying101 info_u8 hG
      (by rw [hlen]; exact (Nat.min_eq_left hdL).symm)
      (fun j v hj => by
        have hjk : j < k := by
          rcases Nat.lt_or_ge j k with h | h
          · exact h
          · rw [List.getElem?_eq_none (by rw [hlen]; exact h)] at hj; cases hj
        rw [List.getElem?_take_of_lt hjk, List.getElem?_drop] at hj
        have e1 : (⟨D, s, none⟩ : Addr).add j = ⟨D, s + j, none⟩ := by
          unfold Addr.add; split
          · rename_i h0; subst h0; rfl
          · rfl
        rw [e1, cell_of_heap hD, ← hj]
        simp)
      (by rw [hlen]; omega)
      (fun v hv => h1 v (by have := List.mem_of_mem_drop (List.mem_of_mem_take hv); simpa using this))
    rw [this, hlen]
    simp [rowMove, goInt]

set_option maxRecDepth 100000 in
set_option maxHeartbeats 1000000 in
theorem m3_shift (D : Nat) (cur : Array Value) (hF : Fr B a) (h4 : w.cell? ⟨B, 4, none⟩ = some (.slice (some ⟨D, 0, none⟩) L L)) (h5 : w.cell? ⟨B, 5, none⟩ = some (.int .i64 (s : Int))) (h6 : w.cell? ⟨B, 6, none⟩ = some (.int .i64 (e : Int)))
    (hf : ∀ o, w.frozen? ⟨B, o, none⟩ = false) (hBD : B ≠ D) (hD : w.heap[D]? = some (.cells cur 5 (0, 0))) (hcur : cur.size = L) (h1 : ∀ v ∈ cur, v.oneCell' = true) (hse : s ≤ e) (heL : e ≤ L)
    (hs : 0 < s) (hc : e = L ∨ L / 2 < s) (hL : L ≤ 4194304)
    (hn : ∀ a' n, Fr B a' → Q .normal a' (((w.setRow D (rowMove cur cur s (e - s))).setCell ⟨B, 6, none⟩ (.int .i64 ((e : Int) - (s : Int)))).setCell ⟨B, 5, none⟩ (.int .i64 0) |>.drewN n)) : Code.wp Tryd.prog m3 Q a w := by
  obtain ⟨_, _, _, _, f, rfl⟩ := hF
  have HN := Lib.hid hn
  have HC : ∀ (w' : World) (sp : Option Addr), w'.heap[D]? = some (.cells cur 5 (0, 0)) → (e - s = 0 ∨ sp = some ⟨D, s, none⟩) → (Builtin.copy_ #[101, 101] 3 #[.slice (some ⟨D, 0, none⟩) L L, .slice sp (e - s) (L - s)]).run Tryd.prog w' = .ok (.int .i64 ((e - s : Nat) : Int)) (w'.setRow D (rowMove cur cur s (e - s))) :=
    fun w' sp h hsp => run_copy_move w' D D s (e - s) L L (L - s) sp cur cur _ _ h h (by omega) (by omega) (by omega) h1 hsp
  have HC := Lib.hid HC
  have HD := Lib.hid (fun q : Nat => (show (w.drewN q).heap[D]? = _ from hD))
  generalize rowMove cur cur s (e - s) = row at HC HN
  clear hn hD hcur h1
  have hcell : ∀ cs i, (w.setRow D cs).cell? ⟨B, i, none⟩ = w.cell? ⟨B, i, none⟩ := fun cs i => World.cell?_of_block (a := ⟨B, i, none⟩) (setRow_other w D B cs hBD)
  have hfz : ∀ cs i, (w.setRow D cs).frozen? ⟨B, i, none⟩ = w.frozen? ⟨B, i, none⟩ := fun cs i => World.frozen?_of_block (a := ⟨B, i, none⟩) (setRow_other w D B cs hBD)
  have hd : decide (0 < s) = true := by simpa using hs
  conv => arg 2; whnf
  unfold fr
  have hs0 : ¬ s = 0 := by omega
  by_cases he : e = L
  · subst he
    by_cases hes : e = s
    · subst hes
      simp only [Nat.sub_self] at HC
      simp only [Int.sub_self] at HN
      go_wp2
      go_quiet (fail)
      go_wp2
      refine wp_region_mid 17 (by kernel_rfl) (by kernel_rfl) ?_
      simp only [List.take_succ_cons, List.take_zero, List.drop_succ_cons, List.drop_zero]
      repeat still_step
      refine wpStill_nil ?_
      go_wp2_with fail
      rw [HC.out _ _ (HD.out _) (Or.inl trivial), setRow_drewN]
      go_wp2_with fail
      refine wpStill_nil ?_
      go_wp2_with fail
      refine wp_region_mid 11 (by kernel_rfl) (by kernel_rfl) ?_
      simp only [List.take_succ_cons, List.take_zero, List.drop_succ_cons, List.drop_zero]
      repeat still_step
      refine wpStill_nil ?_
      go_wp2_with fail
      refine wpStill_nil ?_
      go_wp2_with fail
      exact HN.out _ (nq + 1 + 1) (Fr.of _ _ rfl rfl rfl)
    · clear hc
      go_wp2
      go_quiet (fail)
      go_wp2
      refine wp_region_mid 17 (by kernel_rfl) (by kernel_rfl) ?_
      simp only [List.take_succ_cons, List.take_zero, List.drop_succ_cons, List.drop_zero]
      repeat still_step
      refine wpStill_nil ?_
      go_wp2_with fail
      rw [HC.out _ _ (HD.out _) (Or.inr rfl), setRow_drewN]
      go_wp2_with fail
      refine wpStill_nil ?_
      go_wp2_with fail
      refine wp_region_mid 11 (by kernel_rfl) (by kernel_rfl) ?_
      simp only [List.take_succ_cons, List.take_zero, List.drop_succ_cons, List.drop_zero]
      repeat still_step
      refine wpStill_nil ?_
      go_wp2_with fail
      refine wpStill_nil ?_
      go_wp2_with fail
      exact HN.out _ (nq + 1 + 1) (Fr.of _ _ rfl rfl rfl)
  · have hd1 : ((e : Int) == (L : Int)) = false := by rw [beq_eq_false_iff_ne]; omega
    have hlt : L / 2 < s := by omega
    have hd2 : decide ((L : Int) / 2 < (s : Int)) = true := by simp; omega
    have hLs : ¬ L = s := by omega
    clear hc
    go_wp2
    go_quiet (fail)
    go_wp2
    refine wp_region_mid 17 (by kernel_rfl) (by kernel_rfl) ?_
    simp only [List.take_succ_cons, List.take_zero, List.drop_succ_cons, List.drop_zero]
    repeat still_step
    refine wpStill_nil ?_
    go_wp2_with fail
    rw [HC.out _ _ (HD.out _) (Or.inr rfl), setRow_drewN]
    go_wp2_with fail
    refine wpStill_nil ?_
    go_wp2_with fail
    refine wp_region_mid 11 (by kernel_rfl) (by kernel_rfl) ?_
    simp only [List.take_succ_cons, List.take_zero, List.drop_succ_cons, List.drop_zero]
    repeat still_step
    refine wpStill_nil ?_
    go_wp2_with fail
    refine wpStill_nil ?_
    go_wp2_with fail
    exact HN.out _ (nq + 1 + 1) (Fr.of _ _ rfl rfl rfl)
end
end Go.Proofs.YtkclapimgmnldaaDoor

/-
  Scan's piece that finds the buffer full: the error, or a new buffer.
-/
namespace Go.Proofs.YtkclapimgmnldaaDoor
set_option linter.unusedVariables false
set_option linter.unusedSimpArgs false
set_option maxRecDepth 20000
open Go.RowKit

section
variable (B s e L : Nat) (ba : Option Addr) (a : Act) (w : World) (Q : Exit → Act → World → Prop)

set_option maxRecDepth 100000 in
set_option maxHeartbeats 1000000 in
theorem m4_skip (hF : Fr B a) (h4 : w.cell? ⟨B, 4, none⟩ = some (.slice ba L L)) (h6 : w.cell? ⟨B, 6, none⟩ = some (.int .i64 (e : Int))) (he : e ≠ L)
    (hn : ∀ a' n, Fr B a' → Q .normal a' (w.drewN n)) : Code.wp Tryd.prog m4 Q a w := by
  obtain ⟨_, _, _, _, f, rfl⟩ := hF
  have HN := Lib.hid hn
  clear hn
  have hd1 : ((e : Int) == (L : Int)) = false := by rw [beq_eq_false_iff_ne]; omega
  conv => arg 2; whnf
  unfold fr
  go_wp2
  go_quiet (fail)
  go_wp2
  exact HN.out _ _ (Fr.of _ _ rfl rfl rfl)

set_option maxRecDepth 100000 in
set_option maxHeartbeats 1000000 in
theorem m4_long (mx : Int) (E : Nat → Addr) (base : Nat) (hF : Fr B a) (h2 : w.cell? ⟨B, 2, none⟩ = some (.int .i64 mx)) (h4 : w.cell? ⟨B, 4, none⟩ = some (.slice ba L L)) (h6 : w.cell? ⟨B, 6, none⟩ = some (.int .i64 (L : Int)))
    (h7 : w.cell? ⟨B, 7, none⟩ = some (errV E none)) (hf : ∀ o, w.frozen? ⟨B, o, none⟩ = false) (hg : Glob w E base) (hm : mx ≤ (L : Int))
    (hret : ∀ a' n, Fr B a' → a'.tmps[2]? = some (.bool false) → Q .ret a' ((errW w B E none 1).drewN n)) : Code.wp Tryd.prog m4 Q a w := by
  obtain ⟨_, _, _, _, f, rfl⟩ := hF
  have HR := Lib.hid hret
  have HC := Lib.hid fun q => setErr_any B 1 (w.drewN q) E base none (hg.below (below_drewN (Below.refl _ _) q)) (fun _ h => by cases h) h7 (hf 7)
  have ht := hg.tooLong
  clear hret hg h7
  have hd1 : ((L : Int) == (L : Int)) = true := by simp
  have hd2 : decide (mx ≤ (L : Int)) = true := by simpa using hm
  conv => arg 2; whnf
  unfold fr
  go_wp2
  go_quiet (fail)
  go_wp2
  go_quiet (fail)
  go_wp2_with fail
  refine (HC.out _).mono ?_
  rintro en w' ⟨rfl, n, rfl⟩
  go_wp2_with fail
  rw [errW_drewN, World.drewN_drewN]
  exact HR.out _ _ (Fr.of _ _ rfl rfl rfl) rfl

theorem info_u8_all : (Tryd.prog.info? 5).map (fun i => (i.zero, i.size, i.bytes)) = some (some (.int .u8 0), 1, 1) := by kernel_rfl

theorem make_bytes (w : World) (N : Nat) (h : N ≤ 4194304) : (Instr.makeSlice 101 (.int .i64 (N : Int)) (.int .i64 (N : Int))).run Tryd.prog w = .ok (.slice (some ⟨w.heap.size, 0, none⟩) N N) (w.alloc (.cells (madeCells #[.int .u8 0] N) 5)) := by
  obtain ⟨i, hi, hz⟩ := Option.map_eq_some_iff.1 info_u8_all
  simp only [Prod.mk.injEq] at hz
  obtain ⟨hz, hsz, hby⟩ := hz
  have := run_make (P := Tryd.prog) w 101 5 i (.int .u8 0) Tryd.underlying101 hi hz .i64 .i64 (N : Int) (N : Int) (by omega) (by omega) (by rw [hby]; omega) (by omega)
  rw [this, hsz]
  simp [Value.cells]

/-- the size of the new buffer -/
def newSize (L : Nat) (mx : Int) : Nat := min (if L = 0 then 4096 else L * 2 : Nat) mx.toNat

set_option maxRecDepth 100000 in
set_option maxHeartbeats 2000000 in
theorem m4_grow (mx : Int) (N : Nat) (hN : N = newSize L mx) (hF : Fr B a) (h2 : w.cell? ⟨B, 2, none⟩ = some (.int .i64 mx)) (h4 : w.cell? ⟨B, 4, none⟩ = some (.slice ba L L)) (h5 : w.cell? ⟨B, 5, none⟩ = some (.int .i64 (s : Int))) (h6 : w.cell? ⟨B, 6, none⟩ = some (.int .i64 (L : Int)))
    (hf : ∀ o, w.frozen? ⟨B, o, none⟩ = false) (hBlt : B < w.heap.size) (hm : (L : Int) < mx) (hmx : mx ≤ 4194304) (hs : s ≤ L) (src : Array Value) (h1 : ∀ v ∈ src, v.oneCell' = true) (hsrc : (L = 0 ∧ src = #[]) ∨ ∃ D, D < w.heap.size ∧ 0 < L ∧ src.size = L ∧ ba = some ⟨D, 0, none⟩ ∧ w.heap[D]? = some (.cells src 5 (0, 0)))
    (hn : ∀ a' w2, Fr B a' → Alk w2 (((((w.alloc (.cells (madeCells #[.int .u8 0] N) 5)).setRow w.heap.size (rowMove src (madeCells #[.int .u8 0] N) s (L - s))).setCell ⟨B, 4, none⟩ (.slice (some ⟨w.heap.size, 0, none⟩) N N)).setCell ⟨B, 6, none⟩ (.int .i64 ((L : Int) - (s : Int)))).setCell ⟨B, 5, none⟩ (.int .i64 0)) → Q .normal a' w2) : Code.wp Tryd.prog m4 Q a w := by
  obtain ⟨_, _, _, _, f, rfl⟩ := hF
  have HN := Lib.hid hn
  clear hn
  have hNL : L < N := by rw [hN]; unfold newSize; split <;> omega
  have hNb : N ≤ 4194304 := by rw [hN]; unfold newSize; omega
  have hd1 : ((L : Int) == (L : Int)) = true := by simp
  have hd2 : decide (mx ≤ (L : Int)) = false := by simp; omega
  have hd3 : decide ((4611686018427387903 : Int) < (L : Int)) = false := by simp; omega
  have hmk : ∀ q, (Instr.makeSlice 101 (.int .i64 (N : Int)) (.int .i64 (N : Int))).run Tryd.prog (w.drewN q) = .ok (.slice (some ⟨w.heap.size, 0, none⟩) N N) ((w.alloc (.cells (madeCells #[.int .u8 0] N) 5)).drewN q) := fun q => make_bytes (w.drewN q) N hNb
  have hc1 : ∀ ob i, (w.alloc ob).cell? ⟨B, i, none⟩ = w.cell? ⟨B, i, none⟩ := fun ob i => World.cell?_alloc_lt w ob ⟨B, i, none⟩ hBlt
  have hc2 : ∀ ob cs i, ((w.alloc ob).setRow w.heap.size cs).cell? ⟨B, i, none⟩ = w.cell? ⟨B, i, none⟩ := fun ob cs i => (World.cell?_of_block (a := ⟨B, i, none⟩) (setRow_other _ _ B cs (by omega))).trans (hc1 ob i)
  have hf1 : ∀ ob i, (w.alloc ob).frozen? ⟨B, i, none⟩ = w.frozen? ⟨B, i, none⟩ := fun ob i => World.frozen?_alloc_old w ob ⟨B, i, none⟩ (Nat.ne_of_lt hBlt)
  have hf2 : ∀ ob cs i, ((w.alloc ob).setRow w.heap.size cs).frozen? ⟨B, i, none⟩ = w.frozen? ⟨B, i, none⟩ := fun ob cs i => (World.frozen?_of_block (a := ⟨B, i, none⟩) (setRow_other _ _ B cs (by omega))).trans (hf1 ob i)
  conv => arg 2; whnf
  unfold fr
  rcases hsrc with ⟨rfl, rfl⟩ | ⟨D, hDlt, hL1, hsz, rfl, hD⟩
  · obtain rfl : s = 0 := by omega
    have HC0 : ∀ (q : Nat) (sp : Option Addr), (Builtin.copy_ #[101, 101] 3 #[.slice (some ⟨w.heap.size, 0, none⟩) N N, .slice sp 0 0]).run Tryd.prog ((w.alloc (.cells (madeCells #[.int .u8 0] N) 5)).drewN q) = .ok (.int .i64 0) (((w.alloc (.cells (madeCells #[.int .u8 0] N) 5)).drewN q).setRow w.heap.size (rowMove #[] (madeCells #[.int .u8 0] N) 0 (0 - 0))) := fun q sp => by
      have e : rowMove #[] (madeCells #[.int .u8 0] N) 0 (0 - 0) = madeCells #[.int .u8 0] N := by simp [rowMove]
      rw [e, setRow_self ((w.alloc (.cells (madeCells #[.int .u8 0] N) 5)).drewN q) w.heap.size _ 5 (0, 0) (heap_alloc_new w _)]
      exact run_copy_none _ 101 101 3 5 _ sp N N 0 0 Tryd.underlying101 info_u8 (by simp)
    have HC := Lib.hid HC0
    clear HC0
    generalize rowMove #[] (madeCells #[.int .u8 0] N) 0 (0 - 0) = row at HC HN
    have hmin : min (4096 : Int) mx = (N : Int) := by rw [hN]; unfold newSize; rw [if_pos rfl]; omega
    have hd5 : decide (mx ≤ 0) = false := by simp; omega
    clear hN hd1 hd2
    go_wp2
    go_quiet (fail)
    go_wp2
    go_quiet (fail)
    go_wp2_with fail
    refine wp_region_mid 14 (by kernel_rfl) (by kernel_rfl) ?_
    simp only [List.take_succ_cons, List.take_zero, List.drop_succ_cons, List.drop_zero]
    repeat still_step
    refine wpStill_nil ?_
    go_wp2_with fail
    rw [HC.out _ _, setRow_drewN]
    go_wp2_with fail
    refine wpStill_nil ?_
    go_wp2_with fail
    refine wp_region_mid 11 (by kernel_rfl) (by kernel_rfl) ?_
    simp only [List.take_succ_cons, List.take_zero, List.drop_succ_cons, List.drop_zero]
    repeat still_step
    refine wpStill_nil ?_
    go_wp2_with fail
    refine wpStill_nil ?_
    go_wp2_with fail
    exact HN.out _ _ (Fr.of _ _ rfl rfl rfl) ⟨rfl, rfl, rfl, rfl⟩
  · have HC0 : ∀ (q : Nat) (sp : Option Addr), (L - s = 0 ∨ sp = some ⟨D, s, none⟩) → (Builtin.copy_ #[101, 101] 3 #[.slice (some ⟨w.heap.size, 0, none⟩) N N, .slice sp (L - s) (L - s)]).run Tryd.prog ((w.alloc (.cells (madeCells #[.int .u8 0] N) 5)).drewN q) = .ok (.int .i64 ((L - s : Nat) : Int)) (((w.alloc (.cells (madeCells #[.int .u8 0] N) 5)).drewN q).setRow w.heap.size (rowMove src (madeCells #[.int .u8 0] N) s (L - s))) :=
      fun q sp hsp => run_copy_move _ w.heap.size D s (L - s) N N (L - s) sp src _ 5 5 (heap_alloc_new w _) ((Below.heap_alloc w _ D hDlt).trans hD) (by omega) (by rw [size_madeCells]; omega) (by omega) h1 hsp
    have HC := Lib.hid HC0
    clear HC0
    generalize rowMove src (madeCells #[.int .u8 0] N) s (L - s) = row at HC HN
    have hadd : (⟨D, 0, none⟩ : Addr).add s = ⟨D, s, none⟩ := by
      unfold Addr.add; split
      · rename_i h0; subst h0; rfl
      · simp
    clear hD h1
    by_cases hL0 : L = 0
    · omega
    · have hd4 : ((L : Int) * 2 == 0) = false := by rw [beq_eq_false_iff_ne]; omega
      have hmin : min ((L : Int) * 2) mx = (N : Int) := by rw [hN]; unfold newSize; rw [if_neg hL0]; omega
      clear hN
      by_cases hLs : L = s
      · subst hLs
        simp only [Nat.sub_self] at HC
        simp only [Int.sub_self] at HN
        go_wp2
        go_quiet (fail)
        go_wp2
        go_quiet (fail)
        go_wp2_with fail
        refine wp_region_mid 14 (by kernel_rfl) (by kernel_rfl) ?_
        simp only [List.take_succ_cons, List.take_zero, List.drop_succ_cons, List.drop_zero]
        repeat still_step
        refine wpStill_nil ?_
        go_wp2_with fail
        rw [HC.out _ _ (Or.inl trivial), setRow_drewN]
        go_wp2_with fail
        refine wpStill_nil ?_
        go_wp2_with fail
        refine wp_region_mid 11 (by kernel_rfl) (by kernel_rfl) ?_
        simp only [List.take_succ_cons, List.take_zero, List.drop_succ_cons, List.drop_zero]
        repeat still_step
        refine wpStill_nil ?_
        go_wp2_with fail
        refine wpStill_nil ?_
        go_wp2_with fail
        exact HN.out _ _ (Fr.of _ _ rfl rfl rfl) ⟨rfl, rfl, rfl, rfl⟩
      · 
        go_wp2
        go_quiet (fail)
        go_wp2
        go_quiet (fail)
        go_wp2_with fail
        refine wp_region_mid 14 (by kernel_rfl) (by kernel_rfl) ?_
        simp only [List.take_succ_cons, List.take_zero, List.drop_succ_cons, List.drop_zero]
        repeat still_step
        refine wpStill_nil ?_
        go_wp2_with fail
        rw [HC.out _ _ (Or.inr rfl), setRow_drewN]
        go_wp2_with fail
        refine wpStill_nil ?_
        go_wp2_with fail
        refine wp_region_mid 11 (by kernel_rfl) (by kernel_rfl) ?_
        simp only [List.take_succ_cons, List.take_zero, List.drop_succ_cons, List.drop_zero]
        repeat still_step
        refine wpStill_nil ?_
        go_wp2_with fail
        refine wpStill_nil ?_
        go_wp2_with fail
        exact HN.out _ _ (Fr.of _ _ rfl rfl rfl) ⟨rfl, rfl, rfl, rfl⟩
end
end Go.Proofs.YtkclapimgmnldaaDoor

/-
  Scan's last piece: the read.
-/
namespace Go.Proofs.YtkclapimgmnldaaDoor
set_option linter.unusedVariables false
set_option linter.unusedSimpArgs false
set_option maxRecDepth 20000
open Go.RowKit

theorem invoke_read (p : Addr) (v : Value) (w : World) : (invoke (.fn (.method "Read") #[]) #[.iface 98 (.pointer (some p)), v]).run Tryd.prog w = .ok (.enter 79 #[.pointer (some p), v]) w := by kernel_rfl

/-- What the piece asks of the world behind the call of Read. -/
structure ReadLeft (B D L e : Nat) (E : Nat → Addr) (en : Ending) (w' : World) : Prop where
  ends : ∃ (n : Nat) (ev : Value), en = .returned (.tuple #[.int .i64 (n : Int), ev]) ∧ n ≤ L - e ∧ ((ev = .nilIface ∧ 0 < n) ∨ ∃ c, ev = .iface 124 (.pointer (some (E c))))
  c4 : w'.cell? ⟨B, 4, none⟩ = some (.slice (some ⟨D, 0, none⟩) L L)
  c6 : w'.cell? ⟨B, 6, none⟩ = some (.int .i64 (e : Int))
  c7 : w'.cell? ⟨B, 7, none⟩ = some .nilIface
  c8 : ∃ v8, w'.cell? ⟨B, 8, none⟩ = some v8
  fz : ∀ o, w'.frozen? ⟨B, o, none⟩ = false

set_option maxRecDepth 100000 in
set_option maxHeartbeats 2000000 in
theorem m5b_read (B R D L e : Nat) (E : Nat → Addr) (a : Act) (w : World) (Q : Exit → Act → World → Prop) (RR : Ending → World → Prop) (hF : Fr B a)
    (h0 : w.cell? ⟨B, 0, none⟩ = some (.iface 98 (.pointer (some ⟨R, 0, none⟩)))) (h4 : w.cell? ⟨B, 4, none⟩ = some (.slice (some ⟨D, 0, none⟩) L L)) (h6 : w.cell? ⟨B, 6, none⟩ = some (.int .i64 (e : Int))) (heL : e < L) (hL : L ≤ 4194304)
    (hcall : ∀ q, Calls Tryd.prog 79 #[.pointer (some ⟨R, 0, none⟩), .slice (some ⟨D, e, none⟩) (L - e) (L - e)] (w.drewN q) RR)
    (hleft : ∀ en w', RR en w' → ReadLeft B D L e E en w')
    (hnil : ∀ a' w' w2 (n : Nat), RR (.returned (.tuple #[.int .i64 (n : Int), .nilIface])) w' → n ≤ L - e → Fr B a' → Alk w2 ((w'.setCell ⟨B, 6, none⟩ (.int .i64 ((e : Int) + (n : Int)))).setCell ⟨B, 8, none⟩ (.int .i64 0)) → Q (.exit 2) a' w2)
    (herr : ∀ a' w' w2 (n : Nat) c, RR (.returned (.tuple #[.int .i64 (n : Int), .iface 124 (.pointer (some (E c)))])) w' → n ≤ L - e → Fr B a' → Alk w2 ((w'.setCell ⟨B, 6, none⟩ (.int .i64 ((e : Int) + (n : Int)))).setCell ⟨B, 7, none⟩ (.iface 124 (.pointer (some (E c))))) → Q (.exit 2) a' w2) :
    Code.wp Tryd.prog m5b Q a w := by
  obtain ⟨_, _, _, _, f, rfl⟩ := hF
  have HL := Lib.hid hleft
  have HN := Lib.hid hnil
  have HE := Lib.hid herr
  have HC := Lib.hid hcall
  clear hleft hnil herr hcall
  have hadd : (⟨D, 0, none⟩ : Addr).add e = ⟨D, e, none⟩ := by
    unfold Addr.add; split
    · rename_i h0; subst h0; rfl
    · simp
  have hLe : ¬ L = e := by omega
  have hle : e ≤ L := by omega
  have hinv := invoke_read ⟨R, 0, none⟩
  conv => arg 2; whnf
  unfold fr
  go_wp2_with fail
  refine wp_region_mid 20 (by kernel_rfl) (by kernel_rfl) ?_
  simp only [List.take_succ_cons, List.take_zero, List.drop_succ_cons, List.drop_zero]
  repeat still_step
  refine wpStill_nil ?_
  go_wp2_with fail
  refine (HC.out _).mono ?_
  intro en w' hr
  obtain ⟨⟨n, ev, rfl, hn, hev⟩, k4, k6, k7, ⟨v8, k8⟩, kf⟩ := HL.out _ _ hr
  have Hr := Lib.hid hr
  clear hr h0 h4 h6 hinv HL HC
  go_wp2_with fail
  repeat still_step
  refine wpStill_nil ?_
  rename_i K hK
  refine hK _ _ ?_
  clear hK K
  have hd1 : decide ((n : Int) < 0) = false := by simp
  have hd2 : decide ((L : Int) - (e : Int) < (n : Int)) = false := by simp; omega
  rcases hev with ⟨rfl, hn0⟩ | ⟨c, rfl⟩
  · go_wp2_with fail
    go_quiet (fail)
    go_wp2_with fail
    exact HN.out _ _ _ _ Hr.out hn (Fr.of _ _ rfl rfl rfl) ⟨rfl, rfl, rfl, rfl⟩
  · have HC := Lib.hid fun (q : Nat) => setErr_nil B (E c) ((w'.setCell ⟨B, 6, none⟩ (.int .i64 ((e : Int) + (n : Int)))).drewN q) ((World.cell?_setCell_other w' ⟨B, 6, none⟩ ⟨B, 7, none⟩ _ (by simp)).trans k7) ((World.frozen?_setCell ..).trans (kf 7))
    go_wp2_with fail
    go_quiet (fail)
    go_wp2_with fail
    refine (HC.out _).mono ?_
    rintro en w2 ⟨rfl, q, rfl⟩
    go_wp2_with fail
    exact HE.out _ _ _ _ _ Hr.out hn (Fr.of _ _ rfl rfl rfl) ⟨rfl, rfl, rfl, rfl⟩

set_option maxRecDepth 100000 in
set_option maxHeartbeats 1000000 in
theorem m5_read (B : Nat) (a : Act) (w : World) (Q : Exit → Act → World → Prop) (hF : Fr B a)
    (h : ∀ a' Q', Fr B a' → (∀ a'' w'', Q .normal a'' w'' → Q' (.exit 2) a'' w'') → Code.wp Tryd.prog m5b Q' a' w) : Code.wp Tryd.prog m5 Q a w := by
  obtain ⟨_, _, _, _, f, rfl⟩ := hF
  have H := Lib.hid h
  clear h
  conv => arg 2; whnf
  unfold fr
  go_wp2_with fail
  refine wp_loop_rounds 1 ?_
  rw [rounds_succ]
  refine wp_block ?_
  exact H.out _ _ (Fr.of _ _ rfl rfl rfl) (fun a'' w'' h => h)
end Go.Proofs.YtkclapimgmnldaaDoor
