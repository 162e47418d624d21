/-
  Scan's other pieces: the end at an error, the shift, the new buffer.
-/
import Derived.Test.YtkclapimgmnldaaDoorScanC
import Derived.Test.YtkclapimgmnldaaDoorRead
namespace Go.Proofs.YtkclapimgmnldaaDoor
set_option linter.unusedVariables false
set_option linter.unusedSimpArgs false
set_option maxRecDepth 20000
open Go.RowKit

section
variable (B s e L : Nat) (ba : Option Addr) (a : Act) (w : World) (Q : Exit → Act → World → Prop)

set_option maxRecDepth 100000 in
set_option maxHeartbeats 1000000 in
theorem m2_err (x : Value) (t : Nat) (hF : Fr B a)
    (h7 : w.cell? ⟨B, 7, none⟩ = some (.iface t x)) (v5 v6 : Value) (h5 : w.cell? ⟨B, 5, none⟩ = some v5) (h6 : w.cell? ⟨B, 6, none⟩ = some v6) (hf : ∀ o, w.frozen? ⟨B, o, none⟩ = false)
    (hret : ∀ a', Fr B a' → a'.tmps[2]? = some (.bool false) → Q .ret a' ((w.setCell ⟨B, 5, none⟩ (.int .i64 ((0 : Nat) : Int))).setCell ⟨B, 6, none⟩ (.int .i64 ((0 : Nat) : Int)))) :
    Code.wp Tryd.prog m2 Q a w := by
  obtain ⟨_, _, _, _, f, rfl⟩ := hF
  have HR := Lib.hid hret
  clear hret
  conv => arg 2; whnf
  unfold fr
  go_wp2
  exact HR.out _ (Fr.of _ _ rfl rfl rfl) rfl

set_option maxRecDepth 100000 in
set_option maxHeartbeats 1000000 in
theorem m2_ok (hF : Fr B a) (h7 : w.cell? ⟨B, 7, none⟩ = some .nilIface) (hn : ∀ a', Fr B a' → Q .normal a' w) : Code.wp Tryd.prog m2 Q a w := by
  obtain ⟨_, _, _, _, f, rfl⟩ := hF
  have HN := Lib.hid hn
  clear hn
  conv => arg 2; whnf
  unfold fr
  go_wp2
  exact HN.out _ (Fr.of _ _ rfl rfl rfl)

set_option maxRecDepth 100000 in
set_option maxHeartbeats 1000000 in
theorem m3_skip (hF : Fr B a) (h4 : w.cell? ⟨B, 4, none⟩ = some (.slice ba L L)) (h5 : w.cell? ⟨B, 5, none⟩ = some (.int .i64 (s : Int))) (h6 : w.cell? ⟨B, 6, none⟩ = some (.int .i64 (e : Int)))
    (hc : s = 0 ∨ (0 < s ∧ e ≠ L ∧ s ≤ L / 2)) (hL : L ≤ 4194304)
    (hn : ∀ a' n, Fr B a' → Q .normal a' (w.drewN n)) : Code.wp Tryd.prog m3 Q a w := by
  obtain ⟨_, _, _, _, f, rfl⟩ := hF
  have HN := Lib.hid hn
  clear hn
  conv => arg 2; whnf
  unfold fr
  rcases hc with rfl | ⟨hs, he, hs2⟩
  · go_wp2
    go_quiet (fail)
    go_wp2
    exact HN.out _ _ (Fr.of _ _ rfl rfl rfl)
  · have hd : decide (0 < s) = true := by simpa using hs
    have hd1 : ((e : Int) == (L : Int)) = false := by rw [beq_eq_false_iff_ne]; omega
    have hd2 : decide ((L : Int) / 2 < (s : Int)) = false := by simp; omega
    go_wp2
    go_quiet (fail)
    go_wp2
    exact HN.out _ _ (Fr.of _ _ rfl rfl rfl)

theorem setRow_drewN (w : World) (g q : Nat) (cs : Array Value) : (w.drewN q).setRow g cs = (w.setRow g cs).drewN q := rfl

/-- the buffer's row behind a shift, and behind a copy into a new one -/
def rowMove (src dst : Array Value) (s k : Nat) : Array Value := ((src.toList.drop s).take k ++ dst.toList.drop k).toArray

theorem run_copy_move (w : World) (G D s k dL dC sC : Nat) (sp : Option Addr) (src dst : Array Value) (tG tD : TypeId) (hG : w.heap[G]? = some (.cells dst tG (0, 0))) (hD : w.heap[D]? = some (.cells src tD (0, 0))) (hk : s + k ≤ src.size) (hkd : k ≤ dst.size) (hdL : k ≤ dL)
    (h1 : ∀ v ∈ src, v.oneCell' = true) (hsp : k = 0 ∨ sp = some ⟨D, s, none⟩) :
    (Builtin.copy_ #[101, 101] 3 #[.slice (some ⟨G, 0, none⟩) dL dC, .slice sp k sC]).run Tryd.prog w = .ok (.int .i64 (k : Int)) (w.setRow G (rowMove src dst s k)) := by
  by_cases hk0 : k = 0
  · subst hk0
    have e : rowMove src dst s 0 = dst := by simp [rowMove]
    rw [e, setRow_self w G dst tG (0, 0) hG]
    exact run_copy_none w 101 101 3 5 _ sp dL dC 0 sC Tryd.underlying101 info_u8 (by simp)
  · obtain rfl : sp = some ⟨D, s, none⟩ := hsp.resolve_left hk0
    have hlen : ((src.toList.drop s).take k).length = k := by simp; omega
    have := run_copy_row (P := Tryd.prog) w 101 101 3 5 G 0 dL dC ⟨D, s, none⟩ k sC dst tG ((src.toList.drop s).take k) Tryd.underlying101 info_u8 hG
      (by rw [hlen]; exact (Nat.min_eq_left hdL).symm)
      (fun j v hj => by
        have hjk : j < k := by
          rcases Nat.lt_or_ge j k with h | h
          · exact h
          · rw [List.getElem?_eq_none (by rw [hlen]; exact h)] at hj; cases hj
        rw [List.getElem?_take_of_lt hjk, List.getElem?_drop] at hj
        have e1 : (⟨D, s, none⟩ : Addr).add j = ⟨D, s + j, none⟩ := by
          unfold Addr.add; split
          · rename_i h0; subst h0; rfl
          · rfl
        rw [e1, cell_of_heap hD, ← hj]
        simp)
      (by rw [hlen]; omega)
      (fun v hv => h1 v (by have := List.mem_of_mem_drop (List.mem_of_mem_take hv); simpa using this))
    rw [this, hlen]
    simp [rowMove, goInt]

set_option maxRecDepth 100000 in
set_option maxHeartbeats 1000000 in
theorem m3_shift (D : Nat) (cur : Array Value) (hF : Fr B a) (h4 : w.cell? ⟨B, 4, none⟩ = some (.slice (some ⟨D, 0, none⟩) L L)) (h5 : w.cell? ⟨B, 5, none⟩ = some (.int .i64 (s : Int))) (h6 : w.cell? ⟨B, 6, none⟩ = some (.int .i64 (e : Int)))
    (hf : ∀ o, w.frozen? ⟨B, o, none⟩ = false) (hBD : B ≠ D) (hD : w.heap[D]? = some (.cells cur 5 (0, 0))) (hcur : cur.size = L) (h1 : ∀ v ∈ cur, v.oneCell' = true) (hse : s ≤ e) (heL : e ≤ L)
    (hs : 0 < s) (hc : e = L ∨ L / 2 < s) (hL : L ≤ 4194304)
    (hn : ∀ a' n, Fr B a' → Q .normal a' (((w.setRow D (rowMove cur cur s (e - s))).setCell ⟨B, 6, none⟩ (.int .i64 ((e : Int) - (s : Int)))).setCell ⟨B, 5, none⟩ (.int .i64 0) |>.drewN n)) : Code.wp Tryd.prog m3 Q a w := by
  obtain ⟨_, _, _, _, f, rfl⟩ := hF
  have HN := Lib.hid hn
  have HC : ∀ (w' : World) (sp : Option Addr), w'.heap[D]? = some (.cells cur 5 (0, 0)) → (e - s = 0 ∨ sp = some ⟨D, s, none⟩) → (Builtin.copy_ #[101, 101] 3 #[.slice (some ⟨D, 0, none⟩) L L, .slice sp (e - s) (L - s)]).run Tryd.prog w' = .ok (.int .i64 ((e - s : Nat) : Int)) (w'.setRow D (rowMove cur cur s (e - s))) :=
    fun w' sp h hsp => run_copy_move w' D D s (e - s) L L (L - s) sp cur cur _ _ h h (by omega) (by omega) (by omega) h1 hsp
  have HC := Lib.hid HC
  have HD := Lib.hid (fun q : Nat => (show (w.drewN q).heap[D]? = _ from hD))
  generalize rowMove cur cur s (e - s) = row at HC HN
  clear hn hD hcur h1
  have hcell : ∀ cs i, (w.setRow D cs).cell? ⟨B, i, none⟩ = w.cell? ⟨B, i, none⟩ := fun cs i => World.cell?_of_block (a := ⟨B, i, none⟩) (setRow_other w D B cs hBD)
  have hfz : ∀ cs i, (w.setRow D cs).frozen? ⟨B, i, none⟩ = w.frozen? ⟨B, i, none⟩ := fun cs i => World.frozen?_of_block (a := ⟨B, i, none⟩) (setRow_other w D B cs hBD)
  have hd : decide (0 < s) = true := by simpa using hs
  conv => arg 2; whnf
  unfold fr
  have hs0 : ¬ s = 0 := by omega
  by_cases he : e = L
  · subst he
    by_cases hes : e = s
    · subst hes
      simp only [Nat.sub_self] at HC
      simp only [Int.sub_self] at HN
      go_wp2
      go_quiet (fail)
      go_wp2
      refine wp_region_mid 17 (by kernel_rfl) (by kernel_rfl) ?_
      simp only [List.take_succ_cons, List.take_zero, List.drop_succ_cons, List.drop_zero]
      repeat still_step
      refine wpStill_nil ?_
      go_wp2_with fail
      rw [HC.out _ _ (HD.out _) (Or.inl trivial), setRow_drewN]
      go_wp2_with fail
      refine wpStill_nil ?_
      go_wp2_with fail
      refine wp_region_mid 11 (by kernel_rfl) (by kernel_rfl) ?_
      simp only [List.take_succ_cons, List.take_zero, List.drop_succ_cons, List.drop_zero]
      repeat still_step
      refine wpStill_nil ?_
      go_wp2_with fail
      refine wpStill_nil ?_
      go_wp2_with fail
      exact HN.out _ (nq + 1 + 1) (Fr.of _ _ rfl rfl rfl)
    · clear hc
      go_wp2
      go_quiet (fail)
      go_wp2
      refine wp_region_mid 17 (by kernel_rfl) (by kernel_rfl) ?_
      simp only [List.take_succ_cons, List.take_zero, List.drop_succ_cons, List.drop_zero]
      repeat still_step
      refine wpStill_nil ?_
      go_wp2_with fail
      rw [HC.out _ _ (HD.out _) (Or.inr rfl), setRow_drewN]
      go_wp2_with fail
      refine wpStill_nil ?_
      go_wp2_with fail
      refine wp_region_mid 11 (by kernel_rfl) (by kernel_rfl) ?_
      simp only [List.take_succ_cons, List.take_zero, List.drop_succ_cons, List.drop_zero]
      repeat still_step
      refine wpStill_nil ?_
      go_wp2_with fail
      refine wpStill_nil ?_
      go_wp2_with fail
      exact HN.out _ (nq + 1 + 1) (Fr.of _ _ rfl rfl rfl)
  · have hd1 : ((e : Int) == (L : Int)) = false := by rw [beq_eq_false_iff_ne]; omega
    have hlt : L / 2 < s := by omega
    have hd2 : decide ((L : Int) / 2 < (s : Int)) = true := by simp; omega
    have hLs : ¬ L = s := by omega
    clear hc
    go_wp2
    go_quiet (fail)
    go_wp2
    refine wp_region_mid 17 (by kernel_rfl) (by kernel_rfl) ?_
    simp only [List.take_succ_cons, List.take_zero, List.drop_succ_cons, List.drop_zero]
    repeat still_step
    refine wpStill_nil ?_
    go_wp2_with fail
    rw [HC.out _ _ (HD.out _) (Or.inr rfl), setRow_drewN]
    go_wp2_with fail
    refine wpStill_nil ?_
    go_wp2_with fail
    refine wp_region_mid 11 (by kernel_rfl) (by kernel_rfl) ?_
    simp only [List.take_succ_cons, List.take_zero, List.drop_succ_cons, List.drop_zero]
    repeat still_step
    refine wpStill_nil ?_
    go_wp2_with fail
    refine wpStill_nil ?_
    go_wp2_with fail
    exact HN.out _ (nq + 1 + 1) (Fr.of _ _ rfl rfl rfl)
end
end Go.Proofs.YtkclapimgmnldaaDoor
