/-
  Scan's first piece: the call of the split function and what comes of its answer.
-/
import Derived.Test.YtkclapimgmnldaaDoorScanA
namespace Go.Proofs.YtkclapimgmnldaaDoor
set_option linter.unusedVariables false
set_option linter.unusedSimpArgs false
set_option maxRecDepth 20000
open Go.RowKit

section
variable {σ : Type} {cf : Cfg} {SI : σ → List Nat → World → Prop} {split : σ → List UInt8 → Bool → Ans σ} {ins : Bool} {x : Sm σ} {tokv : Value} {called : Bool} {ba : Option Addr} {L s e : Nat} {bytes : List UInt8} {pa : Option Addr} {pcs : List Int} {pc : Nat} {pl bl osp : List Nat} {w : World}

theorem SInv.c0 (h : SInv cf SI x tokv called ba L s e bytes pa pcs pc pl bl osp w) : w.cell? ⟨cf.B, 0, none⟩ = some (.iface 98 (.pointer (some ⟨cf.R, 0, none⟩))) := cell_of_heap h.hB
theorem SInv.c1 (h : SInv cf SI x tokv called ba L s e bytes pa pcs pc pl bl osp w) : w.cell? ⟨cf.B, 1, none⟩ = some (.func (.func cf.f) cf.first cf.cap) := cell_of_heap h.hB
theorem SInv.c2 (h : SInv cf SI x tokv called ba L s e bytes pa pcs pc pl bl osp w) : w.cell? ⟨cf.B, 2, none⟩ = some (.int .i64 cf.max) := cell_of_heap h.hB
theorem SInv.c3 (h : SInv cf SI x tokv called ba L s e bytes pa pcs pc pl bl osp w) : w.cell? ⟨cf.B, 3, none⟩ = some tokv := cell_of_heap h.hB
theorem SInv.c4 (h : SInv cf SI x tokv called ba L s e bytes pa pcs pc pl bl osp w) : w.cell? ⟨cf.B, 4, none⟩ = some (.slice ba L L) := cell_of_heap h.hB
theorem SInv.c5 (h : SInv cf SI x tokv called ba L s e bytes pa pcs pc pl bl osp w) : w.cell? ⟨cf.B, 5, none⟩ = some (.int .i64 (s : Int)) := cell_of_heap h.hB
theorem SInv.c6 (h : SInv cf SI x tokv called ba L s e bytes pa pcs pc pl bl osp w) : w.cell? ⟨cf.B, 6, none⟩ = some (.int .i64 (e : Int)) := cell_of_heap h.hB
theorem SInv.c7 (h : SInv cf SI x tokv called ba L s e bytes pa pcs pc pl bl osp w) : w.cell? ⟨cf.B, 7, none⟩ = some (errV cf.E x.err) := cell_of_heap h.hB
theorem SInv.c8 (h : SInv cf SI x tokv called ba L s e bytes pa pcs pc pl bl osp w) : w.cell? ⟨cf.B, 8, none⟩ = some (.int .i64 (x.emp : Int)) := cell_of_heap h.hB
theorem SInv.c9 (h : SInv cf SI x tokv called ba L s e bytes pa pcs pc pl bl osp w) : w.cell? ⟨cf.B, 9, none⟩ = some (.bool called) := cell_of_heap h.hB
theorem SInv.c10 (h : SInv cf SI x tokv called ba L s e bytes pa pcs pc pl bl osp w) : w.cell? ⟨cf.B, 10, none⟩ = some (.bool x.done) := cell_of_heap h.hB
end

set_option maxRecDepth 100000 in
set_option maxHeartbeats 1000000 in
/-- nothing pending, no error: no call -/
theorem m1_skip (B s : Nat) (a : Act) (w : World) (Q : Exit → Act → World → Prop) (hF : Fr B a)
    (h5 : w.cell? ⟨B, 5, none⟩ = some (.int .i64 (s : Int))) (h6 : w.cell? ⟨B, 6, none⟩ = some (.int .i64 (s : Int))) (h7 : w.cell? ⟨B, 7, none⟩ = some .nilIface)
    (hn : ∀ a' n, Fr B a' → Q .normal a' (w.drewN n)) : Code.wp Tryd.prog m1 Q a w := by
  obtain ⟨v2, v3, v4, v5, f, rfl⟩ := hF
  have HN := Lib.hid hn
  clear hn
  have hd : decide ((s : Int) < (s : Int)) = false := by simp
  conv => arg 2; whnf
  unfold fr
  go_wp2
  go_quiet (fail)
  go_wp2
  exact HN.out _ _ (Fr.of _ _ rfl rfl rfl)

set_option maxRecDepth 100000 in
set_option maxHeartbeats 2000000 in
/-- something pending or an error: the split function is called with what is pending -/
theorem m1_call (B s e L : Nat) (ba : Option Addr) (f : FuncId) (first cap : Array Value) (ev : Value) (eof : Bool) (a : Act) (w : World) (Q : Exit → Act → World → Prop) (hF : Fr B a)
    (h1 : w.cell? ⟨B, 1, none⟩ = some (.func (.func f) first cap)) (h4 : w.cell? ⟨B, 4, none⟩ = some (.slice ba L L))
    (h5 : w.cell? ⟨B, 5, none⟩ = some (.int .i64 (s : Int))) (h6 : w.cell? ⟨B, 6, none⟩ = some (.int .i64 (e : Int))) (h7 : w.cell? ⟨B, 7, none⟩ = some ev)
    (hev : (ev = .nilIface ∧ eof = false) ∨ (∃ t y, ev = .iface t y ∧ eof = true)) (hc : s < e ∨ eof = true) (hse : s ≤ e) (heL : e ≤ L) (_hL : L ≤ 4194304)
    (hent : ∀ args w, (callFunc f args).run Tryd.prog w = .ok (.enter f args) w)
    (R : Ending → World → Prop)
    (dp : Option Addr) (hdp : (L = s ∧ dp = ba) ∨ (¬ L = s ∧ dp = ba.map (·.add s)))
    (hcall : ∀ n, Calls Tryd.prog f (first ++ (#[.slice dp (e - s) (L - s), .bool eof] ++ cap)) (w.drewN n) R)
    (hgo : ∀ a' w' adv tokv er, R (.returned (.tuple #[.int .i64 adv, tokv, er])) w' → (∃ v2 g, a' = fr B v2 (.int .i64 adv) tokv er g) → Code.wp Tryd.prog m1r Q a' w')
    (hR : ∀ en w', R en w' → ∃ adv tokv er, en = .returned (.tuple #[.int .i64 adv, tokv, er])) : Code.wp Tryd.prog m1 Q a w := by
  obtain ⟨v2, v3, v4, v5, g, rfl⟩ := hF
  have HG := Lib.hid hgo
  have HR := Lib.hid hR
  have HC := Lib.hid hcall
  clear hgo hR hcall
  conv => arg 2; whnf
  unfold fr
  rcases hev with ⟨rfl, rfl⟩ | ⟨t, y, rfl, rfl⟩
  · have hd : decide (s < e) = true := by simp at hc; simp; omega
    have hlt : s < e := by simpa using hc
    clear hc
    rcases hdp with ⟨h, _⟩ | ⟨hLs, rfl⟩
    · omega
    go_wp2
    go_quiet (fail)
    go_wp2
    refine wp_region_mid 22 (by kernel_rfl) (by kernel_rfl) ?_
    simp only [List.take_succ_cons, List.take_zero, List.drop_succ_cons, List.drop_zero]
    repeat still_step
    refine wpStill_nil ?_
    go_wp2_with fail
    refine (HC.out _).mono ?_
    intro en w' hr
    obtain ⟨adv, tokv, er, rfl⟩ := HR.out _ _ hr
    go_wp2_with fail
    repeat still_step
    refine wpStill_nil ?_
    rename_i K hK
    refine hK _ _ ?_
    exact HG.out _ _ _ _ _ hr ⟨_, _, Fr.mk' _ _ rfl rfl rfl⟩
  · by_cases hlt : s < e
    · have hd : decide (s < e) = true := by simpa using hlt
      clear hc
      rcases hdp with ⟨h, _⟩ | ⟨hLs, rfl⟩
      · omega
      go_wp2
      go_quiet (fail)
      go_wp2
      refine wp_region_mid 22 (by kernel_rfl) (by kernel_rfl) ?_
      simp only [List.take_succ_cons, List.take_zero, List.drop_succ_cons, List.drop_zero]
      repeat still_step
      refine wpStill_nil ?_
      go_wp2_with fail
      refine (HC.out _).mono ?_
      intro en w' hr
      obtain ⟨adv, tokv, er, rfl⟩ := HR.out _ _ hr
      go_wp2_with fail
      repeat still_step
      refine wpStill_nil ?_
      rename_i K hK
      refine hK _ _ ?_
      exact HG.out _ _ _ _ _ hr ⟨_, _, Fr.mk' _ _ rfl rfl rfl⟩
    · obtain rfl : s = e := by omega
      clear hc
      rcases hdp with ⟨rfl, rfl⟩ | ⟨hLs, rfl⟩
      · have hd : decide ((L : Int) < (L : Int)) = false := by simp
        simp only [Nat.sub_self] at HC
        go_wp2
        go_quiet (fail)
        go_wp2
        refine wp_region_mid 22 (by kernel_rfl) (by kernel_rfl) ?_
        simp only [List.take_succ_cons, List.take_zero, List.drop_succ_cons, List.drop_zero]
        repeat still_step
        refine wpStill_nil ?_
        go_wp2_with fail
        refine (HC.out _).mono ?_
        intro en w' hr
        obtain ⟨adv, tokv, er, rfl⟩ := HR.out _ _ hr
        go_wp2_with fail
        repeat still_step
        refine wpStill_nil ?_
        rename_i K hK
        refine hK _ _ ?_
        exact HG.out _ _ _ _ _ hr ⟨_, _, Fr.mk' _ _ rfl rfl rfl⟩
      · have hd : decide ((s : Int) < (s : Int)) = false := by simp
        simp only [Nat.sub_self] at HC
        go_wp2
        go_quiet (fail)
        go_wp2
        refine wp_region_mid 22 (by kernel_rfl) (by kernel_rfl) ?_
        simp only [List.take_succ_cons, List.take_zero, List.drop_succ_cons, List.drop_zero]
        repeat still_step
        refine wpStill_nil ?_
        go_wp2_with fail
        refine (HC.out _).mono ?_
        intro en w' hr
        obtain ⟨adv, tokv, er, rfl⟩ := HR.out _ _ hr
        go_wp2_with fail
        repeat still_step
        refine wpStill_nil ?_
        rename_i K hK
        refine hK _ _ ?_
        exact HG.out _ _ _ _ _ hr ⟨_, _, Fr.mk' _ _ rfl rfl rfl⟩
end Go.Proofs.YtkclapimgmnldaaDoor
