/-
  append of a list of texts onto a list of the call's own, guarded or not, the source nil or not.
-/
import Derived.Test.YtnoaljlbhihgjaaDoorHelp
import Derived.Maps.AppendAt
namespace Go.Proofs.YtnoaljlbhihgjaaDoor
set_option linter.unusedVariables false
set_option linter.unusedSimpArgs false
set_option maxRecDepth 20000
open Go.RowKit

/-- a guarded operation whose guard is met -/
theorem wpList_met {P : Program} {ops : Array Oper} {rest : List Oper} {o : Oper} {a : Act} {w : World} {Q : Exit → Act → World → Prop} (hw : Region.wanted o (yielded ops a.tmps) = true)
    (h : o.wp P a w (wpList P ops Q rest) Q) : wpList P ops Q (o :: rest) a w := by
  unfold wpList
  rw [if_pos hw]
  exact .inl h

theorem run_append_strs {w : World} (ty : TypeId) {base : Nat} {v u : Value} {xs ys : List (List UInt8)} (hown : StrsAt base w v xs) (hr : Strs w u ys) (hn : (xs.length + ys.length) * 16 ≤ 140737488355328) (hbase : base ≤ w.heap.size) :
    ∃ v' w', (Builtin.append_ #[36, 36] ty #[v, u]).run Tryd.prog w = .ok v' w' ∧ StrsAt base w' v' (xs ++ ys) ∧ w.grownBy w' v.ownBlock ∧ (v'.ownBlock = v.ownBlock ∨ v'.ownBlock = some w.heap.size) := by
  obtain ⟨i0, hi, hz0, hz1, hz2⟩ := info_parts info_str
  obtain ⟨ad, c, rfl, h1, h2, h3⟩ := hr
  cases ad with
  | none =>
    have hy : ys = [] := by
      cases ys with
      | nil => rfl
      | cons y r => obtain ⟨b, o, e, _⟩ := h3 0 y rfl; cases e
    subst hy
    refine ⟨v, w, ?_, by simpa using hown, ⟨rfl, rfl, rfl, Nat.le_refl _, fun _ _ _ => rfl⟩, .inl rfl⟩
    rcases hown.2 with ⟨rfl, _⟩ | ⟨g, cap, cur, rfl, _, _, hnc, _⟩
    · simp [Builtin.append_, run_underlying Tryd.underlying36, sizeOf, typeInfo, hi, Builtin.lenOf, Builtin.firstCells]
    · simp [Builtin.append_, run_underlying Tryd.underlying36, sizeOf, typeInfo, hi, Builtin.lenOf, Builtin.firstCells, hnc, storeCells]
  | some ad =>
    have hcells : ∀ j u, (ys.map sv)[j]? = some u → w.cell? (ad.add j) = some u := by
      intro j u hj
      simp only [List.getElem?_map, Option.map_eq_some_iff] at hj
      obtain ⟨y, hy, rfl⟩ := hj
      obtain ⟨b, o, e, hc⟩ := h3 j y hy
      obtain rfl := Option.some.inj e
      have hplain : (⟨b, o, none⟩ : Addr).add j = ⟨b, o + j, none⟩ := by unfold Addr.add; split <;> simp_all
      rw [hplain]
      exact hc
    obtain ⟨v', w', hrun, h4, h5, _, h7⟩ := run_append_own_at (P := Tryd.prog) w base 36 ty 9 i0 (.string ⟨#[]⟩) 1 16 Tryd.underlying36 hi hz0 hz1 hz2 rfl (by decide) v xs.length (xs.map sv) hown ad ys.length c (ys.map sv) (by simp) hcells
      (fun u hu => by obtain ⟨y, _, rfl⟩ := List.mem_map.1 hu; rfl) (by unfold maxLen; omega) hn hbase
    refine ⟨v', w', hrun, ?_, h5, h7⟩
    unfold StrsAt
    simpa using h4

theorem wpList_append_strs {w : World} {ops : Array Oper} {rest : List Oper} {o : Oper} {a : Act} {Q : Exit → Act → World → Prop} (hw : Region.wanted o (yielded ops a.tmps) = true) (s x : Operand)
    (ho : o.op = .call { callee := .builtin .append, args := #[s, x], argTypes := #[36, 36] }) (base : Nat) (v u : Value) (xs ys : List (List UInt8)) (hs : a.eval s = v) (hx : a.eval x = u)
    (hown : StrsAt base w v xs) (hr : Strs w u ys) (hn : (xs.length + ys.length) * 16 ≤ 140737488355328) (hbase : base ≤ w.heap.size)
    (h : ∀ v' w', StrsAt base w' v' (xs ++ ys) → w.grownBy w' v.ownBlock → (v'.ownBlock = v.ownBlock ∨ v'.ownBlock = some w.heap.size) → wpList Tryd.prog ops Q rest (a.put o.dst v') w') : wpList Tryd.prog ops Q (o :: rest) a w := by
  refine wpList_met hw ?_
  obtain ⟨v', w', hrun, h2, h3, h4⟩ := run_append_strs o.type hown hr hn hbase
  unfold Oper.wp execOp
  simp only [ho, resolve, invoke, builtin, Sem.run_bind, Sem.run_pure, Result.andThen_ok, List.map_toArray, List.map_cons, List.map_nil, hs, hx, hrun]
  exact h v' w' h2 h3 h4

/-- behind such an append -/
theorem grown_below {base : Nat} {w w1 : World} {v : Value} {xs : List (List UInt8)} (h : StrsAt base w v xs) (hb : base ≤ w.heap.size) (hg : w.grownBy w1 v.ownBlock) : Below base w w1 :=
  (Below.refl _ _).grown hg hb fun k hk => (World.ownsRow.lt h k hk).1
/-- another list stays -/
theorem grown_strs {w w1 : World} {v u : Value} {ys : List (List UInt8)} (h : Strs w u ys) (hne : ∀ b o k c, u = .slice (some ⟨b, o, none⟩) k c → v.ownBlock ≠ some b) (hg : w.grownBy w1 v.ownBlock) : Strs w1 u ys := by
  obtain ⟨a, cap, rfl, h1, h2, h3⟩ := h
  refine ⟨a, cap, rfl, h1, h2, fun i x hx => ?_⟩
  obtain ⟨b, o, rfl, hc⟩ := h3 i x hx
  exact ⟨b, o, rfl, hg.cell hc (fun e => hne b o _ _ rfl e.symm)⟩
end Go.Proofs.YtnoaljlbhihgjaaDoor
