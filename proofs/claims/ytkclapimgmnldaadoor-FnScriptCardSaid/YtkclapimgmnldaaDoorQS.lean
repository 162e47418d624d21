/-
  tape.split: a split function that answers by a script, and keeps the calls.
-/
import Derived.Test.YtkclapimgmnldaaDoorQT
import Derived.Test.YtkclapimgmnldaaDoorQRun
import Derived.Test.YtkclapimgmnldaaDoorQQ
import Derived.Deep.RegionHeld3
import Derived.Deep.AppendLies
import Derived.Deep.DeepCutAuto
import Derived.Deep.CutBlock
import Derived.Lib.AppendStr
import Derived.Deep.Upon
namespace Go.Proofs.YtkclapimgmnldaaDoor
set_option linter.unusedVariables false
set_option linter.unusedSimpArgs false
set_option maxRecDepth 20000
open Go.RowKit

/-- its cells -/
abbrev repV (r : Rep) : List Value := [.int .i64 r.adv, .bool r.all, .int .i64 r.tok, .int .i64 r.frm, .int .i64 r.till, .string r.text, .int .i64 r.err]
/-- a call's cells -/
abbrev callV (c : List UInt8 × Bool) : List Value := [sv c.1, .bool c.2]
/-- the replies in memory -/
def RepsAt (w : World) (rs : List Rep) (rp : Option Addr) (rl : List Nat) : Prop :=
  ∀ i r, rs[i]? = some r → ∃ b q, rp = some ⟨b, q, none⟩ ∧ b ∈ rl ∧ ∀ j v, (repV r)[j]? = some v → w.cell? ⟨b, q + i * 7 + j, none⟩ = some v
/-- the tape in memory -/
def TapeMem (base T : Nat) (rs : List Rep) (rep : Bool) (x : TS) (o : List Nat) (w : World) : Prop :=
  ∃ rp rc cv rl, x.pos ≤ rs.length ∧ rs.length ≤ rc ∧ rc ≤ 9223372036854775807 ∧ w.heap[T]? = some (.cells #[.slice rp rs.length rc, .bool rep, .int .i64 (x.pos : Int), cv] 91 (0, 0)) ∧
    RepsAt w rs rp rl ∧ w.ownsRow base 47 2 cv x.calls.length (x.calls.flatMap callV) ∧ o = T :: (rl ++ cv.ownBlock.toList)
/-- its fuel -/
def fuTape (x : TS) : Nat := 1000000000000 - x.calls.length

theorem conv_any (w : World) (a : Option Addr) (c : Nat) (d : List UInt8) (h : Bytes8 w a d) : (convert 101 9 (.slice a d.length c)).run Tryd.prog w = .ok (sv d) w := by
  cases a with
  | some p => exact conv_text w p c d h
  | none =>
    have : d = [] := by
      cases d with
      | nil => rfl
      | cons b r =>
        obtain ⟨_, _, e, _⟩ := h 0 b rfl
        cases e
    subst this
    rw [run_convert_bytes_string w 101 9 5 _ _ c (by kernel_rfl) (by kernel_rfl) (by kernel_rfl)]
    first | rfl | simp [Conv.bytesToString, Sem.run_pure, sv]

theorem placeZ_le (k : Int) (n : Nat) : 0 ≤ placeZ k n ∧ placeZ k n ≤ n := by
  unfold placeZ
  have h1 := Int.lt_tmod_of_pos k (b := (n : Int) + 1) (by omega)
  have h2 := Int.tmod_lt_of_pos k (b := (n : Int) + 1) (by omega)
  have h3 := Int.tmod_nonneg (a := k.tmod ((n : Int) + 1) + n + 1) ((n : Int) + 1) (by omega)
  have h4 := Int.tmod_lt_of_pos (k.tmod ((n : Int) + 1) + n + 1) (b := (n : Int) + 1) (by omega)
  omega
set_option maxHeartbeats 400000 in
theorem place_any (k : Int) (n : Nat) (w : World) (hn : n ≤ 4194304) :
    Calls Tryd.prog 55 #[.int .i64 k, .int .i64 (n : Int)] w fun e w' => e = .returned (.int .i64 (placeZ k n)) ∧ w = w' := by
  have h1 := Int.lt_tmod_of_pos k (b := (n : Int) + 1) (by omega)
  have h2 := Int.tmod_lt_of_pos k (b := (n : Int) + 1) (by omega)
  have h3 := placeZ_le k n
  unfold placeZ at *
  have hz : ((n : Int) + 1 == 0) = false := by simp; omega
  go_enter Tryd.func55, Tryd.ntmps55
  go_wp2
  go_ret
  exact ⟨by rw [Int.tmod_eq_emod_of_nonneg (a := k.tmod ((n : Int) + 1) + n + 1) (by omega)]; rfl, rfl⟩

theorem info_call : (Tryd.prog.info? 47).map (fun i => (i.zero, i.size, i.bytes)) = some (some (.agg #[.string ⟨#[]⟩, .bool false]), 2, 24) := by kernel_rfl

theorem two_new (w : World) (x y : Value) (t : TypeId) : ∀ j u, [x, y][j]? = some u → (w.alloc (.cells #[x, y] t)).cell? ((⟨w.heap.size, 0, none⟩ : Addr).add j) = some u := by
  intro j u hj
  have hplain : (⟨w.heap.size, 0, none⟩ : Addr).add j = ⟨w.heap.size, 0 + j, none⟩ := by unfold Addr.add; split <;> simp_all
  rw [hplain, cell_of_heap (heap_new w _)]
  simpa using hj

theorem step_append_call {w : World} {ops : Array Oper} {o : Oper} {a : Act} {K : Act → World → Prop} {Q : Exit → Act → World → Prop} {G : Prop} (hgd : o.guard = none) (s x : Operand)
    (ho : o.op = .call { callee := .builtin .append, args := #[s, x], argTypes := #[35, 35] }) (base : Nat) (v : Value) (n : Nat) (xs : List Value) (hs : a.eval s = v) (hown : w.ownsRow base 47 2 v n xs)
    (ad : Addr) (d : List UInt8) (eof : Bool) (hx : a.eval x = .slice (some ad) 1 1) (hnews : ∀ j u, [sv d, .bool eof][j]? = some u → w.cell? (ad.add j) = some u) (hn : n < 1000000000000) (hbase : base ≤ w.heap.size)
    (h : ∀ g cap w', w'.ownsRow base 47 2 (.slice (some ⟨g, 0, none⟩) (n + 1) cap) (n + 1) (xs ++ [sv d, .bool eof]) → w.grownBy w' v.ownBlock → (v.ownBlock = some g ∨ g = w.heap.size) → K (a.put o.dst (.slice (some ⟨g, 0, none⟩) (n + 1) cap)) w') : if Region.wanted o (yielded ops a.tmps) = true then Oper.wp Tryd.prog o a w K Q else G := by
  have hw : Region.wanted o (yielded ops a.tmps) = true := by simp [Region.wanted, hgd]
  rw [if_pos hw]
  obtain ⟨i0, hi, hz0, hz1, hz2⟩ := info_parts info_call
  obtain ⟨v', w', hrun, h4, h5, _, h7⟩ := run_append_own_at (P := Tryd.prog) w base 35 o.type 47 i0 (.agg #[.string ⟨#[]⟩, .bool false]) 2 24 Tryd.underlying35 hi hz0 hz1 hz2 rfl (by decide) v n xs hown ad 1 1 [sv d, .bool eof] rfl hnews
    (fun u hu => by simp at hu; rcases hu with rfl | rfl <;> rfl) (by unfold maxLen; omega) (by omega) hbase
  unfold Oper.wp execOp
  simp only [ho, resolve, invoke, builtin, Sem.run_bind, Sem.run_pure, Result.andThen_ok, List.map_toArray, List.map_cons, List.map_nil, hs, hx, hrun]
  obtain ⟨g, cap, rfl⟩ : ∃ g cap, v' = .slice (some ⟨g, 0, none⟩) (n + 1) cap := by
    rcases h4.2 with ⟨_, h0⟩ | ⟨g, cap, _, e, _⟩
    · omega
    · exact ⟨g, cap, e⟩
  refine h g cap w' h4 h5 ?_
  simp only [Value.ownBlock, Option.some.injEq] at h7
  rcases h7 with h7 | h7
  · exact .inl h7.symm
  · exact .inr h7

theorem tape_keep {w w1 : World} {T : Nat} {cs : Array Value} {ty : TypeId} {ob : Obj} {row : Option Nat} (hT : w.heap[T]? = some (.cells cs ty (0, 0))) (hgrow : (w.drew.alloc ob).grownBy w1 row) (hne : ∀ k, row = some k → k ≠ T) : w1.heap[T]? = some (.cells cs ty (0, 0)) := by
  have hlt : T < w.heap.size := by
    rcases Nat.lt_or_ge T w.heap.size with h | h
    · exact h
    · rw [Array.getElem?_eq_none h] at hT; cases hT
  have hlt' : T < (w.drew.alloc ob).heap.size := by
    show T < (w.drew.heap.push ob).size
    simp
    exact Nat.lt_succ_of_lt hlt
  rw [hgrow.block T hlt' (fun e => hne T e.symm rfl), Below.heap_alloc _ _ _ (by exact hlt)]
  exact hT

/-- append([]byte{}, part...): nothing, or a new row -/
theorem append_part (w : World) (B H : Nat) (hown : w.ownsRow B 5 1 (.slice (some ⟨H, 0, none⟩) 0 0) 0 []) (a : Option Addr) (t : List UInt8) (c : Nat) (hb : Bytes8 w a t) (ht : t.length ≤ 4194304) (hB : B ≤ w.heap.size) (ty : TypeId) :
    ∃ v' w', (Builtin.append_ #[101, 101] ty #[.slice (some ⟨H, 0, none⟩) 0 0, .slice a t.length c]).run Tryd.prog w = .ok v' w' ∧ w'.ownsRow B 5 1 v' t.length (t.map bv) ∧ w.grownBy w' (Value.slice (some ⟨H, 0, none⟩) 0 0).ownBlock ∧ v' ≠ .slice none 0 0 := by
  obtain ⟨i0, hi, hz⟩ := Option.map_eq_some_iff.1 info_u8_all
  simp only [Prod.mk.injEq] at hz
  obtain ⟨hz, hsz, hby⟩ := hz
  by_cases h0 : t = []
  · subst h0
    have hs : Src Tryd.prog i0.size 101 (.slice a 0 c) 0 [] w := by
      cases a with
      | none => exact Src.ofNil w Tryd.underlying101 c
      | some p => exact Src.ofSlice w Tryd.underlying101 p 0 c [] (by simp) (fun j u h => by simp at h) (fun u h => by simp at h)
    refine ⟨_, w, run_append_nothing w 101 101 ty 5 i0 Tryd.underlying101 hi (some ⟨H, 0, none⟩) 0 0 (Nat.le_refl _) _ hs, hown, ⟨rfl, rfl, rfl, Nat.le_refl _, fun _ _ _ => rfl⟩, by simp⟩
  · obtain ⟨b, o, rfl⟩ : ∃ b o, a = some ⟨b, o, none⟩ := by
      obtain ⟨u, r, rfl⟩ := List.exists_cons_of_ne_nil h0
      obtain ⟨b, o, e, _⟩ := hb 0 u rfl
      exact ⟨b, o, e⟩
    obtain ⟨v', w', h1, h2, h3, h4, h5⟩ := run_append_own_at (P := Tryd.prog) w B 101 ty 5 i0 (.int .u8 0) 1 1 Tryd.underlying101 hi hz hsz hby rfl (by decide) (.slice (some ⟨H, 0, none⟩) 0 0) 0 [] hown ⟨b, o, none⟩ t.length c (t.map bv) (by simp) (fun j u hj => by
        simp only [List.getElem?_map, Option.map_eq_some_iff] at hj
        obtain ⟨u', hu, rfl⟩ := hj
        obtain ⟨b', o', e, hc⟩ := hb j u' hu
        simp only [Option.some.injEq, Addr.mk.injEq, and_true] at e
        obtain ⟨rfl, rfl⟩ := e
        have hplain : (⟨b, o, none⟩ : Addr).add j = ⟨b, o + j, none⟩ := by unfold Addr.add; split <;> simp_all
        rw [hplain]; exact hc)
      (fun u hu => by
        obtain ⟨_, _, rfl⟩ := List.mem_map.1 hu
        rfl) (by unfold maxLen; omega) (by omega) hB
    refine ⟨v', w', h1, by simpa using h2, h3, fun e => ?_⟩
    have := (h4.1 e).1
    simp at this
theorem wpList_append_part {w : World} {ops : Array Oper} {rest : List Oper} {o : Oper} {a : Act} {Q : Exit → Act → World → Prop} (hgd : o.guard = none) (s x : Operand)
    (ho : o.op = .call { callee := .builtin .append, args := #[s, x], argTypes := #[101, 101] }) (B H : Nat) (hs : a.eval s = .slice (some ⟨H, 0, none⟩) 0 0) (hown : w.ownsRow B 5 1 (.slice (some ⟨H, 0, none⟩) 0 0) 0 []) (ad : Option Addr) (n c : Nat) (hx : a.eval x = .slice ad n c) (t : List UInt8) (hn : t.length = n) (hb : Bytes8 w ad t) (ht : t.length ≤ 4194304) (hB : B ≤ w.heap.size)
    (h : ∀ v' w', w'.ownsRow B 5 1 v' t.length (t.map bv) → w.grownBy w' (some H) → v' ≠ .slice none 0 0 → wpList Tryd.prog ops Q rest (a.put o.dst v') w') : wpList Tryd.prog ops Q (o :: rest) a w := by
  refine wpList_plain hgd fun _ hK => ?_
  subst hn
  obtain ⟨v', w', hr, h2, h3, h4⟩ := append_part w B H hown ad t c hb ht hB o.type
  unfold Oper.wp execOp
  simp only [ho, resolve, invoke, builtin, Sem.run_bind, Sem.run_pure, Result.andThen_ok, List.map_toArray, List.map_cons, List.map_nil, hs, hx, hr]
  exact hK _ _ (h v' w' h2 h3 h4)

/-- the tape behind its first statement -/
def TapeR (base T : Nat) (rs : List Rep) (rep : Bool) (rp : Option Addr) (rc : Nat) (rl o : List Nat) (w : World) (cv : Value) (calls : List (List UInt8 × Bool)) (pos : Nat) (wx : World) : Prop :=
  ∃ g gc, wx.heap[T]? = some (.cells #[.slice rp rs.length rc, .bool rep, .int .i64 (pos : Int), .slice (some ⟨g, 0, none⟩) calls.length gc] 91 (0, 0)) ∧
    wx.ownsRow base 47 2 (.slice (some ⟨g, 0, none⟩) calls.length gc) calls.length (calls.flatMap callV) ∧ (cv.ownBlock = some g ∨ w.heap.size ≤ g) ∧ g < wx.heap.size ∧ g ≠ T ∧ Off o w wx ∧ (∀ k, k ∈ rl → k < w.heap.size ∧ wx.heap[k]? = w.heap[k]?)

section
variable {base T : Nat} {rs : List Rep} {rep : Bool} {x : TS} {w : World} {E : Nat → Addr} {a : Option Addr} {n c : Nat} {d : List UInt8} {eof : Bool} {rp : Option Addr} {rc : Nat} {cv : Value} {rl o : List Nat}
theorem tape_first {w1 : World} {g gc : Nat} {ob : Obj} {calls : List (List UInt8 × Bool)} {pos : Nat} (hT : w.heap[T]? = some (.cells #[.slice rp rs.length rc, .bool rep, .int .i64 (pos : Int), cv] 91 (0, 0)))
    (hrow : w1.ownsRow base 47 2 (.slice (some ⟨g, 0, none⟩) (calls.length + 1) gc) (calls.length + 1) (calls.flatMap callV ++ [sv d, .bool eof])) (hgrow : (w.drew.alloc ob).grownBy w1 cv.ownBlock) (hat : cv.ownBlock = some g ∨ g = (w.drew.alloc ob).heap.size)
    (hnd : (T :: (rl ++ cv.ownBlock.toList)).Nodup) (hlt : ∀ k, k ∈ T :: (rl ++ cv.ownBlock.toList) → k < w.heap.size) :
    TapeR base T rs rep rp rc rl (T :: (rl ++ cv.ownBlock.toList)) w cv (calls ++ [(d, eof)]) pos (w1.setCell ⟨T, 3, none⟩ (.slice (some ⟨g, 0, none⟩) (calls.length + 1) gc)) := by
  have hne : ∀ k, cv.ownBlock = some k → k ≠ T := fun k hk e => by
    subst e
    have := (List.nodup_cons.1 hnd).1
    simp [hk] at this
  have kT := tape_keep hT hgrow hne
  have hTlt := hlt T (by simp)
  have hsz : (w.drew.alloc ob).heap.size = w.heap.size + 1 := by simp
  have hgT : g ≠ T := by
    rcases hat with h | h
    · exact hne g h
    · rw [hsz] at h; omega
  have hglt := World.ownsRow.lt hrow g rfl
  refine ⟨g, gc, ?_, ?_, ?_, ?_, hgT, ?_, ?_⟩
  · rw [heap_setCell_at kT]; simp
  · obtain ⟨h1, h2⟩ := hrow
    have e : (calls ++ [(d, eof)]).flatMap callV = calls.flatMap callV ++ [sv d, .bool eof] := by simp
    rw [e, List.length_append, List.length_singleton]
    refine ⟨h1, ?_⟩
    rcases h2 with h2 | ⟨g', cap, cur, e1, h3, h4, r⟩
    · exact .inl h2
    · simp only [Value.slice.injEq, Option.some.injEq, Addr.mk.injEq, and_true] at e1
      obtain ⟨rfl, -, rfl⟩ := e1
      exact .inr ⟨g, gc, cur, rfl, h3, (heap_setCell_not hgT _).trans h4, r⟩
  · rcases hat with h | h
    · exact .inl h
    · exact .inr (by rw [hsz] at h; omega)
  · rw [World.size_setCell]; exact hglt.2
  · have h1 : Off (T :: (rl ++ cv.ownBlock.toList)) w (w.drew.alloc ob) := ((Off.refl _ w).drewN 1).alloc ob
    have h2 : Off (T :: (rl ++ cv.ownBlock.toList)) (w.drew.alloc ob) w1 := ⟨hgrow.os, hgrow.tape, hgrow.output, hgrow.size, fun k hk hn => hgrow.block k hk (fun e => hn (by simp [← e]))⟩
    exact (h1.trans h2 (Fresh.refl _ _)).setCell (p := ⟨T, 3, none⟩) (by simp) _
  · intro k hk
    have hkT : k ≠ T := fun e => by
      subst e
      have := (List.nodup_cons.1 hnd).1
      simp [hk] at this
    have hkc : some k ≠ cv.ownBlock := fun e => by
      have h3 := (List.nodup_append.1 (List.nodup_cons.1 hnd).2).2.2 k hk k (by simp [← e])
      exact h3 rfl
    refine ⟨hlt k (by simp [hk]), ?_⟩
    rw [heap_setCell_not hkT, hgrow.block k (by rw [hsz]; have := hlt k (by simp [hk]); omega) hkc]
    exact Below.heap_alloc _ _ _ (hlt k (by simp [hk]))

theorem TapeR.drewN {calls : List (List UInt8 × Bool)} {pos : Nat} {wx : World} (h : TapeR base T rs rep rp rc rl o w cv calls pos wx) (n : Nat) : TapeR base T rs rep rp rc rl o w cv calls pos (wx.drewN n) := by
  obtain ⟨g, gc, h1, h2, h3, h4, h5, h6, h7⟩ := h
  exact ⟨g, gc, h1, h2, h3, h4, h5, h6.drewN n, h7⟩
theorem TapeR.setPos {calls : List (List UInt8 × Bool)} {pos : Nat} {wx : World} (h : TapeR base T rs rep rp rc rl o w cv calls pos wx) (pos' : Nat) (hT : T ∈ o) (hrl : T ∉ rl) : TapeR base T rs rep rp rc rl o w cv calls pos' (wx.setCell ⟨T, 2, none⟩ (.int .i64 (pos' : Int))) := by
  obtain ⟨g, gc, h1, h2, h3, h4, h5, h6, h7⟩ := h
  refine ⟨g, gc, ?_, ?_, h3, by rw [World.size_setCell]; exact h4, h5, h6.setCell (p := ⟨T, 2, none⟩) hT _, fun k hk => ?_⟩
  · rw [heap_setCell_at h1]; simp
  · obtain ⟨e1, e2⟩ := h2
    refine ⟨e1, ?_⟩
    rcases e2 with e2 | ⟨g', cap, cur, e, e3, e4, r⟩
    · exact .inl e2
    · simp only [Value.slice.injEq, Option.some.injEq, Addr.mk.injEq, and_true] at e
      obtain ⟨rfl, -, rfl⟩ := e
      exact .inr ⟨g, gc, cur, rfl, e3, (heap_setCell_not h5 _).trans e4, r⟩
  · have hkT : k ≠ T := fun e => hrl (e ▸ hk)
    refine ⟨(h7 k hk).1, ?_⟩
    rw [heap_setCell_not hkT]; exact (h7 k hk).2
theorem TapeR.alloc {calls : List (List UInt8 × Bool)} {pos : Nat} {wx : World} (h : TapeR base T rs rep rp rc rl o w cv calls pos wx) (ob : Obj) : TapeR base T rs rep rp rc rl o w cv calls pos (wx.alloc ob) := by
  obtain ⟨g, gc, h1, h2, h3, h4, h5, h6, h7⟩ := h
  have hT : T < wx.heap.size := by
    rcases Nat.lt_or_ge T wx.heap.size with h | h
    · exact h
    · rw [Array.getElem?_eq_none h] at h1; cases h1
  refine ⟨g, gc, (Below.heap_alloc _ _ _ hT).trans h1, World.ownsRow.alloc h2 _, h3, by simp; omega, h5, h6.alloc ob, fun k hk => ?_⟩
  have := (h7 k hk).1
  have := h6.size
  exact ⟨(h7 k hk).1, (Below.heap_alloc _ _ _ (by omega)).trans (h7 k hk).2⟩
theorem TapeR.grown {calls : List (List UInt8 × Bool)} {pos : Nat} {wx w' : World} (h : TapeR base T rs rep rp rc rl o w cv calls pos wx) {ob : Obj} {row : Option Nat} (hg : (wx.alloc ob).grownBy w' row) (hrow : ∀ k, row = some k → wx.heap.size ≤ k) : TapeR base T rs rep rp rc rl o w cv calls pos w' := by
  have hs : (wx.alloc ob).heap.size = wx.heap.size + 1 := by simp
  have hk : ∀ k, k < wx.heap.size → w'.heap[k]? = wx.heap[k]? := fun k hk => by
    rw [hg.block k (by omega) (fun e => by have := hrow k e.symm; omega)]
    exact Below.heap_alloc _ _ _ hk
  obtain ⟨g, gc, h1, h2, h3, h4, h5, h6, h7⟩ := h
  have hT : T < wx.heap.size := by
    rcases Nat.lt_or_ge T wx.heap.size with h | h
    · exact h
    · rw [Array.getElem?_eq_none h] at h1; cases h1
  have hz := hg.size
  have hz6 := h6.size
  refine ⟨g, gc, (hk T hT).trans h1, ?_, h3, by omega, h5, ?_, fun k hk' => ?_⟩
  · obtain ⟨e1, e2⟩ := h2
    refine ⟨e1, ?_⟩
    rcases e2 with e2 | ⟨g', cap, cur, e, e3, e4, r⟩
    · exact .inl e2
    · simp only [Value.slice.injEq, Option.some.injEq, Addr.mk.injEq, and_true] at e
      obtain ⟨rfl, -, rfl⟩ := e
      exact .inr ⟨g, gc, cur, rfl, e3, (hk g h4).trans e4, r⟩
  · refine ⟨hg.os.trans h6.os, hg.tape.trans h6.tape, hg.output.trans h6.output, by omega, fun k hk' hn => ?_⟩
    rw [hk k (by omega)]
    exact h6.block k hk' hn
  · have := (h7 k hk').1
    exact ⟨(h7 k hk').1, (hk k (by omega)).trans (h7 k hk').2⟩
theorem tok_of_row {B : Nat} {wx : World} {v : Value} {t : List UInt8} (h : wx.ownsRow B 5 1 v t.length (t.map bv)) (hn : v ≠ .slice none 0 0) (hB : w.heap.size ≤ B) : TokAt wx false w.heap.size a v (some t) := by
  obtain ⟨h1, h2⟩ := h
  rcases h2 with ⟨h2, _⟩ | ⟨g, cap, cur, rfl, h3, h4, h5, h6, h7, h8⟩
  · exact absurd h2 hn
  · have hlt : g < wx.heap.size := by
      rcases Nat.lt_or_ge g wx.heap.size with h | h
      · exact h
      · rw [Array.getElem?_eq_none h] at h4; cases h4
    refine ⟨_, cap, rfl, h5, (by unfold maxLen at h6; omega), fun i c hc => ⟨g, 0, rfl, ?_⟩, fun _ => ⟨hlt, .inr (by show w.heap.size ≤ g; omega)⟩, fun h => by cases h⟩
    have h9 := World.ownsRow.cells (w := wx) (base := B) (e := 5) (size := 1) (v := .slice (some ⟨g, 0, none⟩) t.length cap) (n := t.length) (xs := t.map bv) ⟨h1, .inr ⟨g, cap, cur, rfl, h3, h4, h5, h6, h7, h8⟩⟩ rfl i (bv c) (by simp [hc])
    have hplain : (⟨g, 0, none⟩ : Addr).add i = ⟨g, 0 + i, none⟩ := by unfold Addr.add; split <;> simp_all
    rw [hplain] at h9
    exact h9
theorem TapeR.cells {calls : List (List UInt8 × Bool)} {pos : Nat} {wx : World} (h : TapeR base T rs rep rp rc rl o w cv calls pos wx) :
    wx.cell? ⟨T, 0, none⟩ = some (.slice rp rs.length rc) ∧ wx.cell? ⟨T, 1, none⟩ = some (.bool rep) ∧ wx.cell? ⟨T, 2, none⟩ = some (.int .i64 (pos : Int)) ∧ ∀ i, wx.frozen? ⟨T, i, none⟩ = false := by
  obtain ⟨g, gc, h1, h2, h3, h4, h5, h6, h7⟩ := h
  exact ⟨cell_of_heap h1, cell_of_heap h1, cell_of_heap h1, frozen_of_heap h1⟩

set_option maxRecDepth 100000 in
set_option maxHeartbeats 2000000 in
theorem tape_try (hT : w.heap[T]? = some (.cells #[.slice rp rs.length rc, .bool rep, .int .i64 (x.pos : Int), cv] 91 (0, 0))) (hc : w.ownsRow base 47 2 cv x.calls.length (x.calls.flatMap callV))
    (hnd : (T :: (rl ++ cv.ownBlock.toList)).Nodup) (hlt : ∀ k, k ∈ T :: (rl ++ cv.ownBlock.toList) → k < w.heap.size) (hd : Bytes8 w a d) (hn : d.length = n) (hdl : d.length ≤ 4194304) (hcb : d.length ≤ c ∧ c ≤ 4194304) (hda : d ≠ [] → ∃ p, a = some p ∧ p.block ∉ T :: (rl ++ cv.ownBlock.toList) ∧ p.block < w.heap.size) (hb : base ≤ w.heap.size) (hfu : x.calls.length < 1000000000000) (hpl : x.pos ≤ rs.length) (hrc : rs.length ≤ 9223372036854775807)
    (hG : ∀ wx, Off (T :: (rl ++ cv.ownBlock.toList)) w wx → wx.cell? ⟨1, 0, none⟩ = some (.iface 124 (.pointer (some (E 6)))) ∧ wx.cell? ⟨0, 0, none⟩ = some (.iface 124 (.pointer (some (E 4))))) (hRP : RepsAt w rs rp rl) (hTx : ∀ (i : Nat) (r : Rep), rs[i]? = some r → r.text.size ≤ 140737488355328) (PP : Ending → World → Prop)
    (hP0 : ∀ wx, TapeR base T rs rep rp rc rl (T :: (rl ++ cv.ownBlock.toList)) w cv (x.calls ++ [(d, eof)]) (tpos rs rep x.pos) wx → tpos rs rep x.pos = rs.length → PP (.returned (.tuple #[.int .i64 0, .slice none 0 0, .iface 124 (.pointer (some (E 6)))])) wx)
    (hP1 : ∀ wx r tokv, rs[tpos rs rep x.pos]? = some r → TapeR base T rs rep rp rc rl (T :: (rl ++ cv.ownBlock.toList)) w cv (x.calls ++ [(d, eof)]) (tpos rs rep x.pos + 1) wx → TokAt wx false w.heap.size a tokv (tokR r d) → PP (.returned (.tuple #[.int .i64 (if r.all then (d.length : Int) else r.adv), tokv, codeV E (codeR r.err)])) wx) :
    Calls Tryd.prog 45 #[.pointer (some ⟨T, 0, none⟩), .slice a n c, .bool eof] w PP := by
  subst hn
  have hne : ∀ k, cv.ownBlock = some k → k ≠ T := fun k hk e => by
    subst e
    have := (List.nodup_cons.1 hnd).1
    simp [hk] at this
  have HV : (convert 101 9 (.slice a d.length c)).run Tryd.prog w.drew = .ok (sv d) w.drew := conv_any (w.drewN 1) a c d (hd.drewN 1)
  have HR := Lib.hid hc
  have HN := Lib.hid hfu
  have HB := Lib.hid hb
  have HT := Lib.hid hT
  have HG := Lib.hid (fun wx (h : TapeR base T rs rep rp rc rl (T :: (rl ++ cv.ownBlock.toList)) w cv (x.calls ++ [(d, eof)]) (tpos rs rep x.pos) wx) => hG wx (by obtain ⟨_, _, _, _, _, _, _, h, _⟩ := h; exact h))
  have HG7 := Lib.hid (fun wx (h : TapeR base T rs rep rp rc rl (T :: (rl ++ cv.ownBlock.toList)) w cv (x.calls ++ [(d, eof)]) (tpos rs rep x.pos + 1) wx) => hG wx (by obtain ⟨_, _, _, _, _, _, _, h, _⟩ := h; exact h))
  have HL0 := Lib.hid hpl
  have HRC := Lib.hid hrc
  have HP0 := Lib.hid hP0
  have HDl := Lib.hid hdl
  have HCb := Lib.hid hcb
  have HBy := Lib.hid (fun wx (h : TapeR base T rs rep rp rc rl (T :: (rl ++ cv.ownBlock.toList)) w cv (x.calls ++ [(d, eof)]) (tpos rs rep x.pos + 1) wx) => (show Bytes8 wx a d from fun i b hb => by
    obtain ⟨_, _, _, _, _, _, _, ho, _⟩ := h
    obtain ⟨p, rfl, h1, h2⟩ := hda (fun e => by rw [e] at hb; simp at hb)
    obtain ⟨bb, oo, e, hc⟩ := hd i b hb
    obtain rfl := Option.some.inj e
    exact ⟨bb, oo, rfl, (ho.cell (p := ⟨bb, oo + i, none⟩) h2 h1).trans hc⟩))
  have HP1 := Lib.hid hP1
  have HTx := Lib.hid hTx
  have HRP := Lib.hid (fun wx (h : TapeR base T rs rep rp rc rl (T :: (rl ++ cv.ownBlock.toList)) w cv (x.calls ++ [(d, eof)]) (tpos rs rep x.pos) wx) r (hr : rs[tpos rs rep x.pos]? = some r) => (show ∃ b q, rp = some ⟨b, q, none⟩ ∧ ∀ j v, (repV r)[j]? = some v → wx.cell? ⟨b, q + tpos rs rep x.pos * 7 + j, none⟩ = some v from by
    obtain ⟨b, q, e, hm, hcs⟩ := hRP _ _ hr
    obtain ⟨_, _, _, _, _, _, _, _, hk⟩ := h
    exact ⟨b, q, e, fun j v hv => (World.cell?_of_block (a := ⟨b, _, none⟩) (hk b hm).2).trans (hcs j v hv)⟩))
  have HD := Lib.hid (And.intro hnd hlt)
  have c3 : w.cell? ⟨T, 3, none⟩ = some cv := cell_of_heap (i := 3) hT
  have c3a : (w.alloc (.cells #[sv d, .bool eof] 47)).cell? ⟨T, 3, none⟩ = some cv := by
    rw [World.cell?_of_block (a := ⟨T, 3, none⟩) (Below.heap_alloc w _ T (hlt T (by simp)))]
    exact c3
  have hfz := frozen_of_heap hT
  clear hd hc hT hb hfu hnd hlt hG hpl hP0 hRP hrc hTx hP1 hdl hcb hda
  go_enter Tryd.func45, Tryd.ntmps45
  go_wp2_with fail
  go_cut [] (fun wx => TapeR base T rs rep rp rc rl (T :: (rl ++ cv.ownBlock.toList)) w cv (x.calls ++ [(d, eof)]) x.pos wx)
  case first =>
    go_region_law (first
      | (refine step_append_call (by rfl) (.tmp 18) (.tmp 23) (by rfl) base cv x.calls.length (x.calls.flatMap callV) (by rfl) (World.ownsRow.alloc (w := w.drew) HR.out _) ⟨w.heap.size, 0, none⟩ d eof (by rfl) (two_new _ _ _ _) HN.out (by have := HB.out; simp; omega) ?_; intro g gc w1 hrow hgrow hat; have kT := tape_keep HT.out hgrow hne; have k3 := cell_of_heap (i := 3) kT; have kf := frozen_of_heap kT; simp at k3)
      | fail)
    all_goals (go_wp2_with fail; go_meet; exact tape_first HT.out hrow hgrow hat HD.out.1 HD.out.2)
  case rest =>
    have HC := Lib.hid hcut
    have HM : Hid (T ∈ T :: (rl ++ cv.ownBlock.toList) ∧ T ∉ rl) := Lib.hid ⟨by simp, fun h => by
      have := (List.nodup_cons.1 HD.out.1).1
      simp [h] at this⟩
    obtain ⟨k0, k1, k2, kf⟩ := hcut.cells
    generalize T :: (rl ++ cv.ownBlock.toList) = o at *
    clear hcut c3 c3a hfz HV HR HN HB HT HD hne
    obtain ⟨b, hb⟩ : ∃ b : Bool, b = ((((x.pos : Nat) : Int) == ((rs.length : Nat) : Int)) && rep) := ⟨_, rfl⟩
    have HBb := Lib.hid hb
    clear hb
    generalize hcl : x.calls ++ [(d, eof)] = calls at *
    go_upto_region 2 with fail
    go_cut [44] (fun s44 wx => s44 = .bool b ∧ TapeR base T rs rep rp rc rl o w cv calls x.pos wx)
    case first =>
      cases hp : (((x.pos : Nat) : Int) == ((rs.length : Nat) : Int)) with
      | true =>
        go_quiet (fail)
        go_wp2_with fail
        go_meet
        exact ⟨by rw [HBb.out, hp]; simp, HC.out.drewN _⟩
      | false =>
        go_quiet (fail)
        go_wp2_with fail
        go_meet
        exact ⟨by rw [HBb.out, hp]; simp, HC.out.drewN _⟩
    case rest =>
      clear k0 k1 k2 kf HC
      obtain ⟨rfl, hcut⟩ := hcut
      have HC := Lib.hid hcut
      obtain ⟨k0, k1, k2, kf⟩ := hcut.cells
      clear hcut
      obtain ⟨pos, hpos⟩ : ∃ pos, pos = tpos rs rep x.pos := ⟨_, rfl⟩
      have hbp : (b = true → pos = 0) ∧ (b = false → pos = x.pos) := by
        rw [hpos, HBb.out]
        unfold tpos
        by_cases h1 : x.pos = rs.length
        · cases rep <;> simp [h1]
        · simp [h1]
          omega
      have HL : Hid (pos ≤ rs.length) := Lib.hid (by
        have := HL0.out
        rw [hpos]
        unfold tpos
        split <;> omega)
      rw [← hpos] at HG HP0 HRP HG7 HP1 HBy
      have HPos := Lib.hid (And.intro hpos hbp)
      clear hpos hbp HL0
      go_upto_if 44 with (fail)
      go_cut [] (fun wx => TapeR base T rs rep rp rc rl o w cv calls pos wx)
      case first =>
        cases b with
        | true =>
          go_wp2_with fail
          go_meet
          rw [show pos = 0 by simpa using HPos.out.2.1]
          exact HC.out.setPos 0 HM.out.1 HM.out.2
        | false =>
          go_wp2_with fail
          go_meet
          rw [show pos = x.pos by simpa using HPos.out.2.2]
          exact HC.out
      case rest =>
        clear k0 k1 k2 kf HC
        have HC := Lib.hid hcut
        obtain ⟨k0, k1, k2, kf⟩ := hcut.cells
        have hglob := HG.out wc hcut
        clear hcut
        obtain ⟨hfin, hspl⟩ := hglob
        by_cases hlast : pos = rs.length
        · have hq : (((pos : Nat) : Int) == ((rs.length : Nat) : Int)) = true := by simp [hlast]
          go_upto_region 4 with fail
          go_quiet (fail)
          go_wp2_with fail
          go_quiet (fail)
          go_wp2_with fail
          go_ret3
          exact HP0.out _ ((HC.out.drewN _).drewN _) hlast
        · have hq : (((pos : Nat) : Int) == ((rs.length : Nat) : Int)) = false := by simp; omega
          have hlt : pos < rs.length := by have := HL.out; omega
          go_upto_region 4 with fail
          go_quiet (fail)
          go_wp2_with fail
          obtain ⟨r, hr⟩ : ∃ r, rs[pos]? = some r := ⟨_, List.getElem?_eq_getElem hlt⟩
          obtain ⟨rb, rq, rfl, hrc⟩ := HRP.out wc HC.out r hr
          have r0 : (wc.drewN nq).cell? ⟨rb, rq + pos * 7, none⟩ = some (.int .i64 r.adv) := hrc 0 _ rfl
          have r1 : (wc.drewN nq).cell? ⟨rb, rq + pos * 7 + 1, none⟩ = some (.bool r.all) := hrc 1 _ rfl
          have r2 : (wc.drewN nq).cell? ⟨rb, rq + pos * 7 + 2, none⟩ = some (.int .i64 r.tok) := hrc 2 _ rfl
          have r3 : (wc.drewN nq).cell? ⟨rb, rq + pos * 7 + 3, none⟩ = some (.int .i64 r.frm) := hrc 3 _ rfl
          have r4 : (wc.drewN nq).cell? ⟨rb, rq + pos * 7 + 4, none⟩ = some (.int .i64 r.till) := hrc 4 _ rfl
          have r5 : (wc.drewN nq).cell? ⟨rb, rq + pos * 7 + 5, none⟩ = some (.string r.text) := hrc 5 _ rfl
          have r6 : (wc.drewN nq).cell? ⟨rb, rq + pos * 7 + 6, none⟩ = some (.int .i64 r.err) := hrc 6 _ rfl
          have HC4 := Lib.hid (HC.out.drewN nq)
          have k0' : (wc.drewN nq).cell? ⟨T, 0, none⟩ = some (.slice (some ⟨rb, rq, none⟩) rs.length rc) := k0
          have k2' : (wc.drewN nq).cell? ⟨T, 2, none⟩ = some (.int .i64 (pos : Int)) := k2
          generalize wc.drewN nq = w4 at *
          go_region_held3 (fun w' => w'.cell? ⟨T, 0, none⟩ = some (.slice (some ⟨rb, rq, none⟩) rs.length rc) ∧ w'.cell? ⟨T, 2, none⟩ = some (.int .i64 (pos : Int)) ∧ w'.cell? ⟨rb, rq + pos * 7, none⟩ = some (.int .i64 r.adv) ∧ w'.cell? ⟨rb, rq + pos * 7 + 1, none⟩ = some (.bool r.all) ∧ w'.cell? ⟨rb, rq + pos * 7 + 2, none⟩ = some (.int .i64 r.tok) ∧ w'.cell? ⟨rb, rq + pos * 7 + 3, none⟩ = some (.int .i64 r.frm) ∧ w'.cell? ⟨rb, rq + pos * 7 + 4, none⟩ = some (.int .i64 r.till) ∧ w'.cell? ⟨rb, rq + pos * 7 + 5, none⟩ = some (.string r.text) ∧ w'.cell? ⟨rb, rq + pos * 7 + 6, none⟩ = some (.int .i64 r.err)) (go_keep) ((fail))
          have hR4 := heap_new w4 (.cells #[.int .i64 r.adv, .bool r.all, .int .i64 r.tok, .int .i64 r.frm, .int .i64 r.till, .string r.text, .int .i64 r.err] 56)
          have HC5 := Lib.hid ((HC4.out.alloc (.cells #[.int .i64 r.adv, .bool r.all, .int .i64 r.tok, .int .i64 r.frm, .int .i64 r.till, .string r.text, .int .i64 r.err] 56)).drewN 1)
          have HR5 : Hid (T ≠ w4.heap.size ∧ w.heap.size ≤ w4.heap.size) := Lib.hid (by
            obtain ⟨_, _, h1, _, _, _, _, ho, _⟩ := HC4.out
            exact ⟨(fun e => by rw [e, Array.getElem?_eq_none (Nat.le_refl _)] at h1; cases h1), ho.size⟩)
          change Exit.then _ _ _ _ ((w4.alloc (.cells #[.int .i64 r.adv, .bool r.all, .int .i64 r.tok, .int .i64 r.frm, .int .i64 r.till, .string r.text, .int .i64 r.err] 56)).drewN 1)
          have hR5 : ((w4.alloc (.cells #[.int .i64 r.adv, .bool r.all, .int .i64 r.tok, .int .i64 r.frm, .int .i64 r.till, .string r.text, .int .i64 r.err] 56)).drewN 1).heap[w4.heap.size]? = _ := hR4
          clear hR4 r0 r1 r2 r3 r4 r5 r6 k0 k1 k2 kf k0' k2' hfin hspl hrc HC HC4
          generalize (w4.alloc (.cells #[.int .i64 r.adv, .bool r.all, .int .i64 r.tok, .int .i64 r.frm, .int .i64 r.till, .string r.text, .int .i64 r.err] 56)).drewN 1 = w5 at *
          generalize w4.heap.size = R at *
          obtain ⟨-, -, k2, kf⟩ := HC5.out.cells
          have hTR : R ≠ T := fun e => HR5.out.1 e.symm
          have hR6 : (w5.setCell ⟨T, 2, none⟩ (.int .i64 ((pos : Int) + 1))).heap[R]? = _ := (heap_setCell_not hTR _).trans hR5
          have HC6 : Hid (TapeR base T rs rep (some ⟨rb, rq, none⟩) rc rl o w cv calls (pos + 1) (w5.setCell ⟨T, 2, none⟩ (.int .i64 ((pos : Int) + 1)))) := Lib.hid (HC5.out.setPos (pos + 1) HM.out.1 HM.out.2)
          have q0 : (w5.setCell ⟨T, 2, none⟩ (.int .i64 ((pos : Int) + 1))).cell? ⟨R, 0, none⟩ = some (.int .i64 r.adv) := cell_of_heap hR6
          have q1 : (w5.setCell ⟨T, 2, none⟩ (.int .i64 ((pos : Int) + 1))).cell? ⟨R, 1, none⟩ = some (.bool r.all) := cell_of_heap hR6
          have q2 : (w5.setCell ⟨T, 2, none⟩ (.int .i64 ((pos : Int) + 1))).cell? ⟨R, 2, none⟩ = some (.int .i64 r.tok) := cell_of_heap hR6
          have q3 : (w5.setCell ⟨T, 2, none⟩ (.int .i64 ((pos : Int) + 1))).cell? ⟨R, 3, none⟩ = some (.int .i64 r.frm) := cell_of_heap hR6
          have q4 : (w5.setCell ⟨T, 2, none⟩ (.int .i64 ((pos : Int) + 1))).cell? ⟨R, 4, none⟩ = some (.int .i64 r.till) := cell_of_heap hR6
          have q5 : (w5.setCell ⟨T, 2, none⟩ (.int .i64 ((pos : Int) + 1))).cell? ⟨R, 5, none⟩ = some (.string r.text) := cell_of_heap hR6
          have q6 : (w5.setCell ⟨T, 2, none⟩ (.int .i64 ((pos : Int) + 1))).cell? ⟨R, 6, none⟩ = some (.int .i64 r.err) := cell_of_heap hR6
          have hb63 := HRC.out
          have HR6 := Lib.hid hR6
          clear hR5 hR6 HC5
          obtain ⟨adv, hadv⟩ : ∃ adv : Int, adv = if r.all then (d.length : Int) else r.adv := ⟨_, rfl⟩
          have HAdv := Lib.hid hadv
          clear hadv
          go_upto_if 81 with (fail)
          generalize w5.setCell ⟨T, 2, none⟩ (.int .i64 ((pos : Int) + 1)) = w6 at *
          clear k2 kf
          go_cut [10] (fun s10 wx => s10 = .int .i64 adv ∧ wx = w6)
          case first =>
            cases hall : r.all with
            | true =>
              go_wp2_with fail
              go_meet
              exact ⟨by rw [HAdv.out, hall]; rfl, rfl⟩
            | false =>
              go_wp2_with fail
              go_meet
              exact ⟨by rw [HAdv.out, hall]; rfl, rfl⟩
          case rest =>
            obtain ⟨rfl, rfl⟩ := hcut
            go_upto_block 0 with (fail)
            go_cut [11] (fun s11 wx => TokAt wx false w.heap.size a s11 (tokR r d) ∧ TapeR base T rs rep (some ⟨rb, rq, none⟩) rc rl o w cv calls (pos + 1) wx ∧ wx.cell? ⟨R, 6, none⟩ = some (.int .i64 r.err))
            case first =>
              by_cases h1 : r.tok = 1
              · have e1 : (r.tok == 1) = true := by simp [h1]
                have H1 := Lib.hid h1
                clear h1
                have hdl := HDl.out
                go_wp2_with fail
                go_quiet ((go_at_call 55; exact Calls.quiet_of_same ((place_any _ _ _ hdl).mono (fun e w' h => ⟨h.1, h.2.symm⟩))))
                have hI := placeZ_le r.frm d.length
                have hJ := placeZ_le r.till d.length
                obtain ⟨l, hl⟩ : ∃ l : Nat, min (placeZ r.frm d.length) (placeZ r.till d.length) = (l : Int) := ⟨(min (placeZ r.frm d.length) (placeZ r.till d.length)).toNat, by omega⟩
                obtain ⟨m, hm⟩ : ∃ m : Nat, max (placeZ r.frm d.length) (placeZ r.till d.length) = (m : Int) := ⟨(max (placeZ r.frm d.length) (placeZ r.till d.length)).toNat, by omega⟩
                have hlm : l ≤ m := by omega
                have hmd : m ≤ d.length := by omega
                have hcb1 := HCb.out.1
                have hcb2 := HCb.out.2
                have HLM : Hid (tokR r d = some ((d.take m).drop l)) := Lib.hid (by
                  unfold tokR
                  rw [if_pos H1.out, hl, hm]; rfl)
                generalize placeZ r.frm d.length = I at *
                generalize placeZ r.till d.length = J at *
                clear hI hJ
                have hbs := HBy.out wc HC6.out
                have HW := Lib.hid (World.ownsRow_made (base := wc.heap.size) (e := 5) (size := 1) (wc.drewN nq) #[] 0 (Nat.le_refl _) (by decide) rfl)
                have hRlt : R < wc.heap.size := by
                  have h6 := HR6.out
                  rcases Nat.lt_or_ge R wc.heap.size with h | h
                  · exact h
                  · rw [Array.getElem?_eq_none h] at h6; cases h6
                have HFin := Lib.hid (fun (v' : Value) (w' : World) (hown : w'.ownsRow wc.heap.size 5 1 v' ((d.take m).drop l).length (((d.take m).drop l).map bv)) (hgrow : ((wc.drewN nq).alloc (.cells #[] 5)).grownBy w' (some wc.heap.size)) (hnil : v' ≠ .slice none 0 0) =>
                  (show TokAt w' false w.heap.size a v' (tokR r d) ∧ TapeR base T rs rep (some ⟨rb, rq, none⟩) rc rl o w cv calls (pos + 1) w' ∧ w'.cell? ⟨R, 6, none⟩ = some (.int .i64 r.err) from by
                    have hrow : ∀ k, (some wc.heap.size) = some k → (wc.drewN nq).heap.size ≤ k := fun k hk => by
                      simp at hk; subst hk; exact Nat.le_refl _
                    refine ⟨?_, (HC6.out.drewN nq).grown hgrow hrow, ?_⟩
                    · rw [HLM.out]
                      have hz6 : w.heap.size ≤ wc.heap.size := by
                        obtain ⟨_, _, _, _, _, _, _, ho, _⟩ := HC6.out
                        exact ho.size
                      exact tok_of_row (B := wc.heap.size) hown hnil hz6
                    · have hs : ((wc.drewN nq).alloc (.cells #[] 5)).heap.size = wc.heap.size + 1 := by simp
                      rw [World.cell?_of_block (a := ⟨R, 6, none⟩) (hgrow.block R (by omega) (fun e => by simp at e; omega)), World.cell?_of_block (a := ⟨R, 6, none⟩) (Below.heap_alloc (wc.drewN nq) _ _ hRlt)]
                      exact q6))
                have HBt := Lib.hid (fun (a' : Option Addr) (h : (d.take m).drop l = [] ∨ ∃ b o, a = some ⟨b, o, none⟩ ∧ a' = some ⟨b, o + l, none⟩) => (show Bytes8 ((wc.drewN nq).alloc (.cells #[] 5)) a' ((d.take m).drop l) from by
                  rcases h with h | ⟨b, o, rfl, rfl⟩
                  · rw [h]; exact Bytes8.nil _ _
                  · intro i u hu
                    have hu' : d[l + i]? = some u := by
                      rw [List.getElem?_drop, List.getElem?_take] at hu
                      split at hu
                      · exact hu
                      · cases hu
                    obtain ⟨b', o', e, hc⟩ := hbs _ _ hu'
                    simp only [Option.some.injEq, Addr.mk.injEq, and_true] at e
                    obtain ⟨rfl, rfl⟩ := e
                    refine ⟨b, o + l, rfl, ?_⟩
                    have hb2 := World.block_lt_of_cell? wc _ hc
                    rw [Nat.add_assoc, World.cell?_of_block (a := ⟨b, o + (l + i), none⟩) (Below.heap_alloc (wc.drewN nq) _ b hb2)]
                    exact hc))
                have htl : ((d.take m).drop l).length = m - l := by simp; omega
                have htl4 : ((d.take m).drop l).length ≤ 4194304 := by omega
                have HDF := Lib.hid (fun (h : d ≠ []) => hbs.form h)
                have HND := Lib.hid (show a = none → d = [] from fun h => by
                  cases hd : d with
                  | nil => rfl
                  | cons u r =>
                    obtain ⟨b, o, e⟩ := hbs.form (by rw [hd]; simp)
                    rw [h] at e; cases e)
                clear hbs q0 q1 q2 q3 q4 q5 q6
                cases a with
                | none =>
                  have hd0 : d = [] := HND.out rfl
                  have hm0 : m = 0 := by rw [hd0] at hmd; simpa using hmd
                  have hl0 : l = 0 := by omega
                  have hte : (d.take m).drop l = [] := by rw [hd0]; simp
                  clear hd0
                  go_wp2_with (first
                    | (at_builtin; refine wpList_append_part rfl _ _ rfl wc.heap.size wc.heap.size rfl HW.out _ _ _ rfl ((d.take m).drop l) (by simp [hte]; try omega) (HBt.out _ (.inl hte)) htl4 (by simp) ?_)
                    | go_in)
                  · intro v' w' hown hgrow hnil
                    have HQ := Lib.hid (HFin.out v' w' (by first | exact hown | (rw [hte]; exact hown)) hgrow hnil)
                    clear hown hgrow hnil HFin HBt
                    go_wp2_with fail
                    go_meet
                    exact HQ.out
                | some p =>
                  by_cases hlc : l = c
                  · have hte : (d.take m).drop l = [] := List.drop_eq_nil_of_le (by simp; omega)
                    have hml : m = l := by omega
                    go_wp2_with (first
                      | (at_builtin; refine wpList_append_part rfl _ _ rfl wc.heap.size wc.heap.size rfl HW.out _ _ _ rfl ((d.take m).drop l) (by simp [hte]; try omega) (HBt.out _ (.inl hte)) htl4 (by simp) ?_)
                      | go_in)
                    · intro v' w' hown hgrow hnil
                      have HQ := Lib.hid (HFin.out v' w' (by first | exact hown | (rw [hte]; exact hown)) hgrow hnil)
                      clear hown hgrow hnil HFin HBt
                      go_wp2_with fail
                      go_meet
                      exact HQ.out
                  · by_cases hd0 : d = []
                    · have hte : (d.take m).drop l = [] := by rw [hd0]; simp
                      have hm0 : m = 0 := by rw [hd0] at hmd; simpa using hmd
                      have hl0 : l = 0 := by omega
                      clear hd0
                      go_wp2_with (first
                        | (at_builtin; refine wpList_append_part rfl _ _ rfl wc.heap.size wc.heap.size rfl HW.out _ _ _ rfl ((d.take m).drop l) (by simp [hte]; try omega) (HBt.out _ (.inl hte)) htl4 (by simp) ?_)
                        | go_in)
                      · intro v' w' hown hgrow hnil
                        have HQ := Lib.hid (HFin.out v' w' (by first | exact hown | (rw [hte]; exact hown)) hgrow hnil)
                        clear hown hgrow hnil HFin HBt
                        go_wp2_with fail
                        go_meet
                        exact HQ.out
                    · obtain ⟨pb, po, hpe⟩ := HDF.out hd0
                      obtain rfl := Option.some.inj hpe
                      clear hpe hd0
                      go_wp2_with (first
                        | (at_builtin; refine wpList_append_part rfl _ _ rfl wc.heap.size wc.heap.size rfl HW.out _ _ _ rfl ((d.take m).drop l) ?l1 (HBt.out _ (.inr ⟨pb, po, rfl, ?l2⟩)) htl4 (by simp) ?_)
                        | go_in)
                      all_goals first
                        | exact htl
                        | rfl
                        | (intro v' w' hown hgrow hnil
                           have HQ := Lib.hid (HFin.out v' w' (by rw [htl, List.map_drop, List.map_take]; exact hown) hgrow hnil)
                           clear hown hgrow hnil HFin HBt
                           go_wp2_with fail
                           go_meet
                           exact HQ.out)
              · by_cases h2 : r.tok = 2
                · have e1 : (r.tok == 1) = false := by simp [h2]
                  have e2 : (r.tok == 2) = true := by simp [h2]
                  have H12 := Lib.hid (And.intro h1 h2)
                  clear h1 h2
                  have hRlt : R < wc.heap.size := by
                    have h6 := HR6.out
                    rcases Nat.lt_or_ge R wc.heap.size with h | h
                    · exact h
                    · rw [Array.getElem?_eq_none h] at h6; cases h6
                  have q5a : (wc.alloc (.cells #[] 5)).cell? ⟨R, 5, none⟩ = some (.string r.text) := (World.cell?_of_block (a := ⟨R, 5, none⟩) (Below.heap_alloc _ _ _ hRlt)).trans q5
                  have htx := HTx.out pos r hr
                  obtain ⟨i0, hi, hz⟩ := Option.map_eq_some_iff.1 info_u8_all
                  simp only [Prod.mk.injEq] at hz
                  obtain ⟨hz, hsz, hby⟩ := hz
                  have HW := Lib.hid (World.ownsRow_made (base := wc.heap.size) (e := 5) (size := 1) wc #[] 0 (Nat.le_refl _) (by decide) rfl)
                  go_wp2_with (first
                    | (at_builtin; refine Lib.wpList_append_own_string _ rfl _ _ 101 9 rfl wc.heap.size 5 i0 Tryd.underlying101 (by kernel_rfl) hi hz hsz hby _ 0 [] rfl HW.out r.text rfl ?s1 ?s2 ?s3 ?_)
                    | go_in)
                  case s1 => unfold maxLen; omega
                  case s2 => omega
                  case s3 => simp
                  · intro v' w' hown hgrow hnil
                    have HQ : Hid (TokAt w' false w.heap.size a v' (tokR r d) ∧ TapeR base T rs rep (some ⟨rb, rq, none⟩) rc rl o w cv calls (pos + 1) w' ∧ w'.cell? ⟨R, 6, none⟩ = some (.int .i64 r.err)) := Lib.hid (by
                      have hrow : ∀ k, (Value.slice (some ⟨wc.heap.size, 0, none⟩) 0 0).ownBlock = some k → wc.heap.size ≤ k := fun k hk => by
                        simp [Value.ownBlock] at hk; omega
                      refine ⟨?_, HC6.out.grown hgrow hrow, ?_⟩
                      · unfold tokR
                        rw [if_neg H12.out.1, if_pos H12.out.2]
                        have hz6 : w.heap.size ≤ wc.heap.size := by
                          obtain ⟨_, _, _, _, _, _, _, ho, _⟩ := HC6.out
                          exact ho.size
                        refine tok_of_row (B := wc.heap.size) ?_ ?_ hz6
                        · have e3 : r.text.data.toList.length = r.text.size := by simp
                          rw [e3]
                          simpa [Lib.strCells] using hown
                        · intro e3
                          first
                            | exact hnil e3
                            | (have := (hnil.1 e3).1; simp at this)
                      · have hs : (wc.alloc (.cells #[] 5)).heap.size = wc.heap.size + 1 := by simp
                        rw [World.cell?_of_block (a := ⟨R, 6, none⟩) (hgrow.block R (by omega) (fun e => by have := hrow R e.symm; omega)), World.cell?_of_block (a := ⟨R, 6, none⟩) (Below.heap_alloc _ _ _ hRlt)]
                        exact q6)
                    clear hown hgrow hnil
                    go_wp2_with fail
                    go_meet
                    exact HQ.out
                · have e1 : (r.tok == 1) = false := by simp [h1]
                  have e2 : (r.tok == 2) = false := by simp [h2]
                  go_wp2_with fail
                  go_meet
                  refine ⟨?_, HC6.out, q6⟩
                  unfold tokR
                  rw [if_neg h1, if_neg h2]
                  rfl
            case rest =>
              clear q0 q1 q2 q3 q4 q5 q6 HC6 HR6
              obtain ⟨htok, hTR2, q6⟩ := hcut
              have HTk := Lib.hid htok
              have HC7 := Lib.hid hTR2
              have hgl := HG7.out wc hTR2
              clear htok hTR2
              obtain ⟨hfin, hspl⟩ := hgl
              have HQ : ∀ n, PP (.returned (.tuple #[.int .i64 adv, u11, codeV E (codeR r.err)])) (wc.drewN n) := fun n => by
                have := HP1.out (wc.drewN n) r u11 hr (HC7.out.drewN n) HTk.out
                rw [← HAdv.out] at this
                exact this
              have HQ := Lib.hid HQ
              by_cases h1 : r.err = 1
              · have e1 : (r.err == 1) = true := by simp [h1]
                have e3 : codeV E (codeR r.err) = .iface 124 (.pointer (some (E 6))) := by simp [codeR, h1, codeV, errV]
                rw [e3] at HQ
                clear e3
                go_wp2_with fail
                go_quiet (fail)
                go_wp2_with fail
                go_ret3
                exact HQ.out _
              · by_cases h2 : r.err = 2
                · have e1 : (r.err == 1) = false := by simp [h2]
                  have e2 : (r.err == 2) = true := by simp [h2]
                  have e3 : codeV E (codeR r.err) = .iface 124 (.pointer (some (E 4))) := by simp [codeR, h2, codeV, errV]
                  rw [e3] at HQ
                  clear e3
                  go_wp2_with fail
                  go_quiet (fail)
                  go_wp2_with fail
                  go_ret3
                  exact HQ.out _
                · have e1 : (r.err == 1) = false := by simp [h1]
                  have e2 : (r.err == 2) = false := by simp [h2]
                  have e3 : codeV E (codeR r.err) = .nilIface := by simp [codeR, h1, h2, codeV]
                  rw [e3] at HQ
                  clear e3
                  go_wp2_with fail
                  try (go_quiet (fail))
                  go_wp2_with fail
                  go_ret3
                  first | exact HQ.out 0 | exact HQ.out _
end
end Go.Proofs.YtkclapimgmnldaaDoor

/-
  tape.split keeps the word of a split function.
-/
namespace Go.Proofs.YtkclapimgmnldaaDoor
set_option linter.unusedVariables false
set_option linter.unusedSimpArgs false
set_option maxRecDepth 20000
open Go.RowKit

/-- the tape, and the error that it fails with -/
def TapeSI (E : Nat → Addr) (base T : Nat) (rs : List Rep) (rep : Bool) (x : TS) (o : List Nat) (w : World) : Prop :=
  TapeMem base T rs rep x o w ∧ w.cell? ⟨0, 0, none⟩ = some (.iface 124 (.pointer (some (E 4)))) ∧ 0 < base

theorem RepsAt.frame {w w' : World} {rs : List Rep} {rp : Option Addr} {rl : List Nat} (h : RepsAt w rs rp rl) (hk : ∀ k, k ∈ rl → w'.heap[k]? = w.heap[k]?) : RepsAt w' rs rp rl := fun i r hr => by
  obtain ⟨b, q, e, hm, hc⟩ := h i r hr
  exact ⟨b, q, e, hm, fun j v hv => (World.cell?_of_block (a := ⟨b, _, none⟩) (hk b hm)).trans (hc j v hv)⟩
theorem owns_frame {w w' : World} {base : Nat} {e : TypeId} {size : Nat} {v : Value} {n : Nat} {xs : List Value} (h : w.ownsRow base e size v n xs) (hk : ∀ k, v.ownBlock = some k → w'.heap[k]? = w.heap[k]?) : w'.ownsRow base e size v n xs := by
  obtain ⟨h1, h2⟩ := h
  refine ⟨h1, ?_⟩
  rcases h2 with h2 | ⟨g, cap, cur, rfl, h3, h4, r⟩
  · exact .inl h2
  · exact .inr ⟨g, cap, cur, rfl, h3, (hk g rfl).trans h4, r⟩
theorem TapeMem.frame {base T : Nat} {rs : List Rep} {rep : Bool} {x : TS} {o : List Nat} {w w' : World} (h : TapeMem base T rs rep x o w) (hk : ∀ k, k ∈ o → w'.heap[k]? = w.heap[k]?) : TapeMem base T rs rep x o w' := by
  obtain ⟨rp, rc, cv, rl, h1, h2, h3, h4, h5, h6, rfl⟩ := h
  refine ⟨rp, rc, cv, rl, h1, h2, h3, (hk T (by simp)).trans h4, h5.frame fun k hm => hk k (by simp [hm]), owns_frame h6 fun k hm => hk k (by simp [hm]), rfl⟩

theorem tape_after {base T : Nat} {rs : List Rep} {rep : Bool} {w wx : World} {rp : Option Addr} {rc : Nat} {cv : Value} {rl : List Nat} {calls : List (List UInt8 × Bool)} {pos : Nat} (h : TapeR base T rs rep rp rc rl (T :: (rl ++ cv.ownBlock.toList)) w cv calls pos wx)
    (hnd : (T :: (rl ++ cv.ownBlock.toList)).Nodup) (hlt : ∀ k, k ∈ T :: (rl ++ cv.ownBlock.toList) → k < w.heap.size) (hRP : RepsAt w rs rp rl) (hrc : rs.length ≤ rc) (hrc2 : rc ≤ 9223372036854775807) (hpos : pos ≤ rs.length) :
    ∃ o', TapeMem base T rs rep ⟨pos, calls⟩ o' wx ∧ Off (T :: (rl ++ cv.ownBlock.toList)) w wx ∧ Fresh (T :: (rl ++ cv.ownBlock.toList)) o' w ∧ o'.Nodup ∧ ∀ k, k ∈ o' → k < wx.heap.size := by
  obtain ⟨g, gc, h1, h2, h3, h4, h5, h6, h7⟩ := h
  have hz := h6.size
  refine ⟨T :: (rl ++ [g]), ⟨rp, rc, _, rl, hpos, hrc, hrc2, h1, hRP.frame fun k hk => (h7 k hk).2, h2, rfl⟩, h6, ?_, ?_, ?_⟩
  · intro k hk
    simp only [List.mem_cons, List.mem_append, List.not_mem_nil, or_false] at hk ⊢
    rcases hk with rfl | hk | rfl
    · exact .inl (.inl rfl)
    · exact .inl (.inr (.inl hk))
    · rcases h3 with h3 | h3
      · exact .inl (.inr (.inr (by simp [h3])))
      · exact .inr h3
  · have hn1 := List.nodup_cons.1 hnd
    have hn2 := List.nodup_append.1 hn1.2
    refine List.nodup_cons.2 ⟨?_, List.nodup_append.2 ⟨hn2.1, by simp, ?_⟩⟩
    · intro hm
      rcases List.mem_append.1 hm with hm | hm
      · exact hn1.1 (by simp [hm])
      · simp at hm; exact h5 hm.symm
    · intro a ha b hb
      simp at hb
      subst hb
      rcases h3 with h3 | h3
      · exact hn2.2.2 a ha b (by simp [h3])
      · have := (h7 a ha).1
        omega
  · intro k hk
    simp only [List.mem_cons, List.mem_append, List.not_mem_nil, or_false] at hk
    rcases hk with rfl | hk | rfl
    · have := hlt k (by simp); omega
    · have := (h7 k hk).1; omega
    · exact h4

theorem tape_ok (cf : Cfg) {T : Nat} {rs : List Rep} {rep : Bool} {fu : TS → Nat} (hf : cf.f = 45) (hfirst : cf.first = #[.pointer (some ⟨T, 0, none⟩)]) (hcap : cf.cap = #[]) (hTx : ∀ (i : Nat) (r : Rep), rs[i]? = some r → r.text.size ≤ 140737488355328)
    (hfu : ∀ x, 0 < fu x → x.calls.length < 1000000000000) (hfuel : ∀ x d b, (splitTape rs rep x d b).code = 1 ∨ (splitTape rs rep x d b).code = 2 ∨ fu x ≤ fu (splitTape rs rep x d b).sp + 1) :
    SplitOK cf (TapeSI cf.E cf.base T rs rep) (splitTape rs rep) false fu where
  enters := fun args w => by rw [hf]; rfl
  stable := fun x o w w' ⟨h1, h2, h3⟩ hk hb => ⟨h1.frame hk, (hb.cell (p := ⟨_, 0, none⟩) h3).trans h2, h3⟩
  fuel := hfuel
  calls := fun w x o a n c d eof ⟨⟨rp, rc, cv, rl, hpos, hrl, hrc, hT, hRP, hown, ho⟩, hsp, hsl⟩ hG hlt hnd hby hdn hnc hc4 hde hda hfx => by
    subst ho
    rw [hf, hfirst, hcap]
    have hT1 := hlt T (by simp)
    have hGl : ∀ wx, Off (T :: (rl ++ cv.ownBlock.toList)) w wx → wx.cell? ⟨1, 0, none⟩ = some (.iface 124 (.pointer (some (cf.E 6)))) ∧ wx.cell? ⟨0, 0, none⟩ = some (.iface 124 (.pointer (some (cf.E 4)))) := fun wx ho => by
      have h5 := hG.lt.2.2.2.2
      refine ⟨(ho.cell (p := ⟨_, 0, none⟩) (by show 1 < _; omega) (fun hm => ?_)).trans hG.fin, (ho.cell (p := ⟨_, 0, none⟩) (by show 0 < _; omega) (fun hm => ?_)).trans hsp⟩
      · have := (hlt _ hm).1
        exact absurd h5 (by show ¬ 1 < _; exact Nat.not_lt.2 this)
      · have := (hlt _ hm).1
        exact absurd hsl (by show ¬ 0 < _; exact Nat.not_lt.2 this)
    show Calls Tryd.prog 45 #[.pointer (some ⟨T, 0, none⟩), .slice a n c, .bool eof] w _
    have htp : tpos rs rep x.pos ≤ rs.length := by unfold tpos; split <;> omega
    refine tape_try (E := cf.E) (x := x) (rs := rs) (rep := rep) (base := cf.base) hT hown hnd (fun k hk => (hlt k hk).2) hby hdn (by omega) (by omega) (fun h => ?_) (by omega) (hfu x hfx) hpos (by omega) hGl hRP hTx _ ?_ ?_
    · obtain ⟨p, h1, h2, h3, _⟩ := hda h
      exact ⟨p, h1, h2, h3⟩
    · intro wx hR hpl
      obtain ⟨o', h1, h2, h3, h4, h5⟩ := tape_after hR hnd (fun k hk => (hlt k hk).2) hRP hrl hrc htp
      have e : splitTape rs rep x d eof = ⟨⟨tpos rs rep x.pos, x.calls ++ [(d, eof)]⟩, 0, none, 1⟩ := by
        unfold splitTape
        rw [hpl, List.getElem?_eq_none (Nat.le_refl _)]
      rw [e]
      exact ⟨_, o', rfl, ⟨h1, (hGl wx h2).2, hsl⟩, h2, h3, h4, h5, rfl⟩
    · intro wx r tokv hr hR htok
      have hlt2 : tpos rs rep x.pos < rs.length := (List.getElem?_eq_some_iff.1 hr).1
      obtain ⟨o', h1, h2, h3, h4, h5⟩ := tape_after hR hnd (fun k hk => (hlt k hk).2) hRP hrl hrc (by omega)
      have e : splitTape rs rep x d eof = ⟨⟨tpos rs rep x.pos + 1, x.calls ++ [(d, eof)]⟩, if r.all then d.length else r.adv, tokR r d, codeR r.err⟩ := by
        unfold splitTape
        rw [hr]
      rw [e]
      exact ⟨_, o', rfl, ⟨h1, (hGl wx h2).2, hsl⟩, h2, h3, h4, h5, htok⟩
end Go.Proofs.YtkclapimgmnldaaDoor
