/-
  ruled.split: a split function by a rule, and keeps the calls.
-/
import Derived.Test.YtkclapimgmnldaaDoorQT
import Derived.Test.YtkclapimgmnldaaDoorQRun
import Derived.Test.YtkclapimgmnldaaDoorQQ
import Derived.Deep.RegionHeld3
import Derived.Deep.AppendLies
import Derived.Deep.DeepCutAuto
import Derived.Deep.CutBlock
namespace Go.Proofs.YtkclapimgmnldaaDoor
set_option linter.unusedVariables false
set_option linter.unusedSimpArgs false
set_option maxRecDepth 20000
open Go.RowKit

/-- a call's cells -/
abbrev callV (c : List UInt8 × Bool) : List Value := [sv c.1, .bool c.2]
/-- the breaks in memory -/
def BrksAt (w : World) (bs : List Bool) (bp : Option Addr) (rl : List Nat) : Prop :=
  ∀ i b, bs[i]? = some b → ∃ k q, bp = some ⟨k, q, none⟩ ∧ k ∈ rl ∧ w.cell? ⟨k, q + i, none⟩ = some (.bool b)
/-- the cells of a rule that cuts -/
abbrev rulC (u : Rl) (bp : Option Addr) (bc : Nat) (cv : Value) : Array Value := #[.slice bp u.brks.length bc, .bool u.keep, .bool u.skip, .int .i64 u.stop, .int .i64 u.fail, cv]
/-- it lies in memory -/
def RuleMem (base T : Nat) (u : Rl) (x : RS) (o : List Nat) (w : World) : Prop :=
  ∃ bp bc cv rl, u.brks.length ≤ bc ∧ bc ≤ 9223372036854775807 ∧ w.heap[T]? = some (.cells (rulC u bp bc cv) 77 (0, 0)) ∧
    BrksAt w u.brks bp rl ∧ w.ownsRow base 47 2 cv x.length (x.flatMap callV) ∧ o = T :: (rl ++ cv.ownBlock.toList)
/-- its fuel -/
def fuRule (x : RS) : Nat := 1000000000000 - x.length

theorem conv_any (w : World) (a : Option Addr) (c : Nat) (d : List UInt8) (h : Bytes8 w a d) : (convert 101 9 (.slice a d.length c)).run Tryd.prog w = .ok (sv d) w := by
  cases a with
  | some p => exact conv_text w p c d h
  | none =>
    have : d = [] := by
      cases d with
      | nil => rfl
      | cons b r =>
        obtain ⟨_, _, e, _⟩ := h 0 b rfl
        cases e
    subst this
    rw [run_convert_bytes_string w 101 9 5 _ _ c (by kernel_rfl) (by kernel_rfl) (by kernel_rfl)]
    first | rfl | simp [Conv.bytesToString, Sem.run_pure, sv]

theorem info_call : (Tryd.prog.info? 47).map (fun i => (i.zero, i.size, i.bytes)) = some (some (.agg #[.string ⟨#[]⟩, .bool false]), 2, 24) := by kernel_rfl
theorem two_new (w : World) (x y : Value) (t : TypeId) : ∀ j u, [x, y][j]? = some u → (w.alloc (.cells #[x, y] t)).cell? ((⟨w.heap.size, 0, none⟩ : Addr).add j) = some u := by
  intro j u hj
  have hplain : (⟨w.heap.size, 0, none⟩ : Addr).add j = ⟨w.heap.size, 0 + j, none⟩ := by unfold Addr.add; split <;> simp_all
  rw [hplain, cell_of_heap (heap_new w _)]
  simpa using hj
theorem step_append_call {w : World} {ops : Array Oper} {o : Oper} {a : Act} {K : Act → World → Prop} {Q : Exit → Act → World → Prop} {G : Prop} (hgd : o.guard = none) (s x : Operand)
    (ho : o.op = .call { callee := .builtin .append, args := #[s, x], argTypes := #[35, 35] }) (base : Nat) (v : Value) (n : Nat) (xs : List Value) (hs : a.eval s = v) (hown : w.ownsRow base 47 2 v n xs)
    (ad : Addr) (d : List UInt8) (eof : Bool) (hx : a.eval x = .slice (some ad) 1 1) (hnews : ∀ j u, [sv d, .bool eof][j]? = some u → w.cell? (ad.add j) = some u) (hn : n < 1000000000000) (hbase : base ≤ w.heap.size)
    (h : ∀ g cap w', w'.ownsRow base 47 2 (.slice (some ⟨g, 0, none⟩) (n + 1) cap) (n + 1) (xs ++ [sv d, .bool eof]) → w.grownBy w' v.ownBlock → (v.ownBlock = some g ∨ g = w.heap.size) → K (a.put o.dst (.slice (some ⟨g, 0, none⟩) (n + 1) cap)) w') : if Region.wanted o (yielded ops a.tmps) = true then Oper.wp Tryd.prog o a w K Q else G := by
  have hw : Region.wanted o (yielded ops a.tmps) = true := by simp [Region.wanted, hgd]
  rw [if_pos hw]
  obtain ⟨i0, hi, hz0, hz1, hz2⟩ := info_parts info_call
  obtain ⟨v', w', hrun, h4, h5, _, h7⟩ := run_append_own_at (P := Tryd.prog) w base 35 o.type 47 i0 (.agg #[.string ⟨#[]⟩, .bool false]) 2 24 Tryd.underlying35 hi hz0 hz1 hz2 rfl (by decide) v n xs hown ad 1 1 [sv d, .bool eof] rfl hnews
    (fun u hu => by simp at hu; rcases hu with rfl | rfl <;> rfl) (by unfold maxLen; omega) (by omega) hbase
  unfold Oper.wp execOp
  simp only [ho, resolve, invoke, builtin, Sem.run_bind, Sem.run_pure, Result.andThen_ok, List.map_toArray, List.map_cons, List.map_nil, hs, hx, hrun]
  obtain ⟨g, cap, rfl⟩ : ∃ g cap, v' = .slice (some ⟨g, 0, none⟩) (n + 1) cap := by
    rcases h4.2 with ⟨_, h0⟩ | ⟨g, cap, _, e, _⟩
    · omega
    · exact ⟨g, cap, e⟩
  refine h g cap w' h4 h5 ?_
  simp only [Value.ownBlock, Option.some.injEq] at h7
  rcases h7 with h7 | h7
  · exact .inl h7.symm
  · exact .inr h7
theorem rule_keep {w w1 : World} {T : Nat} {cs : Array Value} {ty : TypeId} {ob : Obj} {row : Option Nat} (hT : w.heap[T]? = some (.cells cs ty (0, 0))) (hgrow : (w.drew.alloc ob).grownBy w1 row) (hne : ∀ k, row = some k → k ≠ T) : w1.heap[T]? = some (.cells cs ty (0, 0)) := by
  have hlt : T < w.heap.size := by
    rcases Nat.lt_or_ge T w.heap.size with h | h
    · exact h
    · rw [Array.getElem?_eq_none h] at hT; cases hT
  have hlt' : T < (w.drew.alloc ob).heap.size := by
    show T < (w.drew.heap.push ob).size
    simp
    exact Nat.lt_succ_of_lt hlt
  rw [hgrow.block T hlt' (fun e => hne T e.symm rfl), Below.heap_alloc _ _ _ (by exact hlt)]
  exact hT

/-- behind its first statement -/
def RuleR (base T : Nat) (u : Rl) (bp : Option Addr) (bc : Nat) (rl o : List Nat) (w : World) (cv : Value) (calls : RS) (wx : World) : Prop :=
  ∃ g gc, wx.heap[T]? = some (.cells (rulC u bp bc (.slice (some ⟨g, 0, none⟩) calls.length gc)) 77 (0, 0)) ∧
    wx.ownsRow base 47 2 (.slice (some ⟨g, 0, none⟩) calls.length gc) calls.length (calls.flatMap callV) ∧ (cv.ownBlock = some g ∨ w.heap.size ≤ g) ∧ g < wx.heap.size ∧ g ≠ T ∧ Off o w wx ∧ (∀ k, k ∈ rl → k < w.heap.size ∧ wx.heap[k]? = w.heap[k]?)

section
variable {base T : Nat} {u : Rl} {x : RS} {w : World} {E : Nat → Addr} {a : Option Addr} {n c : Nat} {d : List UInt8} {eof : Bool} {bp : Option Addr} {bc : Nat} {cv : Value} {rl o : List Nat}
theorem rule_first {w1 : World} {g gc : Nat} {ob : Obj} {calls : RS} (hT : w.heap[T]? = some (.cells (rulC u bp bc cv) 77 (0, 0)))
    (hrow : w1.ownsRow base 47 2 (.slice (some ⟨g, 0, none⟩) (calls.length + 1) gc) (calls.length + 1) (calls.flatMap callV ++ [sv d, .bool eof])) (hgrow : (w.drew.alloc ob).grownBy w1 cv.ownBlock) (hat : cv.ownBlock = some g ∨ g = (w.drew.alloc ob).heap.size)
    (hnd : (T :: (rl ++ cv.ownBlock.toList)).Nodup) (hlt : ∀ k, k ∈ T :: (rl ++ cv.ownBlock.toList) → k < w.heap.size) :
    RuleR base T u bp bc rl (T :: (rl ++ cv.ownBlock.toList)) w cv (calls ++ [(d, eof)]) (w1.setCell ⟨T, 5, none⟩ (.slice (some ⟨g, 0, none⟩) (calls.length + 1) gc)) := by
  have hne : ∀ k, cv.ownBlock = some k → k ≠ T := fun k hk e => by
    subst e
    have := (List.nodup_cons.1 hnd).1
    simp [hk] at this
  have kT := rule_keep hT hgrow hne
  have hTlt := hlt T (by simp)
  have hsz : (w.drew.alloc ob).heap.size = w.heap.size + 1 := by simp
  have hgT : g ≠ T := by
    rcases hat with h | h
    · exact hne g h
    · rw [hsz] at h; omega
  have hglt := World.ownsRow.lt hrow g rfl
  refine ⟨g, gc, ?_, ?_, ?_, ?_, hgT, ?_, ?_⟩
  · rw [heap_setCell_at kT]; simp
  · obtain ⟨h1, h2⟩ := hrow
    have e : (calls ++ [(d, eof)]).flatMap callV = calls.flatMap callV ++ [sv d, .bool eof] := by simp
    rw [e, List.length_append, List.length_singleton]
    refine ⟨h1, ?_⟩
    rcases h2 with h2 | ⟨g', cap, cur, e1, h3, h4, r⟩
    · exact .inl h2
    · simp only [Value.slice.injEq, Option.some.injEq, Addr.mk.injEq, and_true] at e1
      obtain ⟨rfl, -, rfl⟩ := e1
      exact .inr ⟨g, gc, cur, rfl, h3, (heap_setCell_not hgT _).trans h4, r⟩
  · rcases hat with h | h
    · exact .inl h
    · exact .inr (by rw [hsz] at h; omega)
  · rw [World.size_setCell]; exact hglt.2
  · have h1 : Off (T :: (rl ++ cv.ownBlock.toList)) w (w.drew.alloc ob) := ((Off.refl _ w).drewN 1).alloc ob
    have h2 : Off (T :: (rl ++ cv.ownBlock.toList)) (w.drew.alloc ob) w1 := ⟨hgrow.os, hgrow.tape, hgrow.output, hgrow.size, fun k hk hn => hgrow.block k hk (fun e => hn (by simp [← e]))⟩
    exact (h1.trans h2 (Fresh.refl _ _)).setCell (p := ⟨T, 5, none⟩) (by simp) _
  · intro k hk
    have hkT : k ≠ T := fun e => by
      subst e
      have := (List.nodup_cons.1 hnd).1
      simp [hk] at this
    have hkc : some k ≠ cv.ownBlock := fun e => by
      have h3 := (List.nodup_append.1 (List.nodup_cons.1 hnd).2).2.2 k hk k (by simp [← e])
      exact h3 rfl
    refine ⟨hlt k (by simp [hk]), ?_⟩
    rw [heap_setCell_not hkT, hgrow.block k (by rw [hsz]; have := hlt k (by simp [hk]); omega) hkc]
    exact Below.heap_alloc _ _ _ (hlt k (by simp [hk]))
theorem RuleR.drewN {calls : RS} {wx : World} (h : RuleR base T u bp bc rl o w cv calls wx) (n : Nat) : RuleR base T u bp bc rl o w cv calls (wx.drewN n) := by
  obtain ⟨g, gc, h1, h2, h3, h4, h5, h6, h7⟩ := h
  exact ⟨g, gc, h1, h2, h3, h4, h5, h6.drewN n, h7⟩
theorem RuleR.cells {calls : RS} {wx : World} (h : RuleR base T u bp bc rl o w cv calls wx) :
    wx.cell? ⟨T, 0, none⟩ = some (.slice bp u.brks.length bc) ∧ wx.cell? ⟨T, 1, none⟩ = some (.bool u.keep) ∧ wx.cell? ⟨T, 2, none⟩ = some (.bool u.skip) ∧ wx.cell? ⟨T, 3, none⟩ = some (.int .i64 u.stop) ∧ wx.cell? ⟨T, 4, none⟩ = some (.int .i64 u.fail) := by
  obtain ⟨g, gc, h1, h2, h3, h4, h5, h6, h7⟩ := h
  exact ⟨cell_of_heap h1, cell_of_heap h1, cell_of_heap h1, cell_of_heap h1, cell_of_heap h1⟩

theorem tok_part {wx : World} {pb po : Nat} {n : Nat} (hby : Bytes8 wx (some ⟨pb, po, none⟩) d) (f k c : Nat) (hfk : f ≤ k) (hk : k ≤ d.length) (hc : d.length ≤ c ∧ c ≤ 4194304) :
    TokAt wx true n (some ⟨pb, po, none⟩) (.slice (some ⟨pb, po + f, none⟩) (k - f) (c - f)) (some ((d.take k).drop f)) := by
  have hl : ((d.take k).drop f).length = k - f := by simp; omega
  have hcell : ∀ i v, ((d.take k).drop f)[i]? = some v → wx.cell? ⟨pb, po + f + i, none⟩ = some (bv v) := fun i v hv => by
    have hv' : d[f + i]? = some v := by
      rw [List.getElem?_drop, List.getElem?_take] at hv
      split at hv
      · exact hv
      · cases hv
    obtain ⟨b', o', e, hc⟩ := hby _ _ hv'
    simp only [Option.some.injEq, Addr.mk.injEq, and_true] at e
    obtain ⟨rfl, rfl⟩ := e
    rw [Nat.add_assoc]; exact hc
  refine ⟨⟨pb, po + f, none⟩, c - f, by rw [hl], by omega, by omega, fun i v hv => ⟨pb, po + f, rfl, hcell i v hv⟩, fun hne => ⟨?_, .inl ⟨_, rfl, rfl⟩⟩, fun _ _ => ⟨_, rfl, rfl⟩⟩
  obtain ⟨v, r, e⟩ := List.exists_cons_of_ne_nil hne
  exact World.block_lt_of_cell? wx _ (hcell 0 v (by rw [e]; rfl))
theorem drop_cons {d : List UInt8} {k : Nat} {b : UInt8} (h : d[k]? = some b) : d.drop k = b :: d.drop (k + 1) := by
  obtain ⟨hk, e⟩ := List.getElem?_eq_some_iff.1 h
  rw [List.drop_eq_getElem_cons hk, e]

set_option maxRecDepth 100000 in
set_option maxHeartbeats 2000000 in
theorem rule_try (hT : w.heap[T]? = some (.cells (rulC u bp bc cv) 77 (0, 0))) (hc : w.ownsRow base 47 2 cv x.length (x.flatMap callV))
    (hnd : (T :: (rl ++ cv.ownBlock.toList)).Nodup) (hlt : ∀ k, k ∈ T :: (rl ++ cv.ownBlock.toList) → k < w.heap.size) (hd : Bytes8 w a d) (hn : d.length = n) (hcb : d.length ≤ c ∧ c ≤ 4194304) (hda : d ≠ [] → ∃ p, a = some p ∧ p.block ∉ T :: (rl ++ cv.ownBlock.toList) ∧ p.block < w.heap.size) (hb : base ≤ w.heap.size) (hfu : x.length < 1000000000000) (hbc : u.brks.length ≤ bc ∧ bc ≤ 9223372036854775807)
    (hG : ∀ wx, Off (T :: (rl ++ cv.ownBlock.toList)) w wx → wx.cell? ⟨1, 0, none⟩ = some (.iface 124 (.pointer (some (E 6)))) ∧ wx.cell? ⟨0, 0, none⟩ = some (.iface 124 (.pointer (some (E 4))))) (hBP : BrksAt w u.brks bp rl) (PP : Ending → World → Prop)
    (hP : ∀ wx tokv, RuleR base T u bp bc rl (T :: (rl ++ cv.ownBlock.toList)) w cv (x ++ [(d, eof)]) wx → TokAt wx true w.heap.size a tokv (ansR u d eof).2.1 → PP (.returned (.tuple #[.int .i64 (ansR u d eof).1, tokv, codeV E (ansR u d eof).2.2])) wx) :
    Calls Tryd.prog 37 #[.pointer (some ⟨T, 0, none⟩), .slice a n c, .bool eof] w PP := by
  subst hn
  have hne : ∀ k, cv.ownBlock = some k → k ≠ T := fun k hk e => by
    subst e
    have := (List.nodup_cons.1 hnd).1
    simp [hk] at this
  have HV : (convert 101 9 (.slice a d.length c)).run Tryd.prog w.drew = .ok (sv d) w.drew := conv_any (w.drewN 1) a c d (hd.drewN 1)
  have HR := Lib.hid hc
  have HN := Lib.hid hfu
  have HB := Lib.hid hb
  have HT := Lib.hid hT
  have HD := Lib.hid (And.intro hnd hlt)
  have HCb := Lib.hid hcb
  have HP := Lib.hid hP
  have HBc := Lib.hid hbc
  have HG := Lib.hid (fun wx (h : RuleR base T u bp bc rl (T :: (rl ++ cv.ownBlock.toList)) w cv (x ++ [(d, eof)]) wx) => hG wx (by obtain ⟨_, _, _, _, _, _, _, h, _⟩ := h; exact h))
  have HBy := Lib.hid (fun wx (h : RuleR base T u bp bc rl (T :: (rl ++ cv.ownBlock.toList)) w cv (x ++ [(d, eof)]) wx) => (show Bytes8 wx a d from fun i b hb => by
    obtain ⟨_, _, _, _, _, _, _, ho, _⟩ := h
    obtain ⟨p, rfl, h1, h2⟩ := hda (fun e => by rw [e] at hb; simp at hb)
    obtain ⟨bb, oo, e, hc⟩ := hd i b hb
    obtain rfl := Option.some.inj e
    exact ⟨bb, oo, rfl, (ho.cell (p := ⟨bb, oo + i, none⟩) h2 h1).trans hc⟩))
  have HBr := Lib.hid (fun wx (h : RuleR base T u bp bc rl (T :: (rl ++ cv.ownBlock.toList)) w cv (x ++ [(d, eof)]) wx) i b (hb : u.brks[i]? = some b) => (show ∃ k q, bp = some ⟨k, q, none⟩ ∧ wx.cell? ⟨k, q + i, none⟩ = some (.bool b) from by
    obtain ⟨_, _, _, _, _, _, _, _, hk⟩ := h
    obtain ⟨k, q, e, hm, hc⟩ := hBP i b hb
    exact ⟨k, q, e, (World.cell?_of_block (a := ⟨k, q + i, none⟩) (hk k hm).2).trans hc⟩))
  have HDA := Lib.hid hda
  have c5 : w.cell? ⟨T, 5, none⟩ = some cv := cell_of_heap (i := 5) hT
  have c5a : (w.alloc (.cells #[sv d, .bool eof] 47)).cell? ⟨T, 5, none⟩ = some cv := by
    rw [World.cell?_of_block (a := ⟨T, 5, none⟩) (Below.heap_alloc w _ T (hlt T (by simp)))]
    exact c5
  have hfz := frozen_of_heap hT
  clear hd hc hT hb hfu hnd hlt hG hBP hcb hda hP hbc
  go_enter Tryd.func37, Tryd.ntmps37
  go_wp2_with fail
  go_cut [] (fun wx => RuleR base T u bp bc rl (T :: (rl ++ cv.ownBlock.toList)) w cv (x ++ [(d, eof)]) wx)
  case first =>
    go_region_law (first
      | (refine step_append_call (by rfl) (.tmp 16) (.tmp 21) (by rfl) base cv x.length (x.flatMap callV) (by rfl) (World.ownsRow.alloc (w := w.drew) HR.out _) ⟨w.heap.size, 0, none⟩ d eof (by rfl) (two_new _ _ _ _) HN.out (by have := HB.out; simp; omega) ?_; intro g gc w1 hrow hgrow hat; have kT := rule_keep HT.out hgrow hne; have k3 := cell_of_heap (i := 5) kT; have kf := frozen_of_heap kT; simp at k3)
      | fail)
    all_goals (go_wp2_with fail; go_meet; exact rule_first HT.out hrow hgrow hat HD.out.1 HD.out.2)
  case rest =>
    have HC := Lib.hid hcut
    generalize T :: (rl ++ cv.ownBlock.toList) = o at *
    generalize x ++ [(d, eof)] = calls at *
    clear hcut c5 c5a hfz HV HR HN HB HT HD hne
    go_wp2_with fail
    go_loopw [9, 27] (fun f i wr => ∃ fn k : Nat, f = .int .i64 (fn : Int) ∧ i = .int .i64 (k : Int) ∧ fn ≤ k ∧ k ≤ d.length ∧ RuleR base T u bp bc rl o w cv calls wr ∧ rEv u [] d = rEv u ((d.take k).drop fn) (d.drop k)) (fun _ i _ => d.length - (intOf i).toNat)
    case atStart => exact ⟨0, 0, rfl, rfl, Nat.le_refl _, Nat.zero_le _, HC.out, by simp⟩
    case round =>
      obtain ⟨fn, k, rfl, rfl, hfk, hk, hRR, hrev⟩ := hrel
      obtain ⟨c0, c1, c2, c3, c4⟩ := hRR.cells
      have hcb1 := HCb.out.1
      have hcb2 := HCb.out.2
      have HRR := Lib.hid hRR
      have HRev := Lib.hid hrev
      by_cases hkd : k < d.length
      · obtain ⟨b, hb⟩ : ∃ b, d[k]? = some b := ⟨_, List.getElem?_eq_getElem hkd⟩
        obtain ⟨pb, po, rfl, hcell⟩ := HBy.out wr hRR k b hb
        have HTk := Lib.hid (fun wx (h : RuleR base T u bp bc rl o w cv calls wx) j (h1 : fn ≤ j) (h2 : j ≤ d.length) => tok_part (n := w.heap.size) (HBy.out wx h) fn j c h1 h2 HCb.out)
        have hblt := b.toNat_lt
        have hdk : d.drop k = b :: d.drop (k + 1) := drop_cons hb
        have HDk := Lib.hid hdk
        obtain ⟨hgf, hgs⟩ := HG.out wr hRR
        clear hRR hrev hdk
        by_cases h1 : (b.toNat : Int) = u.fail
        · have e1 : ((b.toNat : Int) == u.fail) = true := by simp [h1]
          have hA : ansR u d eof = (0, none, 2) := ans_fail (by rw [HRev.out, HDk.out]; exact rEv_fail h1)
          have HQ := Lib.hid (fun nn => (show PP (.returned (.tuple #[.int .i64 0, .slice none 0 0, .iface 124 (.pointer (some (E 4)))])) (wr.drewN nn) from by
            have := HP.out (wr.drewN nn) (.slice none 0 0) (HRR.out.drewN nn)
            rw [hA] at this
            exact this rfl))
          have H1 := Lib.hid h1
          clear h1 hA hb
          go_wp2_with fail
          go_quiet (fail)
          go_wp2_with fail
          go_ret3
          exact HQ.out _
        · have e1 : ((b.toNat : Int) == u.fail) = false := by simp [h1]
          by_cases h2 : (b.toNat : Int) = u.stop
          · have e2 : ((b.toNat : Int) == u.stop) = true := by simp [h2]
            have hA := ans_stop (eof := eof) (show rEv u [] d = .stop _ _ by rw [HRev.out, HDk.out]; exact rEv_stop h1 h2)
            have hln : d.length - (b :: d.drop (k + 1)).length = k := by rw [← HDk.out]; simp; omega
            rw [hln] at hA
            by_cases h3 : k = fn
            · have e3 : ((k : Int) == (fn : Int)) = true := by simp [h3]
              rw [if_pos ((cur_nil hfk hk).2 h3)] at hA
              have HQ := Lib.hid (fun nn => (show PP (.returned (.tuple #[.int .i64 (k : Int), .slice none 0 0, .iface 124 (.pointer (some (E 6)))])) (wr.drewN nn) from by
                have := HP.out (wr.drewN nn) (.slice none 0 0) (HRR.out.drewN nn)
                rw [hA] at this
                exact this rfl))
              have H1 := Lib.hid (And.intro h1 (And.intro h2 h3))
              clear h1 h2 h3 hA hb hln
              go_wp2_with fail
              go_quiet (fail)
              go_wp2_with fail
              go_ret3
              exact HQ.out _
            · have e3 : ((k : Int) == (fn : Int)) = false := by simp; omega
              rw [if_neg (fun h => h3 ((cur_nil hfk hk).1 h))] at hA
              have HQ := Lib.hid (fun nn => (show PP (.returned (.tuple #[.int .i64 (k : Int), .slice (some ⟨pb, po + fn, none⟩) (k - fn) (c - fn), .iface 124 (.pointer (some (E 6)))])) (wr.drewN nn) from by
                have := HP.out (wr.drewN nn) (.slice (some ⟨pb, po + fn, none⟩) (k - fn) (c - fn)) (HRR.out.drewN nn)
                rw [hA] at this
                exact this (HTk.out _ (HRR.out.drewN nn) k hfk hk)))
              have hfc : ¬ fn = c := by omega
              have H1 := Lib.hid (And.intro h1 (And.intro h2 h3))
              clear h1 h2 h3 hA hb hln
              go_wp2_with fail
              go_quiet (fail)
              go_wp2_with fail
              go_ret3
              exact HQ.out _
          · have e2 : ((b.toNat : Int) == u.stop) = false := by simp [h2]
            by_cases h4 : u.brks.length ≤ b.toNat
            · have e4 : decide ((u.brks.length : Int) ≤ (b.toNat : Int)) = true := by simp; omega
              have hbr : u.brk b = false := by
                unfold Rl.brk
                rw [List.getD_eq_getElem?_getD, List.getElem?_eq_none h4]
                rfl
              have HN := Lib.hid (show rEv u [] d = rEv u ((d.take (k + 1)).drop fn) (d.drop (k + 1)) from by
                rw [HRev.out, HDk.out, rEv_more h1 h2 hbr, cur_more hb hfk])
              have H1 := Lib.hid (And.intro h1 (And.intro h2 h4))
              have e4' : decide (u.brks.length ≤ b.toNat) = true := by simp; omega
              have h4i : (u.brks.length : Int) ≤ (b.toNat : Int) := by omega
              clear h1 h2 hb hbr
              go_wp2_with fail
              first
                | go_quiet (fail)
                | skip
              go_wp2_with fail
              go_roundw
              case rel => exact ⟨fn, k + 1, rfl, by go_num, by omega, by omega, by first | exact HRR.out.drewN _ | exact HRR.out, HN.out⟩
              case measure => simp [intOf]; omega
            · have e4 : decide ((u.brks.length : Int) ≤ (b.toNat : Int)) = false := by simp; omega
              obtain ⟨bb, hbb⟩ : ∃ bb, u.brks[b.toNat]? = some bb := ⟨_, List.getElem?_eq_getElem (by omega)⟩
              obtain ⟨kb, qb, rfl, hbc⟩ := HBr.out wr HRR.out _ _ hbb
              have hbrk : u.brk b = bb := by
                unfold Rl.brk
                rw [List.getD_eq_getElem?_getD, hbb]
                rfl
              have hl4 : (b.toNat : Int) < (u.brks.length : Int) := by omega
              have hbl : b.toNat < u.brks.length := by omega
              have hbcc1 := HBc.out.1
              have hbcc2 := HBc.out.2
              cases bb with
              | false =>
                have HN := Lib.hid (show rEv u [] d = rEv u ((d.take (k + 1)).drop fn) (d.drop (k + 1)) from by
                  rw [HRev.out, HDk.out, rEv_more h1 h2 hbrk, cur_more hb hfk])
                have H1 := Lib.hid (And.intro h1 (And.intro h2 h4))
                clear h1 h2 h4 hb hbrk hbb
                go_wp2_with fail
                first
                  | go_quiet (fail)
                  | skip
                go_wp2_with fail
                go_roundw
                case rel => exact ⟨fn, k + 1, rfl, by go_num, by omega, by omega, by first | exact HRR.out.drewN _ | exact HRR.out, HN.out⟩
                case measure => simp [intOf]; omega
              | true =>
                have hbrk' : ¬ u.brk b = false := by rw [hbrk]; simp
                by_cases h5 : k = fn ∧ u.skip = true
                · have e5 : ((k : Int) == (fn : Int)) = true := by simp [h5.1]
                  have e6 := h5.2
                  have HN := Lib.hid (show rEv u [] d = rEv u ((d.take (k + 1)).drop (k + 1)) (d.drop (k + 1)) from by
                    rw [HRev.out, HDk.out, (cur_nil hfk hk).2 h5.1, rEv_skip h1 h2 hbrk' h5.2, (cur_nil (Nat.le_refl _) (by omega)).2 rfl])
                  have H1 := Lib.hid (And.intro h1 (And.intro h2 (And.intro h4 h5)))
                  rw [e6] at c2
                  clear h1 h2 h4 h5 hb hbrk hbb hbrk' e6
                  go_wp2_with fail
                  first
                    | go_quiet (fail)
                    | skip
                  go_wp2_with fail
                  go_roundw
                  case rel => exact ⟨k + 1, k + 1, by go_num, by go_num, by omega, by omega, by first | exact HRR.out.drewN _ | exact HRR.out, HN.out⟩
                  case measure => simp [intOf]; omega
                · have h5' : ¬ ((d.take k).drop fn = [] ∧ u.skip = true) := fun h => h5 ⟨(cur_nil hfk hk).1 h.1, h.2⟩
                  have hln : d.length - (d.drop (k + 1)).length = k + 1 := by simp; omega
                  have hfc : ¬ fn = c := by omega
                  have HE5 : Hid ((((k : Int) == (fn : Int)) && u.skip) = false) := Lib.hid (by
                    cases hsk : u.skip with
                    | false => simp
                    | true =>
                      have : ¬ k = fn := fun h => h5 ⟨h, hsk⟩
                      simp; omega)
                  cases hkp : u.keep with
                  | true =>
                    have hA := ans_tok (eof := eof) (show rEv u [] d = .tok _ _ by rw [HRev.out, HDk.out]; exact rEv_keep h1 h2 hbrk' h5' hkp)
                    rw [hln, cur_more hb hfk] at hA
                    have HQ := Lib.hid (fun nn => (show PP (.returned (.tuple #[.int .i64 ((k : Int) + 1), .slice (some ⟨pb, po + fn, none⟩) (k + 1 - fn) (c - fn), .nilIface])) (wr.drewN nn) from by
                      have := HP.out (wr.drewN nn) (.slice (some ⟨pb, po + fn, none⟩) (k + 1 - fn) (c - fn)) (HRR.out.drewN nn)
                      rw [hA] at this
                      exact this (HTk.out _ (HRR.out.drewN nn) (k + 1) (by omega) (by omega))))
                    have H1 := Lib.hid (And.intro h1 (And.intro h2 (And.intro h4 h5)))
                    rw [hkp] at c1
                    clear h1 h2 h4 h5 hb hbrk hbb hbrk' h5' hln hA hkp
                    cases hkf : ((k : Int) == (fn : Int)) with
                    | true =>
                      have hsk : u.skip = false := by have := HE5.out; rw [hkf] at this; simpa using this
                      rw [hsk] at c2
                      clear hsk
                      go_wp2_with fail
                      first
                        | go_quiet (fail)
                        | skip
                      go_wp2_with fail
                      first
                        | go_quiet (fail)
                        | skip
                      go_wp2_with fail
                      go_ret3
                      exact HQ.out _
                    | false =>
                      go_wp2_with fail
                      first
                        | go_quiet (fail)
                        | skip
                      go_wp2_with fail
                      first
                        | go_quiet (fail)
                        | skip
                      go_wp2_with fail
                      go_ret3
                      exact HQ.out _
                  | false =>
                    have hA := ans_tok (eof := eof) (show rEv u [] d = .tok _ _ by rw [HRev.out, HDk.out]; exact rEv_cut h1 h2 hbrk' h5' hkp)
                    rw [hln] at hA
                    have HQ := Lib.hid (fun nn => (show PP (.returned (.tuple #[.int .i64 ((k : Int) + 1), .slice (some ⟨pb, po + fn, none⟩) (k - fn) (c - fn), .nilIface])) (wr.drewN nn) from by
                      have := HP.out (wr.drewN nn) (.slice (some ⟨pb, po + fn, none⟩) (k - fn) (c - fn)) (HRR.out.drewN nn)
                      rw [hA] at this
                      exact this (HTk.out _ (HRR.out.drewN nn) k hfk hk)))
                    have H1 := Lib.hid (And.intro h1 (And.intro h2 (And.intro h4 h5)))
                    rw [hkp] at c1
                    clear h1 h2 h4 h5 hb hbrk hbb hbrk' h5' hln hA hkp
                    cases hkf : ((k : Int) == (fn : Int)) with
                    | true =>
                      have hsk : u.skip = false := by have := HE5.out; rw [hkf] at this; simpa using this
                      rw [hsk] at c2
                      clear hsk
                      go_wp2_with fail
                      first
                        | go_quiet (fail)
                        | skip
                      go_wp2_with fail
                      first
                        | go_quiet (fail)
                        | skip
                      go_wp2_with fail
                      go_ret3
                      exact HQ.out _
                    | false =>
                      go_wp2_with fail
                      first
                        | go_quiet (fail)
                        | skip
                      go_wp2_with fail
                      first
                        | go_quiet (fail)
                        | skip
                      go_wp2_with fail
                      go_ret3
                      exact HQ.out _
      · have hkl : k = d.length := by omega
        have hrv : rEv u [] d = .over (d.drop fn) := by
          rw [HRev.out, hkl, List.drop_length, List.take_length]
          rfl
        have hdl : d.length - (d.drop fn).length = fn := by simp; omega
        have hdn : d.drop fn = [] ↔ d.length ≤ fn := by
          rw [List.drop_eq_nil_iff]
        by_cases hf2 : fn < d.length
        · cases eof with
          | true =>
            have hA := ans_over1 hrv (fun h => by have := hdn.1 h; omega)
            have hne : d ≠ [] := fun h => by rw [h] at hf2; simp at hf2
            obtain ⟨pb, po, rfl⟩ := (HBy.out wr hRR).form hne
            have HQ := Lib.hid (fun nn => (show PP (.returned (.tuple #[.int .i64 (d.length : Int), .slice (some ⟨pb, po + fn, none⟩) (d.length - fn) (c - fn), .nilIface])) (wr.drewN nn) from by
              have := HP.out (wr.drewN nn) (.slice (some ⟨pb, po + fn, none⟩) (d.length - fn) (c - fn)) (HRR.out.drewN nn)
              rw [hA] at this
              have ht := tok_part (n := w.heap.size) (HBy.out _ (HRR.out.drewN nn)) fn d.length c (by omega) (Nat.le_refl _) HCb.out
              rw [List.take_length] at ht
              exact this ht))
            have hfc : ¬ fn = c := by omega
            clear hRR hrev hrv hdl hdn hA hne
            subst hkl
            go_wp2_with fail
            go_quiet (fail)
            go_wp2_with fail
            go_ret3
            first | exact HQ.out 0 | exact HQ.out _
          | false =>
            have hA := ans_over0 (eof := false) hrv (.inl rfl)
            rw [hdl] at hA
            have HQ := Lib.hid (fun nn => (show PP (.returned (.tuple #[.int .i64 (fn : Int), .slice none 0 0, .nilIface])) (wr.drewN nn) from by
              have := HP.out (wr.drewN nn) (.slice none 0 0) (HRR.out.drewN nn)
              rw [hA] at this
              exact this rfl))
            clear hRR hrev hrv hdl hdn hA
            subst hkl
            go_wp2_with fail
            go_ret3
            first | exact HQ.out 0 | exact HQ.out _
        · have hA := ans_over0 (eof := eof) hrv (.inr (hdn.2 (by omega)))
          rw [hdl] at hA
          have HQ := Lib.hid (fun nn => (show PP (.returned (.tuple #[.int .i64 (fn : Int), .slice none 0 0, .nilIface])) (wr.drewN nn) from by
            have := HP.out (wr.drewN nn) (.slice none 0 0) (HRR.out.drewN nn)
            rw [hA] at this
            exact this rfl))
          clear hRR hrev hrv hdl hdn hA
          subst hkl
          have hf3 : decide ((fn : Int) < (d.length : Int)) = false := by simp; omega
          have hf4 : fn = d.length := by omega
          cases eof with
          | true =>
            subst hf4
            go_wp2_with fail
            go_ret3
            first | exact HQ.out 0 | exact HQ.out _
          | false =>
            go_wp2_with fail
            go_ret3
            first | exact HQ.out 0 | exact HQ.out _
end
end Go.Proofs.YtkclapimgmnldaaDoor

/-
  ruled.split keeps the word of a split function; texts with a fuel.
-/
namespace Go.Proofs.YtkclapimgmnldaaDoor
set_option linter.unusedVariables false
set_option linter.unusedSimpArgs false
set_option maxRecDepth 20000
open Go.RowKit

/-- the rule, and the error that it fails with -/
def RuleSI (E : Nat → Addr) (base T : Nat) (u : Rl) (x : RS) (o : List Nat) (w : World) : Prop :=
  RuleMem base T u x o w ∧ w.cell? ⟨0, 0, none⟩ = some (.iface 124 (.pointer (some (E 4)))) ∧ 0 < base
theorem BrksAt.frame {w w' : World} {bs : List Bool} {bp : Option Addr} {rl : List Nat} (h : BrksAt w bs bp rl) (hk : ∀ k, k ∈ rl → w'.heap[k]? = w.heap[k]?) : BrksAt w' bs bp rl := fun i b hb => by
  obtain ⟨k, q, e, hm, hc⟩ := h i b hb
  exact ⟨k, q, e, hm, (World.cell?_of_block (a := ⟨k, q + i, none⟩) (hk k hm)).trans hc⟩
theorem owns_frame {w w' : World} {base : Nat} {e : TypeId} {size : Nat} {v : Value} {n : Nat} {xs : List Value} (h : w.ownsRow base e size v n xs) (hk : ∀ k, v.ownBlock = some k → w'.heap[k]? = w.heap[k]?) : w'.ownsRow base e size v n xs := by
  obtain ⟨h1, h2⟩ := h
  refine ⟨h1, ?_⟩
  rcases h2 with h2 | ⟨g, cap, cur, rfl, h3, h4, r⟩
  · exact .inl h2
  · exact .inr ⟨g, cap, cur, rfl, h3, (hk g rfl).trans h4, r⟩
theorem RuleMem.frame {base T : Nat} {u : Rl} {x : RS} {o : List Nat} {w w' : World} (h : RuleMem base T u x o w) (hk : ∀ k, k ∈ o → w'.heap[k]? = w.heap[k]?) : RuleMem base T u x o w' := by
  obtain ⟨bp, bc, cv, rl, h1, h2, h3, h4, h5, rfl⟩ := h
  exact ⟨bp, bc, cv, rl, h1, h2, (hk T (by simp)).trans h3, h4.frame fun k hm => hk k (by simp [hm]), owns_frame h5 fun k hm => hk k (by simp [hm]), rfl⟩
theorem rule_after {base T : Nat} {u : Rl} {w wx : World} {bp : Option Addr} {bc : Nat} {cv : Value} {rl : List Nat} {calls : RS} (h : RuleR base T u bp bc rl (T :: (rl ++ cv.ownBlock.toList)) w cv calls wx)
    (hnd : (T :: (rl ++ cv.ownBlock.toList)).Nodup) (hlt : ∀ k, k ∈ T :: (rl ++ cv.ownBlock.toList) → k < w.heap.size) (hBP : BrksAt w u.brks bp rl) (hbc : u.brks.length ≤ bc) (hbc2 : bc ≤ 9223372036854775807) :
    ∃ o', RuleMem base T u calls o' wx ∧ Off (T :: (rl ++ cv.ownBlock.toList)) w wx ∧ Fresh (T :: (rl ++ cv.ownBlock.toList)) o' w ∧ o'.Nodup ∧ ∀ k, k ∈ o' → k < wx.heap.size := by
  obtain ⟨g, gc, h1, h2, h3, h4, h5, h6, h7⟩ := h
  have hz := h6.size
  refine ⟨T :: (rl ++ [g]), ⟨bp, bc, _, rl, hbc, hbc2, h1, hBP.frame fun k hk => (h7 k hk).2, h2, rfl⟩, h6, ?_, ?_, ?_⟩
  · intro k hk
    simp only [List.mem_cons, List.mem_append, List.not_mem_nil, or_false] at hk ⊢
    rcases hk with rfl | hk | rfl
    · exact .inl (.inl rfl)
    · exact .inl (.inr (.inl hk))
    · rcases h3 with h3 | h3
      · exact .inl (.inr (.inr (by simp [h3])))
      · exact .inr h3
  · have hn1 := List.nodup_cons.1 hnd
    have hn2 := List.nodup_append.1 hn1.2
    refine List.nodup_cons.2 ⟨?_, List.nodup_append.2 ⟨hn2.1, by simp, ?_⟩⟩
    · intro hm
      rcases List.mem_append.1 hm with hm | hm
      · exact hn1.1 (by simp [hm])
      · simp at hm; exact h5 hm.symm
    · intro a ha b hb
      simp at hb
      subst hb
      rcases h3 with h3 | h3
      · exact hn2.2.2 a ha b (by simp [h3])
      · have := (h7 a ha).1
        omega
  · intro k hk
    simp only [List.mem_cons, List.mem_append, List.not_mem_nil, or_false] at hk
    rcases hk with rfl | hk | rfl
    · have := hlt k (by simp); omega
    · have := (h7 k hk).1; omega
    · exact h4
theorem rule_ok (cf : Cfg) {T : Nat} {u : Rl} (hf : cf.f = 37) (hfirst : cf.first = #[.pointer (some ⟨T, 0, none⟩)]) (hcap : cf.cap = #[]) :
    SplitOK cf (RuleSI cf.E cf.base T u) (splitRule u) true fuRule where
  enters := fun args w => by rw [hf]; rfl
  stable := fun x o w w' ⟨h1, h2, h3⟩ hk hb => ⟨h1.frame hk, (hb.cell (p := ⟨_, 0, none⟩) h3).trans h2, h3⟩
  fuel := fun x d b => .inr (.inr (by unfold fuRule splitRule; simp; omega))
  calls := fun w x o a n c d eof ⟨⟨bp, bc, cv, rl, hbc, hbc2, hT, hBP, hown, ho⟩, hsp, hsl⟩ hG hlt hnd hby hdn hnc hc4 hde hda hfx => by
    subst ho
    rw [hf, hfirst, hcap]
    have hT1 := hlt T (by simp)
    have hGl : ∀ wx, Off (T :: (rl ++ cv.ownBlock.toList)) w wx → wx.cell? ⟨1, 0, none⟩ = some (.iface 124 (.pointer (some (cf.E 6)))) ∧ wx.cell? ⟨0, 0, none⟩ = some (.iface 124 (.pointer (some (cf.E 4)))) := fun wx ho => by
      have h5 := hG.lt.2.2.2.2
      refine ⟨(ho.cell (p := ⟨_, 0, none⟩) (by show 1 < _; omega) (fun hm => ?_)).trans hG.fin, (ho.cell (p := ⟨_, 0, none⟩) (by show 0 < _; omega) (fun hm => ?_)).trans hsp⟩
      · have := (hlt _ hm).1
        exact absurd h5 (by show ¬ 1 < _; exact Nat.not_lt.2 this)
      · have := (hlt _ hm).1
        exact absurd hsl (by show ¬ 0 < _; exact Nat.not_lt.2 this)
    show Calls Tryd.prog 37 #[.pointer (some ⟨T, 0, none⟩), .slice a n c, .bool eof] w _
    refine rule_try (E := cf.E) (x := x) (u := u) (base := cf.base) hT hown hnd (fun k hk => (hlt k hk).2) hby hdn (by omega) (fun h => ?_) (by omega) (by unfold fuRule at hfx; omega) ⟨hbc, hbc2⟩ hGl hBP _ ?_
    · obtain ⟨p, h1, h2, h3, _⟩ := hda h
      exact ⟨p, h1, h2, h3⟩
    · intro wx tokv hR htok
      obtain ⟨o', h1, h2, h3, h4, h5⟩ := rule_after hR hnd (fun k hk => (hlt k hk).2) hBP hbc hbc2
      exact ⟨_, o', rfl, ⟨h1, (hGl wx h2).2, hsl⟩, h2, h3, h4, h5, htok⟩
end Go.Proofs.YtkclapimgmnldaaDoor
