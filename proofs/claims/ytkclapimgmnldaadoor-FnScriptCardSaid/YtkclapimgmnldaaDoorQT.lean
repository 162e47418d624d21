/-
  Text, and the loop that gathers all tokens as texts.
-/
import Derived.Test.YtkclapimgmnldaaDoorQScanJ
import Derived.Test.YtkclapimgmnldaaDoorQP
import Derived.Laws.BytesArg
import Derived.Lib.LazyBuf
import Derived.Maps.AppendAt
import Derived.Deep.LoopGhost
namespace Go.Proofs.YtkclapimgmnldaaDoor
set_option linter.unusedVariables false
set_option linter.unusedSimpArgs false
set_option maxRecDepth 20000
open Go.RowKit

/-- Every run from x ends within n more tokens, without a panic; ts: the tokens so far; P: of all tokens and the last state. -/
def Runs {σ : Type} (split : σ → List UInt8 → Bool → Ans σ) (lim : Nat) (tog : Bool) (endE : Nat) (P : List (List UInt8) → Sm σ → Prop) : Nat → Sm σ → List (List UInt8) → Prop
  | 0, x, ts => ∀ o x', Sm.Scan split lim tog endE x o x' → o = some none ∧ P ts x'
  | n + 1, x, ts => ∀ o x', Sm.Scan split lim tog endE x o x' → (o = some none ∧ P ts x') ∨ ∃ t, o = some (some t) ∧ Runs split lim tog endE P n x' (ts ++ [t])

theorem Runs.step {σ : Type} {split : σ → List UInt8 → Bool → Ans σ} {lim : Nat} {tog : Bool} {endE : Nat} {P : List (List UInt8) → Sm σ → Prop} {n : Nat} {x x' : Sm σ} {ts : List (List UInt8)} {o : Out} (h : Runs split lim tog endE P n x ts) (hs : Sm.Scan split lim tog endE x o x') :
    (o = some none ∧ P ts x') ∨ ∃ t m, n = m + 1 ∧ o = some (some t) ∧ Runs split lim tog endE P m x' (ts ++ [t]) := by
  cases n with
  | zero => exact .inl (h o x' hs)
  | succ n =>
    rcases h o x' hs with h1 | ⟨t, h1, h2⟩
    · exact .inl h1
    · exact .inr ⟨t, n, rfl, h1, h2⟩

theorem setErr_emp {σ : Type} (s : Sm σ) (c : Nat) : (s.setErr c).emp = s.emp := by unfold Sm.setErr; split <;> rfl
theorem after_emp {σ : Type} {lim : Nat} {s x' : Sm σ} {o : Option (List UInt8)} (h : Sm.after lim s = .inl (some o, x')) : x'.emp = s.emp := by
  unfold Sm.after at h
  split at h
  · cases h; rfl
  · split at h
    · cases h; exact setErr_emp _ _
    · cases h
theorem after_emp_r {σ : Type} {lim : Nat} {s x' : Sm σ} (h : Sm.after lim s = .inr x') : x'.emp = s.emp := by
  unfold Sm.after at h
  split at h
  · cases h
  · split at h
    · cases h
    · cases h; rfl
theorem took_emp {σ : Type} {lim : Nat} {s x' : Sm σ} {r : Ans σ} {o : Option (List UInt8)} (h : Sm.took lim s r = .inl (some o, x')) (he : s.emp ≤ 100) : x'.emp ≤ 100 := by
  unfold Sm.took at h
  split at h
  · split at h <;> cases h <;> exact he
  · split at h
    · cases h; rw [setErr_emp]; exact he
    · split at h
      · cases h; rw [setErr_emp]; exact he
      · split at h
        · cases h; rw [setErr_emp]; exact he
        · split at h
          · split at h
            · cases h; exact Nat.zero_le _
            · split at h
              · cases h
              · cases h; show s.emp + 1 ≤ 100; omega
          · rw [after_emp h]; exact he
theorem took_emp_r {σ : Type} {lim : Nat} {s x' : Sm σ} {r : Ans σ} (h : Sm.took lim s r = .inr x') : x'.emp = s.emp := by
  unfold Sm.took at h
  split at h
  · split at h <;> cases h
  · split at h
    · cases h
    · split at h
      · cases h
      · split at h
        · cases h
        · split at h
          · split at h
            · cases h
            · split at h <;> cases h
          · rw [after_emp_r h]

theorem loopN_emp {σ : Type} {split : σ → List UInt8 → Bool → Ans σ} {lim : Nat} {tog : Bool} {endE : Nat} : ∀ (k : Nat) (x x' : Sm σ) (o : Option (List UInt8)), Sm.LoopN split lim tog endE k x (some o) x' → x.emp ≤ 100 → x'.emp ≤ 100 := by
  intro k
  induction k with
  | zero =>
    intro x x' o h he
    have h' : Sm.pre split lim x = .inl (some o, x') := h
    unfold Sm.pre at h'
    split at h'
    · exact took_emp h' he
    · rw [after_emp h']; exact he
  | succ k ih =>
    rintro x x' o ⟨x1, x2, h1, h2, h3⟩ he
    refine ih x2 x' o h3 ?_
    have hx1 : x1.emp = x.emp := by
      unfold Sm.pre at h1
      split at h1
      · exact took_emp_r h1
      · exact after_emp_r h1
    rcases h2 with ⟨_, rfl⟩ | ⟨n, _, _, _, rfl⟩
    · show x1.emp ≤ 100; omega
    · split
      · show x1.emp ≤ 100; omega
      · exact Nat.zero_le _
theorem scan_emp {σ : Type} {split : σ → List UInt8 → Bool → Ans σ} {lim : Nat} {tog : Bool} {endE : Nat} {x x' : Sm σ} {o : Option (List UInt8)} (h : Sm.Scan split lim tog endE x (some o) x') (he : x.emp ≤ 100) : x'.emp ≤ 100 := by
  rcases h with ⟨_, _, rfl⟩ | ⟨_, k, h⟩
  · exact he
  · exact loopN_emp k x x' o h he

/-- string(b) of bytes that lie so -/
theorem conv_text (w : World) (p : Addr) (c : Nat) (t : List UInt8) (h : Bytes8 w (some p) t) : (convert 101 9 (.slice (some p) t.length c)).run Tryd.prog w = .ok (sv t) w := by
  rw [run_convert_bytes_string w 101 9 5 _ t.length c (by kernel_rfl) (by kernel_rfl) (by kernel_rfl)]
  have hl : (loadCells p t.length).run Tryd.prog w = .ok ((t.map fun b => (b.toNat : Int)).map (Value.int .u8)).toArray w := by
    have := run_loadCells_list (P := Tryd.prog) w p ((t.map fun b => (b.toNat : Int)).map (Value.int .u8)) (fun j v hj => by
      simp only [List.map_map, List.getElem?_map, Option.map_eq_some_iff] at hj
      obtain ⟨c, hc, rfl⟩ := hj
      obtain ⟨b, o, e, hcell⟩ := h j c hc
      obtain rfl := Option.some.inj e
      have hplain : (⟨b, o, none⟩ : Addr).add j = ⟨b, o + j, none⟩ := by unfold Addr.add; split <;> simp_all
      rw [hplain, hcell]
      rfl)
    simpa using this
  rw [run_bytesToString w p t.length c _ hl, foldl_push_bytes]
  congr 2
  simp [ByteArray.empty, ByteArray.emptyWithCapacity]
  rw [show ((fun n : Int => UInt8.ofNat n.toNat) ∘ fun b : UInt8 => (b.toNat : Int)) = id from funext fun b => by simp]
  simp
  rfl

set_option maxHeartbeats 400000 in
theorem text_any (B : Nat) (w : World) (p : Addr) (c : Nat) (t : List UInt8) (hc : w.cell? ⟨B, 3, none⟩ = some (.slice (some p) t.length c)) (h : Bytes8 w (some p) t) :
    Calls Tryd.prog 48 #[.pointer (some ⟨B, 0, none⟩)] w fun e w' => e = .returned (sv t) ∧ w = w' := by
  have HC := Lib.hid (conv_text w p c t h)
  clear h
  go_enter Tryd.func48, Tryd.ntmps48
  go_wp2
  rw [HC.out]
  simp only [Result.andThen]
  rw [Oper.upon_value]
  go_wp2
  go_ret
  exact ⟨rfl, rfl⟩

/-- A gathered row of texts beside a scanner. -/
def Gath (base : Nat) (own : List Nat) (w : World) (v : Value) (ts : List (List UInt8)) : Prop := StrsAt base w v ts ∧ ∀ k, v.ownBlock = some k → k ∉ own

theorem Gath.scan {base : Nat} {own own' : List Nat} {w w' : World} {v : Value} {ts : List (List UInt8)} (h : Gath base own w v ts) (ho : Off own w w') (hf : Fresh own own' w) : Gath base own' w' v ts := by
  obtain ⟨h1, h2⟩ := h
  refine ⟨?_, fun k hk hm => ?_⟩
  · obtain ⟨h3, h4⟩ := h1
    refine ⟨h3, ?_⟩
    rcases h4 with h4 | ⟨g, cap, cur, rfl, h5, h6, r⟩
    · exact .inl h4
    · have hlt : g < w.heap.size := by
        rcases Nat.lt_or_ge g w.heap.size with h | h
        · exact h
        · rw [Array.getElem?_eq_none h] at h6; cases h6
      exact .inr ⟨g, cap, cur, rfl, h5, (ho.block g hlt (h2 g rfl)).trans h6, r⟩
  · rcases hf k hm with h3 | h3
    · exact h2 k hk h3
    · have := (World.ownsRow.lt h1 k hk).2
      omega

section
variable {σ : Type} {cf : Cfg} {SI : σ → List Nat → World → Prop} {split : σ → List UInt8 → Bool → Ans σ} {ins : Bool} {x : Sm σ} {tokv : Value} {called : Bool} {ba : Option Addr} {L : Nat} {own : List Nat} {w w' : World}

/-- A scanner stays where none of its blocks, and nothing below, has turned. -/
theorem SOk.frame {fu : σ → Nat} (hs : SplitOK cf SI split ins fu) (h : SOk cf SI x tokv called ba L own w) (hb : Below cf.base w w') (hk : ∀ k, k ∈ own → w'.heap[k]? = w.heap[k]?) : SOk cf SI x tokv called ba L own w' := by
  obtain ⟨s, e, bytes, pa, pcs, pc, pl, bl, osp, h, rfl⟩ := h
  refine ⟨s, e, bytes, pa, pcs, pc, pl, bl, osp, ⟨(hk cf.B (by simp)).trans h.hB, h.r.frame hs hb fun k hm => hk k ?_⟩, rfl⟩
  exact List.mem_cons_of_mem _ hm
theorem SOk.lt (h : SOk cf SI x tokv called ba L own w) : ∀ k, k ∈ own → cf.base ≤ k ∧ k < w.heap.size := by
  obtain ⟨s, e, bytes, pa, pcs, pc, pl, bl, osp, h, rfl⟩ := h
  exact h.r.hlt
theorem SOk.base_le (h : SOk cf SI x tokv called ba L own w) : cf.base ≤ w.heap.size := by
  obtain ⟨s, e, bytes, pa, pcs, pc, pl, bl, osp, h, rfl⟩ := h
  exact h.r.sizes
theorem SOk.tok (h : SOk cf SI x tokv called ba L own w) : w.cell? ⟨cf.B, 3, none⟩ = some tokv := by
  obtain ⟨s, e, bytes, pa, pcs, pc, pl, bl, osp, h, rfl⟩ := h
  exact cell_of_heap h.hB
theorem SOk.glob (h : SOk cf SI x tokv called ba L own w) : Glob w cf.E cf.base := by
  obtain ⟨s, e, bytes, pa, pcs, pc, pl, bl, osp, h, rfl⟩ := h
  exact h.r.hg

/-- behind an append onto a gathered row: the scanner -/
theorem SOk.push {fu : σ → Nat} (hs : SplitOK cf SI split ins fu) (h : SOk cf SI x tokv called ba L own w) {base : Nat} (hbase : cf.base ≤ base) {v : Value} {ts : List (List UInt8)} (hg : Gath base own w v ts) {ob : Obj} {w1 : World} (hw : (w.alloc ob).grownBy w1 v.ownBlock) : SOk cf SI x tokv called ba L own w1 := by
  have hb := h.base_le
  refine h.frame hs ?_ fun k hk => ?_
  · refine ((Below.refl _ _).alloc hb ob).grown hw (by simp; omega) fun k hk => ?_
    have := (World.ownsRow.lt hg.1 k hk).1
    omega
  · have hlt := (h.lt k hk).2
    rw [hw.block k (by simp; omega) (fun e => hg.2 k e.symm hk)]
    exact Below.heap_alloc _ _ _ hlt
theorem Off.push {own0 : List Nat} {w0 : World} (ho : Off own0 w0 w) {v : Value} {ts : List (List UInt8)} (hg : Gath w0.heap.size own w v ts) {ob : Obj} {w1 : World} (hw : (w.alloc ob).grownBy w1 v.ownBlock) : Off own0 w0 w1 := by
  have hs := ho.size
  have hsz := hw.size
  simp at hsz
  refine ⟨hw.os.trans ho.os, hw.tape.trans ho.tape, hw.output.trans ho.output, by omega, fun k hk hn => ?_⟩
  rw [hw.block k (by simp; omega) (fun e => by have := (World.ownsRow.lt hg.1 k e.symm).1; omega)]
  exact (Below.heap_alloc _ _ _ (by omega)).trans (ho.block k hk hn)
theorem Gath.push {base : Nat} (h : ∀ k, k ∈ own → k < w.heap.size) {v v' : Value} {ts : List (List UInt8)} {t : List UInt8} {u : Value} (hg : Gath base own w v ts) {ob : Obj} {w1 : World} (hr : w1.ownsRow base 9 1 v' (ts.length + 1) (ts.map sv ++ [u])) (hu : u = sv t) (hat : v'.ownBlock = v.ownBlock ∨ v'.ownBlock = some (w.alloc ob).heap.size) : Gath base own w1 v' (ts ++ [t]) := by
  refine ⟨strs_push hr hu, fun k hk hm => ?_⟩
  rcases hat with h1 | h1
  · rw [h1] at hk; exact hg.2 k hk hm
  · rw [h1] at hk
    have := h k hm
    simp at hk
    omega

/-- the gathering loop's invariant -/
def TextsI (cf : Cfg) (SI : σ → List Nat → World → Prop) (split : σ → List UInt8 → Bool → Ans σ) (P : List (List UInt8) → Sm σ → Prop) (own0 : List Nat) (w0 : World) (n : Nat) (v : Value) (w : World) : Prop :=
  ∃ x tokv called ba L own ts, SOk cf SI x tokv called ba L own w ∧ x.emp ≤ 100 ∧ (x.done = true → called = true) ∧ Off own0 w0 w ∧ Fresh own0 own w0 ∧ Gath w0.heap.size own w v ts ∧ Runs split cf.lim cf.tog cf.endE P n x ts ∧ (ts.length + n) * 16 ≤ 140737488355328

/-- what the gathering leaves -/
def TextsPost (cf : Cfg) (SI : σ → List Nat → World → Prop) (P : List (List UInt8) → Sm σ → Prop) (own0 : List Nat) (w0 : World) (e : Ending) (w : World) : Prop :=
  ∃ v x tokv ba L own ts, e = .returned v ∧ P ts x ∧ SOk cf SI x tokv true ba L own w ∧ Off own0 w0 w ∧ Fresh own0 own w0 ∧ Gath w0.heap.size own w v ts

set_option maxHeartbeats 1000000 in
theorem texts_any (hs : SplitOK cf SI split ins) (own : List Nat) (h : SOk cf SI x tokv called ba L own w) (hemp : x.emp ≤ 100) (hdc : x.done = true → called = true) (P : List (List UInt8) → Sm σ → Prop) (n : Nat) (hr : Runs split cf.lim cf.tog cf.endE P n x []) (hn : n * 16 ≤ 140737488355328) :
    Calls Tryd.prog 38 #[.pointer (some ⟨cf.B, 0, none⟩)] w (TextsPost cf SI P own w) := by
  obtain ⟨i0, hi, hz0, hz1, hz2⟩ := info_parts info_str
  have hbase := h.base_le
  have hlts := h.lt
  have HS : TextsI cf SI split P own w n (.slice (some ⟨w.heap.size, 0, none⟩) 0 0) (w.alloc (.cells #[] 9)) := by
    refine ⟨x, tokv, called, ba, L, own, [], ?_, hemp, hdc, (Off.refl _ _).alloc _, Fresh.refl _ _, ⟨World.ownsRow_made _ _ _ (Nat.le_refl _) (by decide) rfl, ?_⟩, hr, by simpa using hn⟩
    · exact h.frame hs ((Below.refl _ _).alloc hbase _) fun k hk => Below.heap_alloc _ _ _ (hlts k hk).2
    · intro k hk hm
      have := (hlts k hm).2
      simp [Value.ownBlock] at hk
      omega
  clear hr hemp hdc h
  go_enter Tryd.func38, Tryd.ntmps38
  go_wp2_with fail
  go_loopg [3] n (fun m v wr => TextsI cf SI split P own w m v wr)
  case atStart => exact HS
  case round =>
    obtain ⟨x, tokv, called, ba, L, own1, ts, h, hemp, hdc, ho, hf, hga, hr, hcap⟩ := hrel
    have HC := Lib.hid (scan_any hs own1 h hemp hdc)
    have HH := Lib.hid (And.intro hemp (And.intro ho (And.intro hf (And.intro hga (And.intro hr hcap)))))
    clear h hemp hdc ho hf hga hr hcap HS
    go_wp2_with fail
    refine HC.out.mono ?_
    rintro en w1 ⟨o, x', tokv', ba', L', own2, hscan, hok, ho1, hf1, hret, hpan⟩
    obtain ⟨hemp, ho, hf, hga, hr, hcap⟩ := HH.out
    clear HC HH hpan
    rcases hr.step hscan with ⟨rfl, hP⟩ | ⟨t, m, rfl, rfl, hr'⟩
    · obtain ⟨rfl, -, -⟩ := hret _ rfl
      have HP : TextsPost cf SI P own w (.returned u3) w1 := ⟨u3, x', tokv', ba', L', own2, ts, rfl, hP, hok, ho.trans ho1 hf, hf.trans hf1 ho.size, hga.scan ho1 hf1⟩
      have HP := Lib.hid HP
      clear hret hscan hok ho1 hf1 hr hcap hga ho hf hemp hP hs hlts hbase
      generalize TextsPost cf SI P own w = PP at *
      go_wp2_with fail
      exact HP.out
    · obtain ⟨rfl, ⟨p, c', rfl, hc1, hc2, hby, -, -⟩, -⟩ := hret _ rfl
      have hga1 := hga.scan ho1 hf1
      have HT := Lib.hid (text_any cf.B w1 p c' t hok.tok hby)
      have hlt2 := hok.lt
      have hsz := ho.size
      have hsz1 := ho1.size
      have HA := Lib.hid (fun (v' : Value) (w2 : World) (hrow : w2.ownsRow w.heap.size 9 1 v' (ts.length + 1) (ts.map sv ++ [sv t])) (hgrow : (w1.alloc (.cells #[sv t] 9)).grownBy w2 u3.ownBlock) (hat : v'.ownBlock = u3.ownBlock ∨ v'.ownBlock = some (w1.alloc (.cells #[sv t] 9)).heap.size) =>
        (show TextsI cf SI split P own w m v' w2 from ⟨x', _, true, ba', L', own2, ts ++ [t], hok.push hs hbase hga1 hgrow, scan_emp hscan hemp, fun _ => rfl, (ho.trans ho1 hf).push hga1 hgrow, hf.trans hf1 hsz, hga1.push (fun k hk => (hlt2 k hk).2) hrow rfl hat, hr', by simp; omega⟩))
      have HR := Lib.hid hga1.1
      have HB := Lib.hid (show w.heap.size ≤ w1.heap.size by omega)
      have HN := Lib.hid (show ts.length + 1 ≤ 8796093022208 by omega)
      clear hret hscan hok ho1 hf1 hr hr' hcap hga hga1 ho hf hemp hs hlts hbase hlt2 hsz hsz1 hby hc1 hc2
      go_wp2_with fail
      refine HT.out.mono ?_
      rintro e w2 ⟨rfl, rfl⟩
      go_wp2_with (first
        | (at_builtin; refine wpList_append_own_at _ rfl _ _ 30 rfl w.heap.size 9 i0 (.string ⟨#[]⟩) 1 16 (by kernel_rfl) hi hz0 hz1 hz2 rfl (by decide) _ _ _ rfl (HR.out.alloc _) ⟨w1.heap.size, 0, none⟩ 1 1 [sv t] rfl rfl ?c1 ?c2 ?c3 ?c4 ?c5 ?_)
        | go_in)
      case c1 => exact cell_one_new _ _ _
      case c2 => intro u hu; simp at hu; subst hu; rfl
      case c3 => have := HN.out; unfold maxLen; omega
      case c4 => have := HN.out; omega
      case c5 => have := HB.out; simp; omega
      · intro v' w2 hown' hgrow _ hat
        have HI := Lib.hid (HA.out v' w2 hown' hgrow (by simpa using hat))
        clear hown' hgrow hat
        go_wp2_with fail
        go_roundg m
        case rel => exact HI.out
        case measure => omega
end
end Go.Proofs.YtkclapimgmnldaaDoor

/-
  All runs of a scanner of lines, in plain words.
-/
namespace Go.Proofs.YtkclapimgmnldaaDoor
set_option linter.unusedVariables false
set_option linter.unusedSimpArgs false
set_option maxRecDepth 20000

/-- All runs of a scanner of lines. -/
theorem lines_runs (lim : Nat) (tog : Bool) (endE : Nat) (hlim : 0 < lim) : ∀ (n : Nat) (x : Sm Unit) (ts : List (List UInt8)), (x.pend ++ x.rest).length ≤ n → Fine endE x → Roomy lim (x.pend ++ x.rest) →
    Runs splitLines lim tog endE (fun ts' x' => ts' = ts ++ tokens (x.pend ++ x.rest) ∧ Fine endE x' ∧ x'.pend = [] ∧ x'.rest = [] ∧ x'.err = some endE) n x ts := by
  intro n
  induction n with
  | zero =>
    intro x ts hn hx hr o x' hs
    have h0 : x.pend ++ x.rest = [] := List.length_eq_zero_iff.1 (by omega)
    rcases hs with ⟨h, _⟩ | ⟨_, k, hs⟩
    · rw [hx.1] at h; cases h
    · obtain ⟨h1, h2, _⟩ := scan_lines lim tog endE k x o x' hs hx (fun h => absurd h0 h) hlim
      obtain ⟨h3, h4⟩ := h2 h0
      exact ⟨h3, by rw [h0]; simp [tokens_nil], h1, h4⟩
  | succ n ih =>
    intro x ts hn hx hr o x' hs
    rcases hs with ⟨h, _⟩ | ⟨_, k, hs⟩
    · rw [hx.1] at h; cases h
    · obtain ⟨h1, h2, h3⟩ := scan_lines lim tog endE k x o x' hs hx (fun h => hr.fits h) hlim
      by_cases h0 : x.pend ++ x.rest = []
      · obtain ⟨h4, h5⟩ := h2 h0
        exact .inl ⟨h4, by rw [h0]; simp [tokens_nil], h1, h5⟩
      · obtain ⟨h4, h5⟩ := h3 h0
        refine .inr ⟨_, h4, ?_⟩
        have hb := behind_lt h0
        have := ih x' (ts ++ [firstLine (x.pend ++ x.rest)]) (by rw [h5]; omega) h1 (by rw [h5]; exact hr.behind)
        rw [h5, List.append_assoc] at this
        rw [tokens_cons h0]
        exact this
end Go.Proofs.YtkclapimgmnldaaDoor

/-
  A line that is too long for its scanner, in plain words.
-/
namespace Go.Proofs.YtkclapimgmnldaaDoor
set_option linter.unusedVariables false
set_option linter.unusedSimpArgs false
set_option maxRecDepth 20000

/-- a state of a scanner of lines, with what the buffer's limit says -/
def FineL (lim : Nat) (tog : Bool) (endE : Nat) (x : Sm Unit) : Prop := Fine endE x ∧ x.pend.length ≤ lim ∧ (x.err.isSome = true → tog = false → x.pend.length < lim)

/-- the bytes ahead of the first newline -/
def firstLen (t : List UInt8) : Nat := match nlAt t with | some i => i | none => t.length
/-- the first line does not fit -/
def Long (lim : Nat) (tog : Bool) (t : List UInt8) : Prop := lim ≤ firstLen t ∧ (tog = true → lim < t.length)

theorem noCR_length_le0 (d : List UInt8) : (noCR d).length ≤ d.length := by
  unfold noCR; split
  · simp
  · exact Nat.le_refl _

theorem rd_fineL {lim : Nat} {tog : Bool} {endE : Nat} {x x2 : Sm Unit} (hx : FineL lim tog endE x) (he : x.err = none) (hl : x.pend.length ≠ lim) (hrd : Sm.Rd lim tog endE x x2) : FineL lim tog endE x2 ∧ x2.pend ++ x2.rest = x.pend ++ x.rest := by
  obtain ⟨⟨hd, hm, _⟩, hle, _⟩ := hx
  rcases hrd with ⟨hr, rfl⟩ | ⟨n, h1, h2, h3, rfl⟩
  · exact ⟨⟨⟨hd, hm, .inr ⟨rfl, hr⟩⟩, hle, fun _ _ => by show x.pend.length < lim; omega⟩, rfl⟩
  · split
    · rename_i hb
      simp only [Bool.and_eq_true, beq_iff_eq] at hb
      refine ⟨⟨⟨hd, hm, .inr ⟨rfl, by simp [hb.2]⟩⟩, ?_, fun _ ht => by rw [hb.1] at ht; cases ht⟩, by simp⟩
      show (x.pend ++ x.rest.take n).length ≤ lim
      simp; omega
    · refine ⟨⟨⟨hd, rfl, .inl he⟩, ?_, fun h => by rw [show ({ x with pend := x.pend ++ x.rest.take n, rest := x.rest.drop n, emp := 0 } : Sm Unit).err = none from he] at h; cases h⟩, by simp⟩
      show (x.pend ++ x.rest.take n).length ≤ lim
      simp; omega

theorem scan_long (lim : Nat) (tog : Bool) (endE : Nat) (hlim : 0 < lim) : ∀ (k : Nat) (x : Sm Unit) (o : Out) (x' : Sm Unit), Sm.LoopN splitLines lim tog endE k x o x' → FineL lim tog endE x → Long lim tog (x.pend ++ x.rest) → o = some none ∧ x'.err = some cTooLong := by
  intro k
  induction k with
  | zero =>
    rintro x o x' h ⟨⟨hd, hm, he⟩, hle, hlt⟩ ⟨hlo, hlo2⟩
    simp only [Sm.LoopN, pre_lines] at h
    split at h
    · rename_i i hi
      exfalso
      have h1 := (nlAt_some hi).2.2
      unfold firstLen at hlo
      rw [nlAt_append_some hi] at hlo
      simp only at hlo
      omega
    · rename_i hi
      split at h
      · rename_i hx
        exfalso
        have hr : x.err = some endE ∧ x.rest = [] := he.resolve_left fun h0 => by rw [h0] at hx; simp at hx
        rw [hr.2, List.append_nil] at hlo hlo2
        unfold firstLen at hlo
        rw [hi] at hlo
        simp only at hlo
        cases tog with
        | false => have := hlt hx rfl; omega
        | true => have := hlo2 rfl; omega
      · rename_i hx
        split at h
        · cases h
          refine ⟨rfl, ?_⟩
          have hxe : x.err = none := by cases hxe : x.err with | none => rfl | some c => rw [hxe] at hx; simp at hx
          simp [Sm.setErr, hxe]
        · cases h
  | succ k ih =>
    rintro x o x' ⟨x1, x2, hpre, hrd, h⟩ hF hL
    rw [pre_lines] at hpre
    split at hpre
    · cases hpre
    · split at hpre
      · split at hpre <;> cases hpre
      · rename_i hx
        split at hpre
        · cases hpre
        · rename_i hl
          cases hpre
          have hxe : x.err = none := by cases hxe : x.err with | none => rfl | some c => rw [hxe] at hx; simp at hx
          obtain ⟨h1, h2⟩ := rd_fineL hF hxe hl hrd
          exact ih x2 o x' h h1 (by rw [h2]; exact hL)

/-- a call of Scan that gives a token keeps what the limit says -/
theorem scan_keeps (lim : Nat) (tog : Bool) (endE : Nat) : ∀ (k : Nat) (x : Sm Unit) (t : List UInt8) (x' : Sm Unit), Sm.LoopN splitLines lim tog endE k x (some (some t)) x' → FineL lim tog endE x → x'.pend.length ≤ lim ∧ (x'.err.isSome = true → tog = false → x'.pend.length < lim) := by
  intro k
  induction k with
  | zero =>
    rintro x t x' h ⟨⟨hd, hm, he⟩, hle, hlt⟩
    simp only [Sm.LoopN, pre_lines] at h
    split at h
    · cases h
      refine ⟨by simp; omega, fun h1 h2 => ?_⟩
      have := hlt h1 h2
      simp; omega
    · split at h
      · split at h
        · cases h
        · cases h
          refine ⟨by simp, fun h1 h2 => ?_⟩
          have := hlt h1 h2
          simp; omega
      · split at h <;> cases h
  | succ k ih =>
    rintro x t x' ⟨x1, x2, hpre, hrd, h⟩ hF
    rw [pre_lines] at hpre
    split at hpre
    · cases hpre
    · split at hpre
      · split at hpre <;> cases hpre
      · rename_i hx
        split at hpre
        · cases hpre
        · rename_i hl
          cases hpre
          have hxe : x.err = none := by cases hxe : x.err with | none => rfl | some c => rw [hxe] at hx; simp at hx
          exact ih x2 t x' h (rd_fineL hF hxe hl hrd).1

/-- k lines that fit, then one that does not -/
def LongAt (lim : Nat) (tog : Bool) : Nat → List UInt8 → Prop
  | 0, t => Long lim tog t
  | k + 1, t => t ≠ [] ∧ (nlAt t).isSome = true ∧ fits lim t ∧ LongAt lim tog k (behind t)

theorem behind_some {t : List UInt8} {i : Nat} (h : nlAt t = some i) : behind t = t.drop (i + 1) := by simp [behind, h]

/-- All runs: the lines ahead of it, then ErrTooLong. -/
theorem long_runs (lim : Nat) (tog : Bool) (endE : Nat) (hlim : 0 < lim) : ∀ (k : Nat) (x : Sm Unit) (ts : List (List UInt8)), FineL lim tog endE x → LongAt lim tog k (x.pend ++ x.rest) →
    Runs splitLines lim tog endE (fun ts' x' => ts' = ts ++ (lines (x.pend ++ x.rest)).take k ∧ x'.err = some cTooLong) k x ts := by
  intro k
  induction k with
  | zero =>
    intro x ts hF hL o x' hs
    rcases hs with ⟨h, _⟩ | ⟨_, j, hs⟩
    · rw [hF.1.1] at h; cases h
    · obtain ⟨h1, h2⟩ := scan_long lim tog endE hlim j x o x' hs hF hL
      exact ⟨h1, by simp, h2⟩
  | succ k ih =>
    intro x ts hF hL o x' hs
    obtain ⟨hne, hnl, hfit, hL'⟩ := hL
    rcases hs with ⟨h, _⟩ | ⟨_, j, hs⟩
    · rw [hF.1.1] at h; cases h
    · obtain ⟨h1, _, h3⟩ := scan_lines lim tog endE j x o x' hs hF.1 (fun _ => hfit) hlim
      obtain ⟨rfl, h5⟩ := h3 hne
      refine .inr ⟨_, rfl, ?_⟩
      have hk := scan_keeps lim tog endE j x _ x' hs hF
      have := ih x' (ts ++ [firstLine (x.pend ++ x.rest)]) ⟨h1, hk⟩ (by rw [h5]; exact hL')
      rw [h5] at this
      obtain ⟨i, hi⟩ := Option.isSome_iff_exists.1 hnl
      have e1 : lines (x.pend ++ x.rest) = firstLine (x.pend ++ x.rest) :: lines (behind (x.pend ++ x.rest)) := by
        rw [lines_some hi, behind_some hi]
        simp [firstLine, hi]
      rw [e1, List.take_succ_cons, ← List.singleton_append, ← List.append_assoc]
      exact this

/-- out of the lines' lengths -/
theorem longAt_of (lim : Nat) (tog : Bool) : ∀ (k : Nat) (t : List UInt8) (h : k < (lines t).length), (∀ l ∈ (lines t).take k, l.length + 2 < lim) → ((lines t)[k].length > lim ∨ (tog = false ∧ (lines t)[k].length ≥ lim)) → LongAt lim tog k t := by
  intro k
  induction k with
  | zero =>
    intro t h _ hk
    have hne : t ≠ [] := fun e => by rw [e, lines_nil] at h; simp at h
    unfold LongAt Long firstLen
    cases hn : nlAt t with
    | some i =>
      have hlt := (nlAt_some hn).2.2
      have e : (lines t)[0] = noCR (t.take i) := by simp [lines_some hn]
      rw [e] at hk
      have h1 : (noCR (t.take i)).length ≤ i := by
        have := noCR_length_le0 (t.take i)
        simp at this
        omega
      refine ⟨by show lim ≤ i; rcases hk with hk | ⟨_, hk⟩ <;> omega, fun ht => ?_⟩
      rcases hk with hk | ⟨h2, _⟩
      · omega
      · rw [h2] at ht; cases ht
    | none =>
      have e : (lines t)[0] = t := by simp [lines_none hn hne]
      rw [e] at hk
      refine ⟨by show lim ≤ t.length; rcases hk with hk | ⟨_, hk⟩ <;> omega, fun ht => ?_⟩
      rcases hk with hk | ⟨h2, _⟩
      · omega
      · rw [h2] at ht; cases ht
  | succ k ih =>
    intro t h hb hk
    have hne : t ≠ [] := fun e => by rw [e, lines_nil] at h; simp at h
    cases hn : nlAt t with
    | none => rw [lines_none hn hne] at h; simp at h
    | some i =>
      have hlt := (nlAt_some hn).2.2
      have e := lines_some hn
      refine ⟨hne, by rw [hn]; rfl, ?_, ?_⟩
      · have := hb (noCR (t.take i)) (by rw [e]; simp)
        have h2 := noCR_len (t.take i)
        simp at h2
        unfold fits
        rw [hn]
        show i < lim
        omega
      · rw [behind_some hn]
        refine ih _ (by rw [e] at h; simpa using h) (fun l hl => hb l (by rw [e]; simp [hl])) ?_
        have e2 : (lines t)[k + 1] = (lines (t.drop (i + 1)))[k]'(by rw [e] at h; simpa using h) := by simp [e]
        rw [e2] at hk
        exact hk
end Go.Proofs.YtkclapimgmnldaaDoor

/-
  texts, for a split function with a fuel.
-/
namespace Go.Proofs.YtkclapimgmnldaaDoor
set_option linter.unusedVariables false
set_option linter.unusedSimpArgs false
set_option maxRecDepth 20000
open Go.RowKit

section
variable {σ : Type} {cf : Cfg} {SI : σ → List Nat → World → Prop} {split : σ → List UInt8 → Bool → Ans σ} {ins : Bool} {x : Sm σ} {tokv : Value} {called : Bool} {ba : Option Addr} {L : Nat} {own : List Nat} {w w' : World}
/-- the gathering loop's invariant -/
def TextsIF (fu : σ → Nat) (cf : Cfg) (SI : σ → List Nat → World → Prop) (split : σ → List UInt8 → Bool → Ans σ) (P : List (List UInt8) → Sm σ → Prop) (own0 : List Nat) (w0 : World) (n : Nat) (v : Value) (w : World) : Prop :=
  ∃ x tokv called ba L own ts, SOk cf SI x tokv called ba L own w ∧ x.emp ≤ 100 ∧ (x.done = true → called = true) ∧ Off own0 w0 w ∧ Fresh own0 own w0 ∧ Gath w0.heap.size own w v ts ∧ Runs split cf.lim cf.tog cf.endE P n x ts ∧ (ts.length + n) * 16 ≤ 140737488355328 ∧ (x.done = true ∨ x.left + n < fu x.sp)

set_option maxHeartbeats 1000000 in
theorem texts_fu {fu : σ → Nat} (hs : SplitOK cf SI split ins fu) (own : List Nat) (h : SOk cf SI x tokv called ba L own w) (hemp : x.emp ≤ 100) (hdc : x.done = true → called = true) (P : List (List UInt8) → Sm σ → Prop) (n : Nat) (hr : Runs split cf.lim cf.tog cf.endE P n x []) (hn : n * 16 ≤ 140737488355328) (hfl : x.done = true ∨ x.left + n < fu x.sp) :
    Calls Tryd.prog 38 #[.pointer (some ⟨cf.B, 0, none⟩)] w (TextsPost cf SI P own w) := by
  obtain ⟨i0, hi, hz0, hz1, hz2⟩ := info_parts info_str
  have hbase := h.base_le
  have hlts := h.lt
  have HS : TextsIF fu cf SI split P own w n (.slice (some ⟨w.heap.size, 0, none⟩) 0 0) (w.alloc (.cells #[] 9)) := by
    refine ⟨x, tokv, called, ba, L, own, [], ?_, hemp, hdc, (Off.refl _ _).alloc _, Fresh.refl _ _, ⟨World.ownsRow_made _ _ _ (Nat.le_refl _) (by decide) rfl, ?_⟩, hr, by simpa using hn, hfl⟩
    · exact h.frame hs ((Below.refl _ _).alloc hbase _) fun k hk => Below.heap_alloc _ _ _ (hlts k hk).2
    · intro k hk hm
      have := (hlts k hm).2
      simp [Value.ownBlock] at hk
      omega
  clear hr hemp hdc h hfl
  go_enter Tryd.func38, Tryd.ntmps38
  go_wp2_with fail
  go_loopg [3] n (fun m v wr => TextsIF fu cf SI split P own w m v wr)
  case atStart => exact HS
  case round =>
    obtain ⟨x, tokv, called, ba, L, own1, ts, h, hemp, hdc, ho, hf, hga, hr, hcap, hfl⟩ := hrel
    have HC := Lib.hid (scan_fu hs own1 h hemp hdc (hfl.imp id (fun h => by omega)))
    have HH := Lib.hid (And.intro hemp (And.intro ho (And.intro hf (And.intro hga (And.intro hr (And.intro hcap hfl))))))
    clear h hemp hdc ho hf hga hr hcap hfl HS
    go_wp2_with fail
    refine HC.out.mono ?_
    rintro en w1 ⟨o, x', tokv', ba', L', own2, hfs, hscan, hok, ho1, hf1, hret, hpan⟩
    obtain ⟨hemp, ho, hf, hga, hr, hcap, hfl⟩ := HH.out
    clear HC HH hpan
    rcases hr.step hscan with ⟨rfl, hP⟩ | ⟨t, m, rfl, rfl, hr'⟩
    · obtain ⟨rfl, -, -⟩ := hret _ rfl
      have HP : TextsPost cf SI P own w (.returned u3) w1 := ⟨u3, x', tokv', ba', L', own2, ts, rfl, hP, hok, ho.trans ho1 hf, hf.trans hf1 ho.size, hga.scan ho1 hf1⟩
      have HP := Lib.hid HP
      clear hret hfs hfl hscan hok ho1 hf1 hr hcap hga ho hf hemp hP hs hlts hbase
      generalize TextsPost cf SI P own w = PP at *
      go_wp2_with fail
      exact HP.out
    · obtain ⟨rfl, ⟨p, c', rfl, hc1, hc2, hby, -, -⟩, -⟩ := hret _ rfl
      have hga1 := hga.scan ho1 hf1
      have HT := Lib.hid (text_any cf.B w1 p c' t hok.tok hby)
      have hlt2 := hok.lt
      have hsz := ho.size
      have hsz1 := ho1.size
      have HA := Lib.hid (fun (v' : Value) (w2 : World) (hrow : w2.ownsRow w.heap.size 9 1 v' (ts.length + 1) (ts.map sv ++ [sv t])) (hgrow : (w1.alloc (.cells #[sv t] 9)).grownBy w2 u3.ownBlock) (hat : v'.ownBlock = u3.ownBlock ∨ v'.ownBlock = some (w1.alloc (.cells #[sv t] 9)).heap.size) =>
        (show TextsIF fu cf SI split P own w m v' w2 from ⟨x', _, true, ba', L', own2, ts ++ [t], hok.push hs hbase hga1 hgrow, scan_emp hscan hemp, fun _ => rfl, (ho.trans ho1 hf).push hga1 hgrow, hf.trans hf1 hsz, hga1.push (fun k hk => (hlt2 k hk).2) hrow rfl hat, hr', by simp; omega, by
          rcases hfs with h | h | h
          · rcases hfl with h1 | h1
            · rcases hscan with ⟨_, h2, _⟩ | ⟨h2, _⟩
              · cases h2
              · rw [h1] at h2; cases h2
            · exact .inr (by omega)
          · exact .inl h
          · cases h⟩))
      have HR := Lib.hid hga1.1
      have HB := Lib.hid (show w.heap.size ≤ w1.heap.size by omega)
      have HN := Lib.hid (show ts.length + 1 ≤ 8796093022208 by omega)
      clear hret hfs hfl hscan hok ho1 hf1 hr hr' hcap hga hga1 ho hf hemp hs hlts hbase hlt2 hsz hsz1 hby hc1 hc2
      go_wp2_with fail
      refine HT.out.mono ?_
      rintro e w2 ⟨rfl, rfl⟩
      go_wp2_with (first
        | (at_builtin; refine wpList_append_own_at _ rfl _ _ 30 rfl w.heap.size 9 i0 (.string ⟨#[]⟩) 1 16 (by kernel_rfl) hi hz0 hz1 hz2 rfl (by decide) _ _ _ rfl (HR.out.alloc _) ⟨w1.heap.size, 0, none⟩ 1 1 [sv t] rfl rfl ?c1 ?c2 ?c3 ?c4 ?c5 ?_)
        | go_in)
      case c1 => exact cell_one_new _ _ _
      case c2 => intro u hu; simp at hu; subst hu; rfl
      case c3 => have := HN.out; unfold maxLen; omega
      case c4 => have := HN.out; omega
      case c5 => have := HB.out; simp; omega
      · intro v' w2 hown' hgrow _ hat
        have HI := Lib.hid (HA.out v' w2 hown' hgrow (by simpa using hat))
        clear hown' hgrow hat
        go_wp2_with fail
        go_roundg m
        case rel => exact HI.out
        case measure => omega
end
end Go.Proofs.YtkclapimgmnldaaDoor
