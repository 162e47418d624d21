/-
  Text, and the loop that gathers all tokens as texts.
-/
import Derived.Test.YtkclapimgmnldaaDoorScanJ
import Derived.Test.YtkclapimgmnldaaDoorSpecLines
import Derived.Laws.BytesArg
import Derived.Lib.LazyBuf
import Derived.Maps.AppendAt
import Derived.Deep.LoopGhost
namespace Go.Proofs.YtkclapimgmnldaaDoor
set_option linter.unusedVariables false
set_option linter.unusedSimpArgs false
set_option maxRecDepth 20000
open Go.RowKit

/-- Every run from x ends within n more tokens, without a panic; ts: the tokens so far; P: of all tokens and the last state. -/
def Runs {σ : Type} (split : σ → List UInt8 → Bool → Ans σ) (lim : Nat) (tog : Bool) (endE : Nat) (P : List (List UInt8) → Sm σ → Prop) : Nat → Sm σ → List (List UInt8) → Prop
  | 0, x, ts => ∀ o x', Sm.Scan split lim tog endE x o x' → o = some none ∧ P ts x'
  | n + 1, x, ts => ∀ o x', Sm.Scan split lim tog endE x o x' → (o = some none ∧ P ts x') ∨ ∃ t, o = some (some t) ∧ Runs split lim tog endE P n x' (ts ++ [t])

theorem Runs.step {σ : Type} {split : σ → List UInt8 → Bool → Ans σ} {lim : Nat} {tog : Bool} {endE : Nat} {P : List (List UInt8) → Sm σ → Prop} {n : Nat} {x x' : Sm σ} {ts : List (List UInt8)} {o : Out} (h : Runs split lim tog endE P n x ts) (hs : Sm.Scan split lim tog endE x o x') :
    (o = some none ∧ P ts x') ∨ ∃ t m, n = m + 1 ∧ o = some (some t) ∧ Runs split lim tog endE P m x' (ts ++ [t]) := by
  cases n with
  | zero => exact .inl (h o x' hs)
  | succ n =>
    rcases h o x' hs with h1 | ⟨t, h1, h2⟩
    · exact .inl h1
    · exact .inr ⟨t, n, rfl, h1, h2⟩

theorem setErr_emp {σ : Type} (s : Sm σ) (c : Nat) : (s.setErr c).emp = s.emp := by unfold Sm.setErr; split <;> rfl
theorem after_emp {σ : Type} {lim : Nat} {s x' : Sm σ} {o : Option (List UInt8)} (h : Sm.after lim s = .inl (some o, x')) : x'.emp = s.emp := by
  unfold Sm.after at h
  split at h
  · cases h; rfl
  · split at h
    · cases h; exact setErr_emp _ _
    · cases h
theorem after_emp_r {σ : Type} {lim : Nat} {s x' : Sm σ} (h : Sm.after lim s = .inr x') : x'.emp = s.emp := by
  unfold Sm.after at h
  split at h
  · cases h
  · split at h
    · cases h
    · cases h; rfl
theorem took_emp {σ : Type} {lim : Nat} {s x' : Sm σ} {r : Ans σ} {o : Option (List UInt8)} (h : Sm.took lim s r = .inl (some o, x')) (he : s.emp ≤ 100) : x'.emp ≤ 100 := by
  unfold Sm.took at h
  split at h
  · split at h <;> cases h <;> exact he
  · split at h
    · cases h; rw [setErr_emp]; exact he
    · split at h
      · cases h; rw [setErr_emp]; exact he
      · split at h
        · cases h; rw [setErr_emp]; exact he
        · split at h
          · split at h
            · cases h; exact Nat.zero_le _
            · split at h
              · cases h
              · cases h; show s.emp + 1 ≤ 100; omega
          · rw [after_emp h]; exact he
theorem took_emp_r {σ : Type} {lim : Nat} {s x' : Sm σ} {r : Ans σ} (h : Sm.took lim s r = .inr x') : x'.emp = s.emp := by
  unfold Sm.took at h
  split at h
  · split at h <;> cases h
  · split at h
    · cases h
    · split at h
      · cases h
      · split at h
        · cases h
        · split at h
          · split at h
            · cases h
            · split at h <;> cases h
          · rw [after_emp_r h]

theorem loopN_emp {σ : Type} {split : σ → List UInt8 → Bool → Ans σ} {lim : Nat} {tog : Bool} {endE : Nat} : ∀ (k : Nat) (x x' : Sm σ) (o : Option (List UInt8)), Sm.LoopN split lim tog endE k x (some o) x' → x.emp ≤ 100 → x'.emp ≤ 100 := by
  intro k
  induction k with
  | zero =>
    intro x x' o h he
    have h' : Sm.pre split lim x = .inl (some o, x') := h
    unfold Sm.pre at h'
    split at h'
    · exact took_emp h' he
    · rw [after_emp h']; exact he
  | succ k ih =>
    rintro x x' o ⟨x1, x2, h1, h2, h3⟩ he
    refine ih x2 x' o h3 ?_
    have hx1 : x1.emp = x.emp := by
      unfold Sm.pre at h1
      split at h1
      · exact took_emp_r h1
      · exact after_emp_r h1
    rcases h2 with ⟨_, rfl⟩ | ⟨n, _, _, _, rfl⟩
    · show x1.emp ≤ 100; omega
    · split
      · show x1.emp ≤ 100; omega
      · exact Nat.zero_le _
theorem scan_emp {σ : Type} {split : σ → List UInt8 → Bool → Ans σ} {lim : Nat} {tog : Bool} {endE : Nat} {x x' : Sm σ} {o : Option (List UInt8)} (h : Sm.Scan split lim tog endE x (some o) x') (he : x.emp ≤ 100) : x'.emp ≤ 100 := by
  rcases h with ⟨_, _, rfl⟩ | ⟨_, k, h⟩
  · exact he
  · exact loopN_emp k x x' o h he

/-- string(b) of bytes that lie so -/
theorem conv_text (w : World) (p : Addr) (c : Nat) (t : List UInt8) (h : Bytes8 w (some p) t) : (convert 101 9 (.slice (some p) t.length c)).run Tryd.prog w = .ok (sv t) w := by
  rw [run_convert_bytes_string w 101 9 5 _ t.length c (by kernel_rfl) (by kernel_rfl) (by kernel_rfl)]
  have hl : (loadCells p t.length).run Tryd.prog w = .ok ((t.map fun b => (b.toNat : Int)).map (Value.int .u8)).toArray w := by
    have := run_loadCells_list (P := Tryd.prog) w p ((t.map fun b => (b.toNat : Int)).map (Value.int .u8)) (fun j v hj => by
      simp only [List.map_map, List.getElem?_map, Option.map_eq_some_iff] at hj
      obtain ⟨c, hc, rfl⟩ := hj
      obtain ⟨b, o, e, hcell⟩ := h j c hc
      obtain rfl := Option.some.inj e
      have hplain : (⟨b, o, none⟩ : Addr).add j = ⟨b, o + j, none⟩ := by unfold Addr.add; split <;> simp_all
      rw [hplain, hcell]
      rfl)
    simpa using this
  rw [run_bytesToString w p t.length c _ hl, foldl_push_bytes]
  congr 2
  simp [ByteArray.empty, ByteArray.emptyWithCapacity]
  rw [show ((fun n : Int => UInt8.ofNat n.toNat) ∘ fun b : UInt8 => (b.toNat : Int)) = id from funext fun b => by simp]
  simp
  rfl

set_option maxHeartbeats 400000 in
theorem text_any (B : Nat) (w : World) (p : Addr) (c : Nat) (t : List UInt8) (hc : w.cell? ⟨B, 3, none⟩ = some (.slice (some p) t.length c)) (h : Bytes8 w (some p) t) :
    Calls Tryd.prog 48 #[.pointer (some ⟨B, 0, none⟩)] w fun e w' => e = .returned (sv t) ∧ w = w' := by
  have HC := Lib.hid (conv_text w p c t h)
  clear h
  go_enter Tryd.func48, Tryd.ntmps48
  go_wp2
  rw [HC.out]
  simp only [Result.andThen]
  rw [Oper.upon_value]
  go_wp2
  go_ret
  exact ⟨rfl, rfl⟩

/-- A gathered row of texts beside a scanner. -/
def Gath (base : Nat) (own : List Nat) (w : World) (v : Value) (ts : List (List UInt8)) : Prop := StrsAt base w v ts ∧ ∀ k, v.ownBlock = some k → k ∉ own

theorem Gath.scan {base : Nat} {own own' : List Nat} {w w' : World} {v : Value} {ts : List (List UInt8)} (h : Gath base own w v ts) (ho : Off own w w') (hf : Fresh own own' w) : Gath base own' w' v ts := by
  obtain ⟨h1, h2⟩ := h
  refine ⟨?_, fun k hk hm => ?_⟩
  · obtain ⟨h3, h4⟩ := h1
    refine ⟨h3, ?_⟩
    rcases h4 with h4 | ⟨g, cap, cur, rfl, h5, h6, r⟩
    · exact .inl h4
    · have hlt : g < w.heap.size := by
        rcases Nat.lt_or_ge g w.heap.size with h | h
        · exact h
        · rw [Array.getElem?_eq_none h] at h6; cases h6
      exact .inr ⟨g, cap, cur, rfl, h5, (ho.block g hlt (h2 g rfl)).trans h6, r⟩
  · rcases hf k hm with h3 | h3
    · exact h2 k hk h3
    · have := (World.ownsRow.lt h1 k hk).2
      omega

section
variable {σ : Type} {cf : Cfg} {SI : σ → List Nat → World → Prop} {split : σ → List UInt8 → Bool → Ans σ} {ins : Bool} {x : Sm σ} {tokv : Value} {called : Bool} {ba : Option Addr} {L : Nat} {own : List Nat} {w w' : World}

/-- A scanner stays where none of its blocks, and nothing below, has turned. -/
theorem SOk.frame {fu : σ → Nat} (hs : SplitOK cf SI split ins fu) (h : SOk cf SI x tokv called ba L own w) (hb : Below cf.base w w') (hk : ∀ k, k ∈ own → w'.heap[k]? = w.heap[k]?) : SOk cf SI x tokv called ba L own w' := by
  obtain ⟨s, e, bytes, pa, pcs, pc, pl, bl, osp, h, rfl⟩ := h
  refine ⟨s, e, bytes, pa, pcs, pc, pl, bl, osp, ⟨(hk cf.B (by simp)).trans h.hB, h.r.frame hs hb fun k hm => hk k ?_⟩, rfl⟩
  exact List.mem_cons_of_mem _ hm
theorem SOk.lt (h : SOk cf SI x tokv called ba L own w) : ∀ k, k ∈ own → cf.base ≤ k ∧ k < w.heap.size := by
  obtain ⟨s, e, bytes, pa, pcs, pc, pl, bl, osp, h, rfl⟩ := h
  exact h.r.hlt
theorem SOk.base_le (h : SOk cf SI x tokv called ba L own w) : cf.base ≤ w.heap.size := by
  obtain ⟨s, e, bytes, pa, pcs, pc, pl, bl, osp, h, rfl⟩ := h
  exact h.r.sizes
theorem SOk.tok (h : SOk cf SI x tokv called ba L own w) : w.cell? ⟨cf.B, 3, none⟩ = some tokv := by
  obtain ⟨s, e, bytes, pa, pcs, pc, pl, bl, osp, h, rfl⟩ := h
  exact cell_of_heap h.hB
theorem SOk.glob (h : SOk cf SI x tokv called ba L own w) : Glob w cf.E cf.base := by
  obtain ⟨s, e, bytes, pa, pcs, pc, pl, bl, osp, h, rfl⟩ := h
  exact h.r.hg

/-- behind an append onto a gathered row: the scanner -/
theorem SOk.push {fu : σ → Nat} (hs : SplitOK cf SI split ins fu) (h : SOk cf SI x tokv called ba L own w) {base : Nat} (hbase : cf.base ≤ base) {v : Value} {ts : List (List UInt8)} (hg : Gath base own w v ts) {ob : Obj} {w1 : World} (hw : (w.alloc ob).grownBy w1 v.ownBlock) : SOk cf SI x tokv called ba L own w1 := by
  have hb := h.base_le
  refine h.frame hs ?_ fun k hk => ?_
  · refine ((Below.refl _ _).alloc hb ob).grown hw (by simp; omega) fun k hk => ?_
    have := (World.ownsRow.lt hg.1 k hk).1
    omega
  · have hlt := (h.lt k hk).2
    rw [hw.block k (by simp; omega) (fun e => hg.2 k e.symm hk)]
    exact Below.heap_alloc _ _ _ hlt
theorem Off.push {own0 : List Nat} {w0 : World} (ho : Off own0 w0 w) {v : Value} {ts : List (List UInt8)} (hg : Gath w0.heap.size own w v ts) {ob : Obj} {w1 : World} (hw : (w.alloc ob).grownBy w1 v.ownBlock) : Off own0 w0 w1 := by
  have hs := ho.size
  have hsz := hw.size
  simp at hsz
  refine ⟨hw.os.trans ho.os, hw.tape.trans ho.tape, hw.output.trans ho.output, by omega, fun k hk hn => ?_⟩
  rw [hw.block k (by simp; omega) (fun e => by have := (World.ownsRow.lt hg.1 k e.symm).1; omega)]
  exact (Below.heap_alloc _ _ _ (by omega)).trans (ho.block k hk hn)
theorem Gath.push {base : Nat} (h : ∀ k, k ∈ own → k < w.heap.size) {v v' : Value} {ts : List (List UInt8)} {t : List UInt8} {u : Value} (hg : Gath base own w v ts) {ob : Obj} {w1 : World} (hr : w1.ownsRow base 9 1 v' (ts.length + 1) (ts.map sv ++ [u])) (hu : u = sv t) (hat : v'.ownBlock = v.ownBlock ∨ v'.ownBlock = some (w.alloc ob).heap.size) : Gath base own w1 v' (ts ++ [t]) := by
  refine ⟨strs_push hr hu, fun k hk hm => ?_⟩
  rcases hat with h1 | h1
  · rw [h1] at hk; exact hg.2 k hk hm
  · rw [h1] at hk
    have := h k hm
    simp at hk
    omega

/-- the gathering loop's invariant -/
def TextsI (cf : Cfg) (SI : σ → List Nat → World → Prop) (split : σ → List UInt8 → Bool → Ans σ) (P : List (List UInt8) → Sm σ → Prop) (own0 : List Nat) (w0 : World) (n : Nat) (v : Value) (w : World) : Prop :=
  ∃ x tokv called ba L own ts, SOk cf SI x tokv called ba L own w ∧ x.emp ≤ 100 ∧ (x.done = true → called = true) ∧ Off own0 w0 w ∧ Fresh own0 own w0 ∧ Gath w0.heap.size own w v ts ∧ Runs split cf.lim cf.tog cf.endE P n x ts ∧ (ts.length + n) * 16 ≤ 140737488355328

/-- what the gathering leaves -/
def TextsPost (cf : Cfg) (SI : σ → List Nat → World → Prop) (P : List (List UInt8) → Sm σ → Prop) (own0 : List Nat) (w0 : World) (e : Ending) (w : World) : Prop :=
  ∃ v x tokv ba L own ts, e = .returned v ∧ P ts x ∧ SOk cf SI x tokv true ba L own w ∧ Off own0 w0 w ∧ Fresh own0 own w0 ∧ Gath w0.heap.size own w v ts

set_option maxHeartbeats 1000000 in
theorem texts_any (hs : SplitOK cf SI split ins) (own : List Nat) (h : SOk cf SI x tokv called ba L own w) (hemp : x.emp ≤ 100) (hdc : x.done = true → called = true) (P : List (List UInt8) → Sm σ → Prop) (n : Nat) (hr : Runs split cf.lim cf.tog cf.endE P n x []) (hn : n * 16 ≤ 140737488355328) :
    Calls Tryd.prog 38 #[.pointer (some ⟨cf.B, 0, none⟩)] w (TextsPost cf SI P own w) := by
  obtain ⟨i0, hi, hz0, hz1, hz2⟩ := info_parts info_str
  have hbase := h.base_le
  have hlts := h.lt
  have HS : TextsI cf SI split P own w n (.slice (some ⟨w.heap.size, 0, none⟩) 0 0) (w.alloc (.cells #[] 9)) := by
    refine ⟨x, tokv, called, ba, L, own, [], ?_, hemp, hdc, (Off.refl _ _).alloc _, Fresh.refl _ _, ⟨World.ownsRow_made _ _ _ (Nat.le_refl _) (by decide) rfl, ?_⟩, hr, by simpa using hn⟩
    · exact h.frame hs ((Below.refl _ _).alloc hbase _) fun k hk => Below.heap_alloc _ _ _ (hlts k hk).2
    · intro k hk hm
      have := (hlts k hm).2
      simp [Value.ownBlock] at hk
      omega
  clear hr hemp hdc h
  go_enter Tryd.func38, Tryd.ntmps38
  go_wp2_with fail
  go_loopg [3] n (fun m v wr => TextsI cf SI split P own w m v wr)
  case atStart => exact HS
  case round =>
    obtain ⟨x, tokv, called, ba, L, own1, ts, h, hemp, hdc, ho, hf, hga, hr, hcap⟩ := hrel
    have HC := Lib.hid (scan_any hs own1 h hemp hdc)
    have HH := Lib.hid (And.intro hemp (And.intro ho (And.intro hf (And.intro hga (And.intro hr hcap)))))
    clear h hemp hdc ho hf hga hr hcap HS
    go_wp2_with fail
    refine HC.out.mono ?_
    rintro en w1 ⟨o, x', tokv', ba', L', own2, hscan, hok, ho1, hf1, hret, hpan⟩
    obtain ⟨hemp, ho, hf, hga, hr, hcap⟩ := HH.out
    clear HC HH hpan
    rcases hr.step hscan with ⟨rfl, hP⟩ | ⟨t, m, rfl, rfl, hr'⟩
    · obtain ⟨rfl, -, -⟩ := hret _ rfl
      have HP : TextsPost cf SI P own w (.returned u3) w1 := ⟨u3, x', tokv', ba', L', own2, ts, rfl, hP, hok, ho.trans ho1 hf, hf.trans hf1 ho.size, hga.scan ho1 hf1⟩
      have HP := Lib.hid HP
      clear hret hscan hok ho1 hf1 hr hcap hga ho hf hemp hP hs hlts hbase
      generalize TextsPost cf SI P own w = PP at *
      go_wp2_with fail
      exact HP.out
    · obtain ⟨rfl, ⟨p, c', rfl, hc1, hc2, hby, -, -⟩, -⟩ := hret _ rfl
      have hga1 := hga.scan ho1 hf1
      have HT := Lib.hid (text_any cf.B w1 p c' t hok.tok hby)
      have hlt2 := hok.lt
      have hsz := ho.size
      have hsz1 := ho1.size
      have HA := Lib.hid (fun (v' : Value) (w2 : World) (hrow : w2.ownsRow w.heap.size 9 1 v' (ts.length + 1) (ts.map sv ++ [sv t])) (hgrow : (w1.alloc (.cells #[sv t] 9)).grownBy w2 u3.ownBlock) (hat : v'.ownBlock = u3.ownBlock ∨ v'.ownBlock = some (w1.alloc (.cells #[sv t] 9)).heap.size) =>
        (show TextsI cf SI split P own w m v' w2 from ⟨x', _, true, ba', L', own2, ts ++ [t], hok.push hs hbase hga1 hgrow, scan_emp hscan hemp, fun _ => rfl, (ho.trans ho1 hf).push hga1 hgrow, hf.trans hf1 hsz, hga1.push (fun k hk => (hlt2 k hk).2) hrow rfl hat, hr', by simp; omega⟩))
      have HR := Lib.hid hga1.1
      have HB := Lib.hid (show w.heap.size ≤ w1.heap.size by omega)
      have HN := Lib.hid (show ts.length + 1 ≤ 8796093022208 by omega)
      clear hret hscan hok ho1 hf1 hr hr' hcap hga hga1 ho hf hemp hs hlts hbase hlt2 hsz hsz1 hby hc1 hc2
      go_wp2_with fail
      refine HT.out.mono ?_
      rintro e w2 ⟨rfl, rfl⟩
      go_wp2_with (first
        | (at_builtin; refine wpList_append_own_at _ rfl _ _ 30 rfl w.heap.size 9 i0 (.string ⟨#[]⟩) 1 16 (by kernel_rfl) hi hz0 hz1 hz2 rfl (by decide) _ _ _ rfl (HR.out.alloc _) ⟨w1.heap.size, 0, none⟩ 1 1 [sv t] rfl rfl ?c1 ?c2 ?c3 ?c4 ?c5 ?_)
        | go_in)
      case c1 => exact cell_one_new _ _ _
      case c2 => intro u hu; simp at hu; subst hu; rfl
      case c3 => have := HN.out; unfold maxLen; omega
      case c4 => have := HN.out; omega
      case c5 => have := HB.out; simp; omega
      · intro v' w2 hown' hgrow _ hat
        have HI := Lib.hid (HA.out v' w2 hown' hgrow (by simpa using hat))
        clear hown' hgrow hat
        go_wp2_with fail
        go_roundg m
        case rel => exact HI.out
        case measure => omega
end
end Go.Proofs.YtkclapimgmnldaaDoor
