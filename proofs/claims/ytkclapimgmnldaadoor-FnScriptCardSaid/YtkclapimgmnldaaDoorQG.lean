/-
  Scan's pieces over the scanner's state: the first piece does what the plain machine does up to the read.
-/
import Derived.Test.YtkclapimgmnldaaDoorQD
import Derived.Deep.LoopGhost
namespace Go.Proofs.YtkclapimgmnldaaDoor
set_option linter.unusedVariables false
set_option linter.unusedSimpArgs false
set_option maxRecDepth 20000
open Go.RowKit

theorem Alk.below {w2 w : World} (ha : Alk w2 w) (B : Nat) : Below B w w2 := ⟨ha.2.1, ha.2.2.2, ha.2.2.1, by rw [ha.1]; exact Nat.le_refl _, fun k _ => by rw [ha.1]⟩

theorem mem_own {cf : Cfg} {pl bl osp : List Nat} {k : Nat} : k ∈ ownOf cf pl bl osp ↔ k ∈ cf.B :: cf.R :: (pl ++ bl) ∨ k ∈ osp := by simp [or_assoc]

section
variable {σ : Type} {cf : Cfg} {SI : σ → List Nat → World → Prop} {split : σ → List UInt8 → Bool → Ans σ} {ins : Bool} {fu : σ → Nat} {x : Sm σ} {tokv : Value} {called : Bool} {ba : Option Addr} {L s e : Nat} {bytes : List UInt8} {pa : Option Addr} {pcs : List Int} {pc : Nat} {pl bl osp : List Nat} {w : World}

theorem SInv.alk (hs : SplitOK cf SI split ins fu) (h : SInv cf SI x tokv called ba L s e bytes pa pcs pc pl bl osp w) {w2 : World} (ha : Alk w2 w) : SInv cf SI x tokv called ba L s e bytes pa pcs pc pl bl osp w2 :=
  ⟨by rw [ha.1]; exact h.hB, h.r.frame hs (ha.below _) fun k _ => by rw [ha.1]⟩

theorem SInv.frozen (h : SInv cf SI x tokv called ba L s e bytes pa pcs pc pl bl osp w) : ∀ o, w.frozen? ⟨cf.B, o, none⟩ = false := frozen_of_heap h.hB

theorem SInv.setErr (hs : SplitOK cf SI split ins fu) (h : SInv cf SI x tokv called ba L s e bytes pa pcs pc pl bl osp w) (c : Nat) (hc : c < 7) :
    SInv cf SI (x.setErr c) tokv called ba L s e bytes pa pcs pc pl bl osp (errW w cf.B cf.E x.err c) := by
  unfold Sm.setErr errW
  by_cases hx : x.err = none ∨ x.err = some 0
  · rw [if_pos hx, if_pos hx]
    refine ⟨?_, (h.r.store hs 7 _).with _ rfl rfl rfl (fun d hd => by simp at hd; omega) h.r.hemp⟩
    rw [heap_setCell_at h.hB]; rfl
  · rw [if_neg hx, if_neg hx]; exact h

theorem SRest.disjoint (h : SRest cf SI x ba L s e bytes pa pcs pc pl bl osp w) {k : Nat} (hk : k ∈ cf.B :: cf.R :: (pl ++ bl)) : k ∉ osp := fun hm => by
  have hnd : ((cf.B :: cf.R :: (pl ++ bl)) ++ osp).Nodup := by simpa using h.hnd
  exact (List.nodup_append.1 hnd).2.2 k hk k hm rfl

/-- behind a call of the split function -/
theorem SInv.afterSplit (h : SInv cf SI x tokv called ba L s e bytes pa pcs pc pl bl osp w) {w1 : World} {sp' : σ} {osp' : List Nat} (hSI : SI sp' osp' w1) (ho : Off osp w w1) (hfr : Fresh osp osp' w) (hnd : osp'.Nodup) (hlt : ∀ k, k ∈ osp' → k < w1.heap.size) :
    SInv cf SI { x with sp := sp' } tokv called ba L s e bytes pa pcs pc pl bl osp' w1 := by
  have hk : ∀ k, k ∈ cf.B :: cf.R :: (pl ++ bl) → w1.heap[k]? = w.heap[k]? := fun k hk => ho.block k (h.r.hlt k (mem_own.2 (.inl hk))).2 (h.r.disjoint hk)
  have hbase := h.r.sizes
  have hb : Below cf.base w w1 := ho.below hbase fun k hk => (h.r.hlt k (by simp [hk])).1
  refine ⟨(hk _ (by simp)).trans h.hB, ?_⟩
  exact {
    hR := (hk _ (by simp)).trans h.r.hR
    hp := fun i c hc => by
      obtain ⟨b, o, e1, hm, hcell⟩ := h.r.hp i c hc
      exact ⟨b, o, e1, hm, (World.cell?_of_block (a := ⟨b, o + i, none⟩) (hk b (by simp [hm]))).trans hcell⟩
    hpc := h.r.hpc
    hb := by
      rcases h.r.hb with h1 | ⟨D, e1, e2, h1⟩
      · exact .inl h1
      · exact .inr ⟨D, e1, e2, (hk D (by simp [e2])).trans h1⟩
    hlen := h.r.hlen
    hse := h.r.hse
    hpend := h.r.hpend
    hlim := h.r.hlim
    hbig := h.r.hbig
    hrest := h.r.hrest
    hsp := hSI
    herr := h.r.herr
    hend := h.r.hend
    hg := h.r.hg.below hb
    hnd := by
      have h0 : ((cf.B :: cf.R :: (pl ++ bl)) ++ osp).Nodup := by simpa using h.r.hnd
      have h1 : ((cf.B :: cf.R :: (pl ++ bl)) ++ osp').Nodup := by
        refine List.nodup_append.2 ⟨(List.nodup_append.1 h0).1, hnd, fun a ha b hb' e1 => ?_⟩
        subst e1
        rcases hfr a hb' with h2 | h2
        · exact h.r.disjoint ha h2
        · have := (h.r.hlt a (mem_own.2 (.inl ha))).2
          omega
      simpa using h1
    hlt := fun k hk' => by
      rcases mem_own.1 hk' with h1 | h1
      · have := h.r.hlt k (mem_own.2 (.inl h1))
        exact ⟨this.1, Nat.lt_of_lt_of_le this.2 ho.size⟩
      · refine ⟨?_, hlt k h1⟩
        rcases hfr k h1 with h2 | h2
        · exact (h.r.hlt k (by simp [h2])).1
        · omega
    hemp := h.r.hemp }

/-- what is pending, as the slice that the split function is called with -/
theorem SInv.pending (h : SInv cf SI x tokv called ba L s e bytes pa pcs pc pl bl osp w) :
    ∃ dp, ((L = s ∧ dp = ba) ∨ (¬ L = s ∧ dp = ba.map (·.add s))) ∧ Bytes8 w dp x.pend ∧ x.pend.length = e - s ∧
      (x.pend ≠ [] → ∃ D, ba = some ⟨D, 0, none⟩ ∧ bl = [D] ∧ dp = some ⟨D, s, none⟩) ∧ (∀ q, dp = some q → ∃ D, ba = some ⟨D, 0, none⟩ ∧ bl = [D] ∧ q.block = D) := by
  have hlen : x.pend.length = e - s := by
    rw [h.r.hpend, List.length_take, List.length_drop, h.r.hlen]
    have := h.r.hse
    omega
  have hadd : ∀ D, (⟨D, 0, none⟩ : Addr).add s = ⟨D, s, none⟩ := fun D => by
    unfold Addr.add; split
    · rename_i h0; subst h0; rfl
    · simp
  by_cases hp : x.pend = []
  · by_cases hLs : L = s
    · refine ⟨ba, .inl ⟨hLs, rfl⟩, by rw [hp]; exact Bytes8.nil _ _, hlen, fun h1 => absurd hp h1, fun q hq => ?_⟩
      rcases h.r.hb with ⟨h1, _⟩ | ⟨D, e1, e2, _⟩
      · rw [h1] at hq; cases hq
      · rw [e1] at hq; cases hq; exact ⟨D, e1, e2, rfl⟩
    · refine ⟨_, .inr ⟨hLs, rfl⟩, by rw [hp]; exact Bytes8.nil _ _, hlen, fun h1 => absurd hp h1, fun q hq => ?_⟩
      rcases h.r.hb with ⟨h1, _⟩ | ⟨D, e1, e2, _⟩
      · rw [h1] at hq; cases hq
      · rw [e1] at hq; simp only [Option.map_some, hadd, Option.some.injEq] at hq; subst hq; exact ⟨D, e1, e2, rfl⟩
  · have hpos : 0 < e - s := by rw [← hlen]; exact List.length_pos_iff.2 hp
    have hse := h.r.hse
    rcases h.r.hb with ⟨_, h1, _⟩ | ⟨D, e1, e2, h1⟩
    · omega
    · refine ⟨some ⟨D, s, none⟩, .inr ⟨by omega, by rw [e1]; simp [hadd]⟩, ?_, hlen, fun _ => ⟨D, e1, e2, rfl⟩, fun q hq => by cases hq; exact ⟨D, e1, e2, rfl⟩⟩
      have hall : Bytes8 w (some ⟨D, 0, none⟩) bytes := fun i c hc => ⟨D, 0, rfl, by rw [Nat.zero_add, cell_of_heap h1]; simp [hc]⟩
      have := hall.part s (e - s)
      rw [Nat.zero_add] at this
      rw [h.r.hpend]
      exact this

/-- a token of Scan's as a value -/
def TokOut (w' : World) (ins : Bool) (ba : Option Addr) (tokv : Value) : Option (List UInt8) → Prop
  | none => True
  | some t => ∃ p c', tokv = .slice (some p) t.length c' ∧ t.length ≤ c' ∧ c' ≤ 9223372036854775807 ∧ Bytes8 w' (some p) t ∧ (t ≠ [] → p.block < w'.heap.size) ∧ (ins = true → t ≠ [] → ∃ D, ba = some ⟨D, 0, none⟩ ∧ p.block = D)

theorem TokOut.move {w1 w2 : World} {t : List UInt8} {p : Addr} {c' : Nat} (hc1 : t.length ≤ c') (hc2 : c' ≤ 9223372036854775807) (hb : Bytes8 w1 (some p) t) (hlt : t ≠ [] → p.block < w1.heap.size)
    (hin : ins = true → t ≠ [] → ∃ D, ba = some ⟨D, 0, none⟩ ∧ p.block = D) (hsz : w1.heap.size ≤ w2.heap.size) (hblk : t ≠ [] → w2.heap[p.block]? = w1.heap[p.block]?) : TokOut w2 ins ba (.slice (some p) t.length c') (some t) := by
  refine ⟨p, c', rfl, hc1, hc2, fun i c hc => ?_, fun h => Nat.lt_of_lt_of_le (hlt h) hsz, hin⟩
  obtain ⟨b, o, e1, hcell⟩ := hb i c hc
  have ht : t ≠ [] := fun h => by rw [h] at hc; simp at hc
  refine ⟨b, o, e1, (World.cell?_of_block (a := ⟨b, o + i, none⟩) ?_).trans hcell⟩
  have := hblk ht
  simp at e1
  rw [e1] at this
  exact this

/-- the scanner moves on within its buffer -/
theorem SRest.drop (h : SRest cf SI x ba L s e bytes pa pcs pc pl bl osp w) (k : Nat) (hk : k ≤ e - s) (m : Nat) (hm : m ≤ 101) (d : Bool) :
    SRest cf SI { x with pend := x.pend.drop k, emp := m, done := d } ba L (s + k) e bytes pa pcs pc pl bl osp w :=
  ⟨h.hR, h.hp, h.hpc, h.hb, h.hlen, by have := h.hse; omega, by
    show x.pend.drop k = _
    rw [h.hpend, List.drop_take, List.drop_drop, Nat.sub_sub], h.hlim, h.hbig, h.hrest, h.hsp, h.herr, h.hend, h.hg, h.hnd, h.hlt, hm⟩

theorem SInv.own (h : SInv cf SI x tokv called ba L s e bytes pa pcs pc pl bl osp w) : SOk cf SI x tokv called ba L (ownOf cf pl bl osp) w := ⟨s, e, bytes, pa, pcs, pc, pl, bl, osp, h, rfl⟩
end
end Go.Proofs.YtkclapimgmnldaaDoor

/-
  The first piece of Scan's round does what the plain machine does up to the read.
-/
namespace Go.Proofs.YtkclapimgmnldaaDoor
set_option linter.unusedVariables false
set_option linter.unusedSimpArgs false
set_option maxRecDepth 20000
open Go.RowKit

section
variable {σ : Type} {cf : Cfg} {SI : σ → List Nat → World → Prop} {split : σ → List UInt8 → Bool → Ans σ} {ins : Bool} {fu : σ → Nat} {x : Sm σ} {tokv : Value} {called : Bool} {ba : Option Addr} {L s e : Nat} {bytes : List UInt8} {pa : Option Addr} {pcs : List Int} {pc : Nat} {pl bl osp : List Nat} {w : World}

theorem Fresh.own {osp' : List Nat} (h : Fresh osp osp' w) : Fresh (ownOf cf pl bl osp) (ownOf cf pl bl osp') w := fun k hk => by
  rcases mem_own.1 hk with h1 | h1
  · exact .inl (mem_own.2 (.inl h1))
  · exact (h k h1).imp (fun h2 => mem_own.2 (.inr h2)) id
theorem Off.own {w' : World} (h : Off osp w w') : Off (ownOf cf pl bl osp) w w' := h.mono fun _ hk => mem_own.2 (.inr hk)
theorem memB : cf.B ∈ ownOf cf pl bl osp := by simp
theorem Off.withErr {own : List Nat} {w w' : World} (h : Off own w w') (hB : cf.B ∈ own) (xe : Option Nat) (c : Nat) : Off own w (errW w' cf.B cf.E xe c) := by
  unfold errW
  split
  · exact h.setCell (p := ⟨cf.B, 7, none⟩) hB _
  · exact h

/-- What the return of Scan asks. -/
def RetTo (cf : Cfg) (SI : σ → List Nat → World → Prop) (split : σ → List UInt8 → Bool → Ans σ) (ins : Bool) (x : Sm σ) (called : Bool) (ba : Option Addr) (L : Nat) (own : List Nat) (w : World) (Q : Exit → Act → World → Prop) : Prop :=
  ∀ a' w' o x' tokv' own', Sm.pre split cf.lim x = .inl (some o, x') → Fr cf.B a' → a'.tmps[2]? = some (.bool o.isSome) → SOk cf SI x' tokv' called ba L own' w' → TokOut w' ins ba tokv' o → Off own w w' → Fresh own own' w → Q .ret a' w'
/-- What a panic of Scan's asks. -/
def DieTo (cf : Cfg) (SI : σ → List Nat → World → Prop) (split : σ → List UInt8 → Bool → Ans σ) (x : Sm σ) (called : Bool) (ba : Option Addr) (L : Nat) (own : List Nat) (w : World) (Q : Exit → Act → World → Prop) : Prop :=
  ∀ a' w' x' y tokv' own', Sm.pre split cf.lim x = .inl (none, x') → a'.defers = [] → SOk cf SI x' tokv' called ba L own' w' → Off own w w' → Fresh own own' w → Q (.panic [{ v := .iface 9 y, recovered := false }]) a' w'

/-- Scan's text behind the split function's answer r. -/
theorem m1r_all (hs : SplitOK cf SI split ins fu) (Q : Exit → Act → World → Prop) (r : Ans σ) (hr : Sm.pre split cf.lim x = Sm.took cf.lim x r) (w0 : World) (own0 : List Nat) (v2 : Value) (g : Nat → Value) (tokv1 : Value) (hpl : x.pend.length = e - s) (hemp : x.emp ≤ 100)
    (h : SInv cf SI { x with sp := r.sp } tokv called ba L s e bytes pa pcs pc pl bl osp w) (ho : Off own0 w0 w) (hB : cf.B ∈ own0) (hfr : Fresh own0 (ownOf cf pl bl osp) w0)
    (htok : r.tok = none → tokv1 = .slice none 0 0)
    (htok2 : ∀ t, r.tok = some t → ∃ p c', tokv1 = .slice (some p) t.length c' ∧ t.length ≤ c' ∧ c' ≤ 9223372036854775807 ∧ Bytes8 w (some p) t ∧ (t ≠ [] → p.block < w.heap.size ∧ p.block ≠ cf.B) ∧ (ins = true → t ≠ [] → ∃ D, ba = some ⟨D, 0, none⟩ ∧ p.block = D))
    (hret : RetTo cf SI split ins x called ba L own0 w0 Q) (hpan : DieTo cf SI split x called ba L own0 w0 Q)
    (hnorm : ∀ a' w' x1 tokv' s', Sm.pre split cf.lim x = Sm.after cf.lim x1 → x1.rest = x.rest → x1.err = x.err → x1.done = x.done → x1.emp = x.emp → Fr cf.B a' → SInv cf SI x1 tokv' called ba L s' e bytes pa pcs pc pl bl osp w' → Off own0 w0 w' → Q .normal a' w') :
    Code.wp Tryd.prog m1r Q (fr cf.B v2 (.int .i64 r.adv) tokv1 (codeV cf.E r.code) g) w := by
  have hse := h.r.hse
  have hLb : L ≤ 4194304 := by have h1 := h.r.hlim; have h2 := h.r.hbig; omega
  by_cases hc1 : r.code = 1
  · have hev : codeV cf.E r.code = .iface 124 (.pointer (some (cf.E 6))) := by simp [codeV, hc1, errV]
    rw [hev]
    cases hrt : r.tok with
    | none =>
      obtain rfl := htok hrt
      refine r_final cf.B w cf.E cf.base Q v2 r.adv g h.r.hg h.frozen none 0 0 false (.inl ⟨rfl, rfl, rfl, rfl⟩) _ _ h.c3 h.c10 fun a' hF' h2 => ?_
      refine hret a' _ none { x with done := true, sp := r.sp } (.slice none 0 0) (ownOf cf pl bl osp) (by rw [hr]; simp [Sm.took, hc1, hrt]) hF' h2 ?_ trivial ((ho.setCell (p := ⟨cf.B, 3, none⟩) hB _).setCell (p := ⟨cf.B, 10, none⟩) hB _) hfr
      exact SInv.own ⟨by rw [heap_setCell_at (heap_setCell_at h.hB _)]; rfl, ((h.r.store hs 3 _).store hs 10 _).with _ rfl rfl rfl h.r.herr h.r.hemp⟩
    | some t =>
      obtain ⟨p, c', rfl, hl1, hl2, hb8, hpb, hin⟩ := htok2 t hrt
      refine r_final cf.B w cf.E cf.base Q v2 r.adv g h.r.hg h.frozen (some p) t.length c' true (.inr ⟨p, rfl, rfl⟩) _ _ h.c3 h.c10 fun a' hF' h2 => ?_
      refine hret a' _ (some t) { x with done := true, sp := r.sp } (.slice (some p) t.length c') (ownOf cf pl bl osp) (by rw [hr]; simp [Sm.took, hc1, hrt]) hF' h2 ?_ ?_ ((ho.setCell (p := ⟨cf.B, 3, none⟩) hB _).setCell (p := ⟨cf.B, 10, none⟩) hB _) hfr
      · exact SInv.own ⟨by rw [heap_setCell_at (heap_setCell_at h.hB _)]; rfl, ((h.r.store hs 3 _).store hs 10 _).with _ rfl rfl rfl h.r.herr h.r.hemp⟩
      · exact TokOut.move hl1 hl2 hb8 (fun ht => (hpb ht).1) hin (by simp) fun ht => by
          rw [heap_setCell_not (hpb ht).2, heap_setCell_not (hpb ht).2]
  by_cases hc2 : r.code = 2
  · have hev : codeV cf.E r.code = .iface 124 (.pointer (some (cf.E 4))) := by simp [codeV, hc2, errV]
    rw [hev]
    refine r_fail cf.B w cf.E cf.base x.err Q v2 tokv1 r.adv g h.r.hg h.frozen h.r.herr h.c7 fun a' n hF' h2 => ?_
    refine hret a' _ none (({ x with sp := r.sp } : Sm σ).setErr cSplit) tokv (ownOf cf pl bl osp) (by rw [hr]; simp [Sm.took, hc2]) hF' h2 ?_ trivial ((ho.withErr hB _ _).drewN n) hfr
    exact ((h.setErr hs 4 (by omega)).alk hs (Alk.drewN _ n)).own
  have hev : codeV cf.E r.code = .nilIface := by simp [codeV, hc1, hc2]
  rw [hev]
  by_cases hneg : r.adv < 0
  · refine r_badAdvance cf.B 2 w cf.E x.err Q v2 tokv1 r.adv g (advance_neg cf.B r.adv w cf.E cf.base x.err h.r.hg h.r.herr h.c7 (h.frozen 7) hneg) fun a' n hF' h2 => ?_
    refine hret a' _ none (({ x with sp := r.sp } : Sm σ).setErr cNegative) tokv (ownOf cf pl bl osp) (by rw [hr]; simp [Sm.took, hc1, hc2, hneg]) hF' h2 ?_ trivial ((ho.withErr hB _ _).drewN n) hfr
    exact ((h.setErr hs 2 (by omega)).alk hs (Alk.drewN _ n)).own
  by_cases hfar : (x.pend.length : Int) < r.adv
  · refine r_badAdvance cf.B 3 w cf.E x.err Q v2 tokv1 r.adv g (advance_far cf.B s e r.adv w cf.E cf.base x.err h.r.hg h.r.herr h.c7 (h.frozen 7) h.c5 h.c6 hse.1 (by omega) (by omega)) fun a' n hF' h2 => ?_
    refine hret a' _ none (({ x with sp := r.sp } : Sm σ).setErr cFar) tokv (ownOf cf pl bl osp) (by rw [hr]; simp [Sm.took, hc1, hc2, hneg, hfar]) hF' h2 ?_ trivial ((ho.withErr hB _ _).drewN n) hfr
    exact ((h.setErr hs 3 (by omega)).alk hs (Alk.drewN _ n)).own
  obtain ⟨k, hk⟩ : ∃ k : Nat, r.adv = (k : Int) := ⟨r.adv.toNat, by omega⟩
  have hk2 : k ≤ e - s := by omega
  have hkn : r.adv.toNat = k := by omega
  rw [hk]
  have hadv := advance_ok cf.B s e w (h.frozen 5) h.c5 h.c6 hse.1 (by omega) k hk2
  cases hrt : r.tok with
  | none =>
    obtain rfl := htok hrt
    refine r_none cf.B (s + k) w Q v2 k g hadv h.frozen _ h.c3 fun a' q hF' => ?_
    refine hnorm a' _ { x with sp := r.sp, pend := x.pend.drop k } (.slice none 0 0) (s + k) (by rw [hr]; simp [Sm.took, hc1, hc2, hneg, hfar, hrt, hkn]) rfl rfl rfl rfl hF' ?_ (((ho.setCell (p := ⟨cf.B, 5, none⟩) hB _).setCell (p := ⟨cf.B, 3, none⟩) hB _).drewN q)
    refine SInv.alk hs (w := (w.setCell ⟨cf.B, 5, none⟩ (.int .i64 ((s + k : Nat) : Int))).setCell ⟨cf.B, 3, none⟩ (.slice none 0 0)) ⟨?_, ?_⟩ (Alk.drewN _ q)
    · rw [heap_setCell_at (heap_setCell_at h.hB _)]; rfl
    · exact ((h.r.drop k hk2 x.emp h.r.hemp x.done).store hs 5 _).store hs 3 _
  | some t =>
    obtain ⟨p, c', rfl, hl1, hl2, hb8, hpb, hin⟩ := htok2 t hrt
    have hoff : ∀ m q, Off own0 w0 ((tokW w cf.B (s + k) p t.length c' m).drewN q) := fun m q =>
      (((ho.setCell (p := ⟨cf.B, 5, none⟩) hB _).setCell (p := ⟨cf.B, 3, none⟩) hB _).setCell (p := ⟨cf.B, 8, none⟩) hB _).drewN q
    have hinv : ∀ m q, m ≤ 101 → SOk cf SI { x with sp := r.sp, pend := x.pend.drop k, emp := m } (.slice (some p) t.length c') called ba L (ownOf cf pl bl osp) ((tokW w cf.B (s + k) p t.length c' m).drewN q) := fun m q hm =>
      (SInv.alk hs (w := tokW w cf.B (s + k) p t.length c' m) ⟨by rw [heap_setCell_at (heap_setCell_at (heap_setCell_at h.hB _) _)]; rfl, (((h.r.drop k hk2 m hm x.done).store hs 5 _).store hs 3 _).store hs 8 _⟩ (Alk.drewN _ q)).own
    have hto : ∀ m q, TokOut ((tokW w cf.B (s + k) p t.length c' m).drewN q) ins ba (.slice (some p) t.length c') (some t) := fun m q =>
      TokOut.move hl1 hl2 hb8 (fun ht => (hpb ht).1) hin (by simp [tokW]) fun ht => by
        show (tokW w cf.B (s + k) p t.length c' m).heap[p.block]? = _
        rw [heap_setCell_not (hpb ht).2, heap_setCell_not (hpb ht).2, heap_setCell_not (hpb ht).2]
    by_cases hz : x.err = none ∨ 0 < r.adv
    · refine r_tok_zero cf.B (s + k) t.length c' w Q v2 k p g _ x.emp hadv h.frozen _ h.c3 h.c8 h.c7 ?_ fun a' q hF' h2 => ?_
      · rcases hz with hz | hz
        · exact .inl (by show errV cf.E x.err = _; rw [hz]; rfl)
        · cases hxe : x.err with
          | none => exact .inl rfl
          | some c => exact .inr ⟨⟨_, _, rfl⟩, by omega⟩
      · refine hret a' _ (some t) { x with sp := r.sp, pend := x.pend.drop k, emp := 0 } _ _ ?_ hF' h2 (hinv 0 q (by omega)) (hto 0 q) (hoff 0 q) hfr
        rw [hr]
        have hz' : x.err = none ∨ (0 : Int) < k := by rw [← hk]; exact hz
        simp [Sm.took, hc1, hc2, hneg, hfar, hrt, hkn, hz]
    · obtain ⟨c, hxe⟩ : ∃ c, x.err = some c := by
        cases hxe : x.err with
        | none => exact absurd (.inl hxe) hz
        | some c => exact ⟨c, rfl⟩
      obtain rfl : k = 0 := by
        rcases Nat.eq_zero_or_pos k with h0 | h0
        · exact h0
        · exact absurd (.inr (by omega)) hz
      have hev2 : ∃ t y, errV cf.E ({ x with sp := r.sp } : Sm σ).err = .iface t y := ⟨_, _, by show errV cf.E x.err = _; rw [hxe]; rfl⟩
      by_cases hm : x.emp + 1 ≤ 100
      · refine r_tok_more cf.B (s + 0) t.length c' w Q v2 p g _ x.emp hadv h.frozen _ h.c3 h.c8 h.c7 hev2 hm fun a' q hF' h2 => ?_
        refine hret a' _ (some t) { x with sp := r.sp, pend := x.pend.drop 0, emp := x.emp + 1 } _ _ ?_ hF' h2 (hinv (x.emp + 1) q (by omega)) (hto (x.emp + 1) q) (hoff (x.emp + 1) q) hfr
        rw [hr]
        have hm' : ¬ 100 < x.emp + 1 := by omega
        simp [Sm.took, hc1, hc2, hneg, hfar, hrt, hkn, hz, hm']
      · refine r_tok_dies cf.B (s + 0) t.length c' w Q v2 p g _ x.emp hadv h.frozen _ h.c3 h.c8 h.c7 hev2 (by omega) (by omega) fun a' q y hd => ?_
        refine hpan a' _ { x with sp := r.sp, pend := x.pend.drop 0, emp := x.emp + 1 } y _ _ ?_ hd (hinv (x.emp + 1) q (by omega)) (hoff (x.emp + 1) q) hfr
        rw [hr]
        have hm' : 100 < x.emp + 1 := by omega
        simp [Sm.took, hc1, hc2, hneg, hfar, hrt, hkn, hz, hm']

/-- The first piece of a round. -/
theorem m1_all (hs : SplitOK cf SI split ins fu) (hfu : 0 < fu x.sp) (Q : Exit → Act → World → Prop) (a : Act) (hF : Fr cf.B a) (hemp : x.emp ≤ 100)
    (h : SInv cf SI x tokv called ba L s e bytes pa pcs pc pl bl osp w)
    (hret : RetTo cf SI split ins x called ba L (ownOf cf pl bl osp) w Q) (hpan : DieTo cf SI split x called ba L (ownOf cf pl bl osp) w Q)
    (hnorm : ∀ a' w' x1 tokv' s' osp', Sm.pre split cf.lim x = Sm.after cf.lim x1 → x1.rest = x.rest → x1.err = x.err → x1.done = x.done → x1.emp = x.emp → Fr cf.B a' → SInv cf SI x1 tokv' called ba L s' e bytes pa pcs pc pl bl osp' w' →
      Off (ownOf cf pl bl osp) w w' → Fresh (ownOf cf pl bl osp) (ownOf cf pl bl osp') w → Q .normal a' w') :
    Code.wp Tryd.prog m1 Q a w := by
  have hse := h.r.hse
  have hLb : L ≤ 4194304 := by have h1 := h.r.hlim; have h2 := h.r.hbig; omega
  obtain ⟨dp, hdp, hbytes, hlen, hform, hform2⟩ := h.pending
  by_cases hc : x.pend ≠ [] ∨ x.err.isSome = true
  · have hpre : Sm.pre split cf.lim x = Sm.took cf.lim x (split x.sp x.pend x.err.isSome) := if_pos hc
    generalize hr : split x.sp x.pend x.err.isSome = r at hpre
    refine m1_call cf.B s e L ba cf.f cf.first cf.cap (errV cf.E x.err) x.err.isSome a w Q hF h.c1 h.c4 h.c5 h.c6 h.c7 ?_ ?_ hse.1 hse.2 hLb hs.enters (fun en w' => ∃ q, SplitPost cf.E SI ins r osp dp (w.drewN q) en w') dp hdp ?_ ?_ ?_
    · cases x.err with
      | none => exact .inl ⟨rfl, rfl⟩
      | some c => exact .inr ⟨_, _, rfl, rfl⟩
    · rcases hc with h1 | h1
      · have := List.length_pos_iff.2 h1
        exact .inl (by omega)
      · exact .inr h1
    · intro n
      have hnd : osp.Nodup := by
        have h0 : ((cf.B :: cf.R :: (pl ++ bl)) ++ osp).Nodup := by simpa using h.r.hnd
        exact (List.nodup_append.1 h0).2.1
      have := hs.calls (w.drewN n) x.sp osp dp (e - s) (L - s) x.pend x.err.isSome (hs.stable _ _ _ _ h.r.hsp (fun _ _ => rfl) (below_drewN (Below.refl _ _) n)) (h.r.hg.below (below_drewN (Below.refl _ _) n)) (fun k hk => h.r.hlt k (mem_own.2 (.inr hk))) hnd hbytes hlen (by omega) (by omega)
        (fun h1 => by rcases hc with h2 | h2; exact absurd h1 h2; exact h2) (fun h1 => by
          obtain ⟨D, e1, e2, e3⟩ := hform h1
          have hD : D ∈ cf.B :: cf.R :: (pl ++ bl) := by simp [e2]
          exact ⟨_, e3, h.r.disjoint hD, (h.r.hlt D (mem_own.2 (.inl hD))).2, (h.r.hlt D (mem_own.2 (.inl hD))).1⟩) hfu
      rw [hr] at this
      exact this.mono fun en w' hp => ⟨n, hp⟩
    · rintro a' w' adv tokv1 er ⟨q, tokv2, o', hen, hSI, ho, hfr, hnd, hlt, htok⟩ ⟨v2, g, rfl⟩
      have ho' : Off osp w w' := ⟨ho.os, ho.tape, ho.output, ho.size, ho.block⟩
      have hfr' : Fresh osp o' w := hfr
      simp only [Ending.returned.injEq, Value.tuple.injEq, Array.mk.injEq, List.cons.injEq, Value.int.injEq, true_and, and_true] at hen
      obtain ⟨rfl, rfl, rfl⟩ := hen
      refine m1r_all hs Q r hpre w (ownOf cf pl bl osp) v2 g tokv1 hlen hemp (h.afterSplit hSI ho' hfr' hnd hlt) ho'.own memB hfr'.own ?_ ?_ hret hpan ?_
      · intro h1; rw [h1] at htok; exact htok
      · intro t h1
        rw [h1] at htok
        obtain ⟨p, c', e1, hl1, hl2, hb8, hblk, hin⟩ := htok
        refine ⟨p, c', e1, hl1, hl2, hb8, fun ht => ⟨(hblk ht).1, ?_⟩, fun hi ht => ?_⟩
        · rcases (hblk ht).2 with ⟨qq, e2, e3⟩ | h2
          · obtain ⟨D, e4, e5, e6⟩ := hform2 qq e2
            rw [e3, e6]
            exact h.r.notB (by simp [e5])
          · have := (h.r.hlt cf.B (by simp)).2
            have h3 : w.heap.size ≤ p.block := h2
            omega
        · obtain ⟨qq, e2, e3⟩ := hin hi ht
          obtain ⟨D, e4, e5, e6⟩ := hform2 qq e2
          exact ⟨D, e4, by rw [e3, e6]⟩
      · intro a' w'' x1 tokv' s' h1 h2 h3 h4 h5 hF' hI ho2
        exact hnorm a' w'' x1 tokv' s' o' h1 h2 h3 h4 h5 hF' hI ho2 hfr'.own
    · rintro en w' ⟨q, tokv2, o', hen, _⟩
      exact ⟨_, _, _, hen⟩
  · have hp : x.pend = [] := Classical.byContradiction fun h1 => hc (.inl h1)
    have hx : x.err = none := by
      cases hxe : x.err with
      | none => rfl
      | some c => exact absurd (.inr (by simp [hxe])) hc
    obtain rfl : s = e := by rw [hp] at hlen; simp at hlen; omega
    have h7 := h.c7
    rw [hx] at h7
    refine m1_skip cf.B s a w Q hF h.c5 h.c6 h7 fun a' n hF' => ?_
    exact hnorm a' _ x tokv s osp (if_neg hc) rfl rfl rfl rfl hF' (h.alk hs (Alk.drewN w n)) ((Off.refl _ _).drewN n) (Fresh.refl _ _)
end
end Go.Proofs.YtkclapimgmnldaaDoor
