/-
  Scan's pieces over the scanner's state: the first piece does what the plain machine does up to the read.
-/
import Derived.Test.YtkclapimgmnldaaDoorScanF
import Derived.Deep.LoopGhost
namespace Go.Proofs.YtkclapimgmnldaaDoor
set_option linter.unusedVariables false
set_option linter.unusedSimpArgs false
set_option maxRecDepth 20000
open Go.RowKit

theorem Alk.below {w2 w : World} (ha : Alk w2 w) (B : Nat) : Below B w w2 := ⟨ha.2.1, ha.2.2.2, ha.2.2.1, by rw [ha.1]; exact Nat.le_refl _, fun k _ => by rw [ha.1]⟩

theorem mem_own {cf : Cfg} {pl bl osp : List Nat} {k : Nat} : k ∈ ownOf cf pl bl osp ↔ k ∈ cf.B :: cf.R :: (pl ++ bl) ∨ k ∈ osp := by simp [or_assoc]

section
variable {σ : Type} {cf : Cfg} {SI : σ → List Nat → World → Prop} {split : σ → List UInt8 → Bool → Ans σ} {ins : Bool} {fu : σ → Nat} {x : Sm σ} {tokv : Value} {called : Bool} {ba : Option Addr} {L s e : Nat} {bytes : List UInt8} {pa : Option Addr} {pcs : List Int} {pc : Nat} {pl bl osp : List Nat} {w : World}

theorem SInv.alk (hs : SplitOK cf SI split ins fu) (h : SInv cf SI x tokv called ba L s e bytes pa pcs pc pl bl osp w) {w2 : World} (ha : Alk w2 w) : SInv cf SI x tokv called ba L s e bytes pa pcs pc pl bl osp w2 :=
  ⟨by rw [ha.1]; exact h.hB, h.r.frame hs (ha.below _) fun k _ => by rw [ha.1]⟩

theorem SInv.frozen (h : SInv cf SI x tokv called ba L s e bytes pa pcs pc pl bl osp w) : ∀ o, w.frozen? ⟨cf.B, o, none⟩ = false := frozen_of_heap h.hB

theorem SInv.setErr (hs : SplitOK cf SI split ins fu) (h : SInv cf SI x tokv called ba L s e bytes pa pcs pc pl bl osp w) (c : Nat) (hc : c < 7) :
    SInv cf SI (x.setErr c) tokv called ba L s e bytes pa pcs pc pl bl osp (errW w cf.B cf.E x.err c) := by
  unfold Sm.setErr errW
  by_cases hx : x.err = none ∨ x.err = some 0
  · rw [if_pos hx, if_pos hx]
    refine ⟨?_, (h.r.store hs 7 _).with _ rfl rfl rfl (fun d hd => by simp at hd; omega) h.r.hemp⟩
    rw [heap_setCell_at h.hB]; rfl
  · rw [if_neg hx, if_neg hx]; exact h

theorem SRest.disjoint (h : SRest cf SI x ba L s e bytes pa pcs pc pl bl osp w) {k : Nat} (hk : k ∈ cf.B :: cf.R :: (pl ++ bl)) : k ∉ osp := fun hm => by
  have hnd : ((cf.B :: cf.R :: (pl ++ bl)) ++ osp).Nodup := by simpa using h.hnd
  exact (List.nodup_append.1 hnd).2.2 k hk k hm rfl

/-- behind a call of the split function -/
theorem SInv.afterSplit (h : SInv cf SI x tokv called ba L s e bytes pa pcs pc pl bl osp w) {w1 : World} {sp' : σ} {osp' : List Nat} (hSI : SI sp' osp' w1) (ho : Off osp w w1) (hfr : Fresh osp osp' w) (hnd : osp'.Nodup) (hlt : ∀ k, k ∈ osp' → k < w1.heap.size) :
    SInv cf SI { x with sp := sp' } tokv called ba L s e bytes pa pcs pc pl bl osp' w1 := by
  have hk : ∀ k, k ∈ cf.B :: cf.R :: (pl ++ bl) → w1.heap[k]? = w.heap[k]? := fun k hk => ho.block k (h.r.hlt k (mem_own.2 (.inl hk))).2 (h.r.disjoint hk)
  have hbase := h.r.sizes
  have hb : Below cf.base w w1 := ho.below hbase fun k hk => (h.r.hlt k (by simp [hk])).1
  refine ⟨(hk _ (by simp)).trans h.hB, ?_⟩
  exact {
    hR := (hk _ (by simp)).trans h.r.hR
    hp := fun i c hc => by
      obtain ⟨b, o, e1, hm, hcell⟩ := h.r.hp i c hc
      exact ⟨b, o, e1, hm, (World.cell?_of_block (a := ⟨b, o + i, none⟩) (hk b (by simp [hm]))).trans hcell⟩
    hpc := h.r.hpc
    hb := by
      rcases h.r.hb with h1 | ⟨D, e1, e2, h1⟩
      · exact .inl h1
      · exact .inr ⟨D, e1, e2, (hk D (by simp [e2])).trans h1⟩
    hlen := h.r.hlen
    hse := h.r.hse
    hpend := h.r.hpend
    hlim := h.r.hlim
    hbig := h.r.hbig
    hrest := h.r.hrest
    hsp := hSI
    herr := h.r.herr
    hend := h.r.hend
    hg := h.r.hg.below hb
    hnd := by
      have h0 : ((cf.B :: cf.R :: (pl ++ bl)) ++ osp).Nodup := by simpa using h.r.hnd
      have h1 : ((cf.B :: cf.R :: (pl ++ bl)) ++ osp').Nodup := by
        refine List.nodup_append.2 ⟨(List.nodup_append.1 h0).1, hnd, fun a ha b hb' e1 => ?_⟩
        subst e1
        rcases hfr a hb' with h2 | h2
        · exact h.r.disjoint ha h2
        · have := (h.r.hlt a (mem_own.2 (.inl ha))).2
          omega
      simpa using h1
    hlt := fun k hk' => by
      rcases mem_own.1 hk' with h1 | h1
      · have := h.r.hlt k (mem_own.2 (.inl h1))
        exact ⟨this.1, Nat.lt_of_lt_of_le this.2 ho.size⟩
      · refine ⟨?_, hlt k h1⟩
        rcases hfr k h1 with h2 | h2
        · exact (h.r.hlt k (by simp [h2])).1
        · omega
    hemp := h.r.hemp }

/-- what is pending, as the slice that the split function is called with -/
theorem SInv.pending (h : SInv cf SI x tokv called ba L s e bytes pa pcs pc pl bl osp w) :
    ∃ dp, ((L = s ∧ dp = ba) ∨ (¬ L = s ∧ dp = ba.map (·.add s))) ∧ Bytes8 w dp x.pend ∧ x.pend.length = e - s ∧
      (x.pend ≠ [] → ∃ D, ba = some ⟨D, 0, none⟩ ∧ bl = [D] ∧ dp = some ⟨D, s, none⟩) ∧ (∀ q, dp = some q → ∃ D, ba = some ⟨D, 0, none⟩ ∧ bl = [D] ∧ q.block = D) := by
  have hlen : x.pend.length = e - s := by
    rw [h.r.hpend, List.length_take, List.length_drop, h.r.hlen]
    have := h.r.hse
    omega
  have hadd : ∀ D, (⟨D, 0, none⟩ : Addr).add s = ⟨D, s, none⟩ := fun D => by
    unfold Addr.add; split
    · rename_i h0; subst h0; rfl
    · simp
  by_cases hp : x.pend = []
  · by_cases hLs : L = s
    · refine ⟨ba, .inl ⟨hLs, rfl⟩, by rw [hp]; exact Bytes8.nil _ _, hlen, fun h1 => absurd hp h1, fun q hq => ?_⟩
      rcases h.r.hb with ⟨h1, _⟩ | ⟨D, e1, e2, _⟩
      · rw [h1] at hq; cases hq
      · rw [e1] at hq; cases hq; exact ⟨D, e1, e2, rfl⟩
    · refine ⟨_, .inr ⟨hLs, rfl⟩, by rw [hp]; exact Bytes8.nil _ _, hlen, fun h1 => absurd hp h1, fun q hq => ?_⟩
      rcases h.r.hb with ⟨h1, _⟩ | ⟨D, e1, e2, _⟩
      · rw [h1] at hq; cases hq
      · rw [e1] at hq; simp only [Option.map_some, hadd, Option.some.injEq] at hq; subst hq; exact ⟨D, e1, e2, rfl⟩
  · have hpos : 0 < e - s := by rw [← hlen]; exact List.length_pos_iff.2 hp
    have hse := h.r.hse
    rcases h.r.hb with ⟨_, h1, _⟩ | ⟨D, e1, e2, h1⟩
    · omega
    · refine ⟨some ⟨D, s, none⟩, .inr ⟨by omega, by rw [e1]; simp [hadd]⟩, ?_, hlen, fun _ => ⟨D, e1, e2, rfl⟩, fun q hq => by cases hq; exact ⟨D, e1, e2, rfl⟩⟩
      have hall : Bytes8 w (some ⟨D, 0, none⟩) bytes := fun i c hc => ⟨D, 0, rfl, by rw [Nat.zero_add, cell_of_heap h1]; simp [hc]⟩
      have := hall.part s (e - s)
      rw [Nat.zero_add] at this
      rw [h.r.hpend]
      exact this

/-- a token of Scan's as a value -/
def TokOut (w' : World) (ins : Bool) (ba : Option Addr) (tokv : Value) : Option (List UInt8) → Prop
  | none => True
  | some t => ∃ p c', tokv = .slice (some p) t.length c' ∧ t.length ≤ c' ∧ c' ≤ 9223372036854775807 ∧ Bytes8 w' (some p) t ∧ (t ≠ [] → p.block < w'.heap.size) ∧ (ins = true → t ≠ [] → ∃ D, ba = some ⟨D, 0, none⟩ ∧ p.block = D)

theorem TokOut.move {w1 w2 : World} {t : List UInt8} {p : Addr} {c' : Nat} (hc1 : t.length ≤ c') (hc2 : c' ≤ 9223372036854775807) (hb : Bytes8 w1 (some p) t) (hlt : t ≠ [] → p.block < w1.heap.size)
    (hin : ins = true → t ≠ [] → ∃ D, ba = some ⟨D, 0, none⟩ ∧ p.block = D) (hsz : w1.heap.size ≤ w2.heap.size) (hblk : t ≠ [] → w2.heap[p.block]? = w1.heap[p.block]?) : TokOut w2 ins ba (.slice (some p) t.length c') (some t) := by
  refine ⟨p, c', rfl, hc1, hc2, fun i c hc => ?_, fun h => Nat.lt_of_lt_of_le (hlt h) hsz, hin⟩
  obtain ⟨b, o, e1, hcell⟩ := hb i c hc
  have ht : t ≠ [] := fun h => by rw [h] at hc; simp at hc
  refine ⟨b, o, e1, (World.cell?_of_block (a := ⟨b, o + i, none⟩) ?_).trans hcell⟩
  have := hblk ht
  simp at e1
  rw [e1] at this
  exact this

/-- the scanner moves on within its buffer -/
theorem SRest.drop (h : SRest cf SI x ba L s e bytes pa pcs pc pl bl osp w) (k : Nat) (hk : k ≤ e - s) (m : Nat) (hm : m ≤ 101) (d : Bool) :
    SRest cf SI { x with pend := x.pend.drop k, emp := m, done := d } ba L (s + k) e bytes pa pcs pc pl bl osp w :=
  ⟨h.hR, h.hp, h.hpc, h.hb, h.hlen, by have := h.hse; omega, by
    show x.pend.drop k = _
    rw [h.hpend, List.drop_take, List.drop_drop, Nat.sub_sub], h.hlim, h.hbig, h.hrest, h.hsp, h.herr, h.hend, h.hg, h.hnd, h.hlt, hm⟩

theorem SInv.own (h : SInv cf SI x tokv called ba L s e bytes pa pcs pc pl bl osp w) : SOk cf SI x tokv called ba L (ownOf cf pl bl osp) w := ⟨s, e, bytes, pa, pcs, pc, pl, bl, osp, h, rfl⟩
end
end Go.Proofs.YtkclapimgmnldaaDoor
