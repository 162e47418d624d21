/-
  The read over the scanner's state; one round; the loop; Scan's contract.
-/
import Derived.Test.YtkclapimgmnldaaDoorQScanI
namespace Go.Proofs.YtkclapimgmnldaaDoor
set_option linter.unusedVariables false
set_option linter.unusedSimpArgs false
set_option maxRecDepth 20000
open Go.RowKit

section
variable {σ : Type} {cf : Cfg} {SI : σ → List Nat → World → Prop} {split : σ → List UInt8 → Bool → Ans σ} {ins : Bool} {fu : σ → Nat} {x : Sm σ} {tokv : Value} {called : Bool} {ba : Option Addr} {L s e : Nat} {bytes : List UInt8} {pa : Option Addr} {pcs : List Int} {pc : Nat} {pl bl osp : List Nat} {w : World}

/-- What the read's contract leaves, in one form for all three ways. -/
def ReadR (cf : Cfg) (x : Sm σ) (D e : Nat) (bytes : List UInt8) (pl : List Nat) (n : Nat) (ev : Value) (w : World) (en : Ending) (w' : World) : Prop :=
  en = .returned (.tuple #[.int .i64 (n : Int), ev]) ∧ ∃ pa' pcs' pc', ReadW cf x D e bytes pa' pcs' pc' n w w' ∧
    (∀ i c, pcs'[i]? = some c → ∃ b o, pa' = some ⟨b, o, none⟩ ∧ b ∈ pl ∧ w.cell? ⟨b, o + i, none⟩ = some (.int .i64 c)) ∧ (pcs'.length ≤ pc' ∧ pc' ≤ 9223372036854775807)

theorem read_all {D : Nat} (h : SInv cf SI x tokv called (some ⟨D, 0, none⟩) L s e bytes pa pcs pc pl [D] osp w) (heL : e < L) (hLb : L ≤ 4194304) :
    ∃ n ev, (x.rest = [] ∧ n = 0 ∧ ev = errV cf.E (some cf.endE) ∨ x.rest ≠ [] ∧ 1 ≤ n ∧ ev = readErr cf.tog (n == x.rest.length) (errV cf.E (some cf.endE))) ∧ n ≤ L - e ∧ n ≤ x.rest.length ∧
      ∀ q, Calls Tryd.prog 79 #[.pointer (some ⟨cf.R, 0, none⟩), .slice (some ⟨D, e, none⟩) (L - e) (L - e)] (w.drewN q) (ReadR cf x D e bytes pl n ev w) := by
  have hlen : bytes.length = L := h.r.hlen
  have c0 : w.cell? ⟨cf.R, 0, none⟩ = some (.string ⟨x.rest.toArray⟩) := cell_of_heap h.r.hR
  have c1 : w.cell? ⟨cf.R, 1, none⟩ = some (.slice pa pcs.length pc) := cell_of_heap h.r.hR
  have c2 : w.cell? ⟨cf.R, 2, none⟩ = some (.bool cf.tog) := cell_of_heap h.r.hR
  have c3 : w.cell? ⟨cf.R, 3, none⟩ = some (.iface 124 (.pointer (some (cf.E cf.endE)))) := cell_of_heap h.r.hR
  have hfz : ∀ o, w.frozen? ⟨cf.R, o, none⟩ = false := frozen_of_heap h.r.hR
  have hRD : cf.R ≠ D := h.r.notD (by simp)
  obtain ⟨D', e1, e2, hD⟩ := h.r.hb.resolve_left (by rintro ⟨h1, _⟩; cases h1)
  simp only [Option.some.injEq, Addr.mk.injEq, and_true] at e1
  subst e1
  by_cases hr : x.rest = []
  · refine ⟨0, _, .inl ⟨hr, rfl, rfl⟩, by omega, by omega, fun q => ?_⟩
    rw [hr] at c0
    refine (read_end cf.R _ _ _ (w.drewN q) c0 c3).mono ?_
    rintro en w' ⟨rfl, n, rfl⟩
    refine ⟨rfl, pa, pcs, pc, ⟨?_, ?_, fun _ _ _ => rfl, rfl, rfl, rfl, rfl⟩, h.r.hp, h.r.hpc⟩
    · rw [List.drop_zero]; exact h.r.hR
    · have : filled bytes x.rest e 0 = bytes := by simp [filled]
      rw [this]; exact hD
  · have hsz : (⟨x.rest.toArray⟩ : ByteArray).size = x.rest.length := by simp [ByteArray.size]
    have hne : (⟨x.rest.toArray⟩ : ByteArray).toList.isEmpty = false := by rw [ByteArray.toList_mk]; cases hxr : x.rest with | nil => exact absurd hxr hr | cons _ _ => rfl
    have hpos := List.length_pos_iff.2 hr
    have hrest := h.r.hrest
    have hcs : ((bytes.map bv).toArray).size = L := by simp [hlen]
    cases hpcs : pcs with
    | nil =>
      rw [hpcs] at c1
      obtain ⟨n, hn⟩ : ∃ n, n = Nat.min x.rest.length (L - e) := ⟨_, rfl⟩
      have hn' : n = min x.rest.length (L - e) := hn
      refine ⟨n, _, .inr ⟨hr, by omega, rfl⟩, by omega, by omega, fun q => ?_⟩
      have hc := read_plain cf.R D e (L - e) (L - e) n ⟨x.rest.toArray⟩ cf.tog (n == x.rest.length) _ _ (w.drewN q) c0 pa pc c1 c2 c3 hne hfz hRD _ hD (by rw [hsz]; exact hn) (by rw [hcs]; omega) (by rw [hsz]; omega) (by rw [hsz]; omega) (by rw [drop_extract]; exact isEmpty_drop _ _ (by omega))
      refine hc.mono ?_
      rintro en w' ⟨rfl, qq, rfl⟩
      rw [rowOf_bytes, drop_extract]
      refine ⟨rfl, pa, [], pc, ⟨?_, ?_, ?_, rfl, rfl, rfl, by simp [World.setRow]⟩, fun i c hc => by simp at hc, ⟨Nat.zero_le _, h.r.hpc.2⟩⟩
      · show (((w.drewN q).setRow D _).setCell _ _).heap[cf.R]? = _
        have h0 : ((w.drewN q).setRow D (((filled bytes x.rest e n).map bv).toArray)).heap[cf.R]? = some (.cells #[.string ⟨x.rest.toArray⟩, .slice pa pcs.length pc, .bool cf.tog, errV cf.E (some cf.endE)] 116 (0, 0)) := (setRow_other _ _ _ _ hRD).trans h.r.hR
        rw [heap_setCell_at h0, hpcs]; rfl
      · show (((w.drewN q).setRow D _).setCell _ _).heap[D]? = _
        rw [heap_setCell_not (Ne.symm hRD)]
        exact setRow_heap (w.drewN q) D _ _ _ _ hD
      · intro k hk1 hk2
        show (((w.drewN q).setRow D _).setCell _ _).heap[k]? = _
        rw [heap_setCell_not hk1, setRow_other _ _ _ _ hk2]; rfl
    | cons p0 ps =>
      rw [hpcs] at c1
      obtain ⟨pb, po, e3, hpb, hq0⟩ := h.r.hp 0 p0 (by rw [hpcs]; rfl)
      rw [e3] at c1
      obtain ⟨m, hm⟩ : ∃ m : Nat, (m : Int) = min ((L - e : Nat) : Int) (max 1 p0) := ⟨(min ((L - e : Nat) : Int) (max 1 p0)).toNat, by omega⟩
      obtain ⟨n, hn⟩ : ∃ n, n = Nat.min x.rest.length m := ⟨_, rfl⟩
      have hn' : n = min x.rest.length m := hn
      have hpc := h.r.hpc
      rw [hpcs, List.length_cons] at hpc
      refine ⟨n, _, .inr ⟨hr, by omega, rfl⟩, by omega, by omega, fun q => ?_⟩
      have hc := read_piece cf.R D e (L - e) (L - e) n ⟨x.rest.toArray⟩ cf.tog (n == x.rest.length) _ _ (w.drewN q) c0 pb po ps.length pc p0 c1 hq0 c2 hpc.1 hpc.2 (by omega) (by omega) (by omega) c3 hne hfz hRD _ hD m hm (by rw [hsz]; exact hn) (by rw [hcs]; omega) (by rw [hsz]; omega) (by rw [hsz]; omega) (by rw [drop_extract]; exact isEmpty_drop _ _ (by omega))
      refine hc.mono ?_
      rintro en w' ⟨rfl, pa', hpa', qq, rfl⟩
      rw [rowOf_bytes, drop_extract]
      refine ⟨rfl, pa', ps, pc - 1, ⟨?_, ?_, ?_, rfl, rfl, rfl, by simp [World.setRow]⟩, ?_, by omega⟩
      · show ((((w.drewN q).setCell _ _).setRow D _).setCell _ _).heap[cf.R]? = _
        have h0 : (w.drewN q).heap[cf.R]? = some (.cells #[.string ⟨x.rest.toArray⟩, .slice pa pcs.length pc, .bool cf.tog, errV cf.E (some cf.endE)] 116 (0, 0)) := h.r.hR
        rw [heap_setCell_at ((setRow_other _ _ _ _ hRD).trans (heap_setCell_at h0 _))]; rfl
      · show ((((w.drewN q).setCell _ _).setRow D _).setCell _ _).heap[D]? = _
        rw [heap_setCell_not (Ne.symm hRD)]
        exact setRow_heap _ D _ _ _ _ ((heap_setCell_not (Ne.symm hRD) _).trans hD)
      · intro k hk1 hk2
        show ((((w.drewN q).setCell _ _).setRow D _).setCell _ _).heap[k]? = _
        rw [heap_setCell_not hk1, setRow_other _ _ _ _ hk2, heap_setCell_not hk1]; rfl
      · intro i c hc
        obtain ⟨b, o, e4, hb, hcell⟩ := h.r.hp (i + 1) c (by rw [hpcs]; simpa using hc)
        rw [e3] at e4
        simp only [Option.some.injEq, Addr.mk.injEq, and_true] at e4
        obtain ⟨rfl, rfl⟩ := e4
        refine ⟨pb, po + 1, hpa'.resolve_left fun h0 => ?_, hb, ?_⟩
        · have : ps = [] := List.length_eq_zero_iff.1 h0
          rw [this] at hc; simp at hc
        · rw [Nat.add_assoc, Nat.add_comm 1 i]; exact hcell

theorem m5_all (hs : SplitOK cf SI split ins fu) (Q : Exit → Act → World → Prop) (a : Act) (hF : Fr cf.B a) (h : SInv cf SI x tokv called ba L s e bytes pa pcs pc pl bl osp w) (hx : x.err = none) (heL : e < L)
    (hn : ∀ a' w' x' e' bytes' pa' pcs' pc', Sm.Rd cf.lim cf.tog cf.endE x x' → Fr cf.B a' → SInv cf SI x' tokv called ba L s e' bytes' pa' pcs' pc' pl bl osp w' → Off (ownOf cf pl bl osp) w w' → Q .normal a' w') : Code.wp Tryd.prog m5 Q a w := by
  have hLb : L ≤ 4194304 := by have h1 := h.r.hlim; have h2 := h.r.hbig; omega
  have hlim := h.r.hlim
  have hse := h.r.hse
  obtain ⟨D, rfl, rfl, hD⟩ := h.r.hb.resolve_left (by rintro ⟨_, h1, _⟩; omega)
  obtain ⟨n, ev, hev, hnL, hnr, hcall⟩ := read_all h heL hLb
  have hDB : D ≠ cf.B := h.r.notB (by simp)
  have hRB : cf.R ≠ cf.B := h.r.notB (by simp)
  have hpl : x.pend.length = e - s := by
    rw [h.r.hpend, List.length_take, List.length_drop, h.r.hlen]
    omega
  have hBk : ∀ {en w'}, ReadR cf x D e bytes pl n ev w en w' → w'.heap[cf.B]? = w.heap[cf.B]? := by
    rintro en w' ⟨_, _, _, _, hw, _⟩
    exact hw.other _ (Ne.symm hRB) (Ne.symm hDB)
  refine m5_read cf.B a w Q hF fun a' Q' hF' hQ => ?_
  refine m5b_read cf.B cf.R D L e cf.E a' w Q' (ReadR cf x D e bytes pl n ev w) hF' h.c0 h.c4 h.c6 heL hLb hcall ?_ ?_ ?_
  · intro en w' hr
    have hB' := (hBk hr).trans h.hB
    have h7 : w'.cell? ⟨cf.B, 7, none⟩ = some (errV cf.E x.err) := cell_of_heap hB'
    rw [hx] at h7
    refine ⟨⟨n, ev, hr.1, hnL, ?_⟩, cell_of_heap hB', cell_of_heap hB', h7, ⟨_, cell_of_heap hB'⟩, frozen_of_heap hB'⟩
    rcases hev with ⟨_, _, rfl⟩ | ⟨_, h1, rfl⟩
    · exact .inr ⟨cf.endE, rfl⟩
    · unfold readErr
      split
      · exact .inr ⟨cf.endE, rfl⟩
      · exact .inl ⟨rfl, by omega⟩
  · intro a2 w' w2 n' hr hn' hF2 hal
    have hB' := (hBk hr).trans h.hB
    obtain ⟨hen, pa', pcs', pc', hw, hp, hpc⟩ := hr
    simp only [Ending.returned.injEq, Value.tuple.injEq, Array.mk.injEq, List.cons.injEq, Value.int.injEq, true_and, and_true] at hen
    obtain ⟨hnn, hevv⟩ := hen
    have hnn' : n' = n := by omega
    subst hnn'
    rcases hev with ⟨_, _, rfl⟩ | ⟨hr0, h1, rfl⟩
    · cases hevv
    · have hb : (cf.tog && n' == x.rest.length) = false := by
        cases hb : (cf.tog && n' == x.rest.length) with
        | false => rfl
        | true => unfold readErr at hevv; rw [hb] at hevv; cases hevv
      have hI := ReadW.inv hs h hw hp hpc hn' hnr { x with pend := x.pend ++ x.rest.take n', rest := x.rest.drop n', emp := 0 } rfl rfl rfl h.r.herr (by simp) (w2 := w2) (.inr ⟨_, _, .inr ⟨_, _, hal⟩⟩)
        (by rw [hal.1, heap_setCell_at (heap_setCell_at hB' _)]; rfl)
      refine hQ _ _ (hn a2 w2 _ _ _ _ _ _ ?_ hF2 hI.1 hI.2)
      exact .inr ⟨n', h1, hnr, by omega, by rw [hb]; rfl⟩
  · intro a2 w' w2 n' c hr hn' hF2 hal
    have hB' := (hBk hr).trans h.hB
    obtain ⟨hen, pa', pcs', pc', hw, hp, hpc⟩ := hr
    simp only [Ending.returned.injEq, Value.tuple.injEq, Array.mk.injEq, List.cons.injEq, Value.int.injEq, true_and, and_true] at hen
    obtain ⟨hnn, hevv⟩ := hen
    have hnn' : n' = n := by omega
    subst hnn'
    have hE : errV cf.E (some cf.endE) = .iface 124 (.pointer (some (cf.E c))) := by
      rcases hev with ⟨_, _, rfl⟩ | ⟨hr0, h1, rfl⟩
      · exact hevv.symm
      · unfold readErr at hevv
        split at hevv
        · exact hevv.symm
        · cases hevv
    have hI := ReadW.inv hs h hw hp hpc hn' hnr { x with pend := x.pend ++ x.rest.take n', rest := x.rest.drop n', err := some cf.endE } rfl rfl rfl (fun d hd => by cases hd; exact h.r.hend) h.r.hemp (w2 := w2) (.inr ⟨_, _, .inr ⟨_, _, hal⟩⟩)
      (by rw [hal.1, heap_setCell_at (heap_setCell_at hB' _), ← hE]; rfl)
    refine hQ _ _ (hn a2 w2 _ _ _ _ _ _ ?_ hF2 hI.1 hI.2)
    rcases hev with ⟨h0, h1, rfl⟩ | ⟨hr0, h1, rfl⟩
    · refine .inl ⟨h0, ?_⟩
      rw [h0]; simp
    · refine .inr ⟨n', h1, hnr, by omega, ?_⟩
      have hb : (cf.tog && n' == x.rest.length) = true := by
        cases hb : (cf.tog && n' == x.rest.length) with
        | true => rfl
        | false => unfold readErr at hevv; rw [hb] at hevv; cases hevv
      rw [hb]; rfl

/-- One round of Scan's loop. -/
theorem round_all (hs : SplitOK cf SI split ins fu) (hfu : 0 < fu x.sp) (Q : Exit → Act → World → Prop) (a : Act) (hF : Fr cf.B a) (hemp : x.emp ≤ 100) (own : List Nat) (h : SOk cf SI x tokv called ba L own w)
    (hret : ∀ a' w' o x' tokv' ba' L' own', Sm.pre split cf.lim x = .inl (some o, x') → Fr cf.B a' → a'.tmps[2]? = some (.bool o.isSome) → SOk cf SI x' tokv' called ba' L' own' w' → TokOut w' ins ba' tokv' o → Off own w w' → Fresh own own' w → (cf.max ≤ (L : Int) → ba' = ba ∧ L' = L) → Q .ret a' w')
    (hpan : ∀ a' w' x' y tokv' ba' L' own', Sm.pre split cf.lim x = .inl (none, x') → a'.defers = [] → SOk cf SI x' tokv' called ba' L' own' w' → Off own w w' → Fresh own own' w → Q (.panic [{ v := .iface 9 y, recovered := false }]) a' w')
    (hnorm : ∀ a' w' x1 x2 tokv' ba' L' own', Sm.pre split cf.lim x = .inr x1 → Sm.Rd cf.lim cf.tog cf.endE x1 x2 → x1.rest = x.rest → x1.err = none → x.err = none → x2.emp ≤ 100 → x1.done = x.done → Fr cf.B a' → SOk cf SI x2 tokv' called ba' L' own' w' → Off own w w' → Fresh own own' w → (cf.max ≤ (L : Int) → ba' = ba ∧ L' = L) → Q .normal a' w') :
    Code.wp Tryd.prog body1 Q a w := by
  obtain ⟨s, e, bytes, pa, pcs, pc, pl, bl, osp, h, rfl⟩ := h
  refine wp_parts (by kernel_rfl) ?_
  refine m1_all hs hfu _ a hF hemp h ?_ ?_ ?_
  · intro a' w' o x' tokv' own' h1 h2 h3 h4 h5 h6 h7
    exact hret a' w' o x' tokv' ba L own' h1 h2 h3 h4 h5 h6 h7 fun _ => ⟨rfl, rfl⟩
  · intro a' w' x' y tokv' own' h1 h2 h3 h4 h5
    exact hpan a' w' x' y tokv' ba L own' h1 h2 h3 h4 h5
  · intro a1 w1 x1 tokv1 s1 osp1 hpre hrest herr hdone hempx hF1 h1 ho1 hfr1
    refine wp_parts (by kernel_rfl) ?_
    by_cases hx : x1.err.isSome = true
    · refine m2_all_err hs _ a1 hF1 h1 hx fun a2 w2 hF2 h2 hI ho2 => ?_
      refine hret a2 w2 none { x1 with pend := [] } tokv1 ba L _ (by rw [hpre]; simp [Sm.after, hx]) hF2 h2 hI.own trivial (ho1.trans ho2 hfr1) hfr1 fun _ => ⟨rfl, rfl⟩
    · have hx0 : x1.err = none := by cases hxe : x1.err with | none => rfl | some c => rw [hxe] at hx; exact absurd rfl hx
      have h7 := h1.c7
      rw [hx0] at h7
      refine m2_ok cf.B a1 w1 _ hF1 h7 fun a2 hF2 => ?_
      refine wp_parts (by kernel_rfl) ?_
      refine m3_all hs _ a2 hF2 h1 fun a3 w3 s3 e3 bytes3 hF3 h3 hfull ho3 hsz3 => ?_
      refine wp_parts (by kernel_rfl) ?_
      have ho13 : Off (ownOf cf pl bl osp) w w3 := ho1.trans ho3 hfr1
      refine m4_all hs _ a3 hF3 h3 hx0 hfull ?_ ?_
      · intro a4 w4 hl hF4 h2 hI ho4
        refine hret a4 w4 none (x1.setErr cTooLong) tokv1 ba L _ (by rw [hpre]; simp [Sm.after, hx0, hl]) hF4 h2 hI.own trivial (ho13.trans ho4 hfr1) hfr1 fun _ => ⟨rfl, rfl⟩
      · intro a4 w4 ba4 L4 s4 e4 bytes4 bl4 hl hF4 hI hlt ho4 hfr4 hmax
        have ho14 : Off (ownOf cf pl bl osp) w w4 := ho13.trans ho4 hfr1
        have hfr14 : Fresh (ownOf cf pl bl osp) (ownOf cf pl bl4 osp1) w := hfr1.trans hfr4 (by have := ho13.size; omega)
        refine m5_all hs _ a4 hF4 hI hx0 hlt fun a5 w5 x5 e5 bytes5 pa5 pcs5 pc5 hrd hF5 hI5 ho5 => ?_
        refine hnorm a5 w5 x1 x5 tokv1 ba4 L4 _ (by rw [hpre]; simp [Sm.after, hx0, hl]) hrd hrest hx0 (by rw [← herr]; exact hx0) ?_ hdone hF5 hI5.own (ho14.trans ho5 hfr14) hfr14 hmax
        rcases hrd with ⟨_, rfl⟩ | ⟨n, _, _, _, rfl⟩
        · show x1.emp ≤ 100
          omega
        · split
          · show x1.emp ≤ 100
            omega
          · exact Nat.zero_le _

/-- What a call of Scan leaves. -/
def ScanPost (cf : Cfg) (SI : σ → List Nat → World → Prop) (split : σ → List UInt8 → Bool → Ans σ) (ins : Bool) (x : Sm σ) (ba : Option Addr) (L : Nat) (own : List Nat) (w : World) (en : Ending) (w' : World) : Prop :=
  ∃ o x' tokv' ba' L' own', Sm.Scan split cf.lim cf.tog cf.endE x o x' ∧ SOk cf SI x' tokv' true ba' L' own' w' ∧ Off own w w' ∧ Fresh own own' w ∧
    (∀ o', o = some o' → en = .returned (.bool o'.isSome) ∧ TokOut w' ins ba' tokv' o' ∧ (cf.max ≤ (L : Int) → ba' = ba ∧ L' = L)) ∧ (o = none → ∃ y, en = .panicked [{ v := .iface 9 y, recovered := false }])

/-- .. and how much of the split function's fuel it used -/
def ScanPostF (cf : Cfg) (SI : σ → List Nat → World → Prop) (split : σ → List UInt8 → Bool → Ans σ) (ins : Bool) (fu : σ → Nat) (x : Sm σ) (ba : Option Addr) (L : Nat) (own : List Nat) (w : World) (en : Ending) (w' : World) : Prop :=
  ∃ o x' tokv' ba' L' own', (fu x.sp + x'.left ≤ fu x'.sp + x.left + 1 ∨ x'.done = true ∨ o = some none) ∧ Sm.Scan split cf.lim cf.tog cf.endE x o x' ∧ SOk cf SI x' tokv' true ba' L' own' w' ∧ Off own w w' ∧ Fresh own own' w ∧
    (∀ o', o = some o' → en = .returned (.bool o'.isSome) ∧ TokOut w' ins ba' tokv' o' ∧ (cf.max ≤ (L : Int) → ba' = ba ∧ L' = L)) ∧ (o = none → ∃ y, en = .panicked [{ v := .iface 9 y, recovered := false }])

theorem setErr_sp (s : Sm σ) (c : Nat) : (s.setErr c).sp = s.sp ∧ (s.setErr c).left ≤ s.left := by
  unfold Sm.setErr
  split
  · refine ⟨rfl, ?_⟩
    simp [Sm.left]
  · exact ⟨rfl, Nat.le_refl _⟩
theorem after_sp {lim : Nat} (s : Sm σ) : (∀ o x', Sm.after lim s = .inl (o, x') → x'.sp = s.sp ∧ x'.left ≤ s.left) ∧ (∀ x', Sm.after lim s = .inr x' → x'.sp = s.sp) := by
  unfold Sm.after
  split
  · refine ⟨fun o x' h => ?_, fun x' h => (by cases h)⟩
    cases h
    exact ⟨rfl, Nat.le_refl _⟩
  · split
    · refine ⟨fun o x' h => ?_, fun x' h => (by cases h)⟩
      cases h
      exact setErr_sp s _
    · refine ⟨fun o x' h => (by cases h), fun x' h => ?_⟩
      cases h
      rfl
theorem took_sp {lim : Nat} (s : Sm σ) (r : Ans σ) : (∀ o x', Sm.took lim s r = .inl (o, x') → x'.sp = r.sp ∧ x'.left ≤ s.left) ∧ (∀ x', Sm.took lim s r = .inr x' → x'.sp = r.sp) := by
  unfold Sm.took
  split
  · split
    · exact ⟨fun o x' h => (by cases h; exact ⟨rfl, Nat.le_refl _⟩), fun x' h => (by cases h)⟩
    · exact ⟨fun o x' h => (by cases h; exact ⟨rfl, Nat.le_refl _⟩), fun x' h => (by cases h)⟩
  · split
    · exact ⟨fun o x' h => (by cases h; exact setErr_sp { s with sp := r.sp } _), fun x' h => (by cases h)⟩
    · split
      · exact ⟨fun o x' h => (by cases h; exact setErr_sp { s with sp := r.sp } _), fun x' h => (by cases h)⟩
      · split
        · exact ⟨fun o x' h => (by cases h; exact setErr_sp { s with sp := r.sp } _), fun x' h => (by cases h)⟩
        · split
          · split
            · exact ⟨fun o x' h => (by cases h; exact ⟨rfl, Nat.le_refl _⟩), fun x' h => (by cases h)⟩
            · split
              · exact ⟨fun o x' h => (by cases h; exact ⟨rfl, Nat.le_refl _⟩), fun x' h => (by cases h)⟩
              · exact ⟨fun o x' h => (by cases h; exact ⟨rfl, Nat.le_refl _⟩), fun x' h => (by cases h)⟩
          · exact after_sp { s with sp := r.sp, pend := s.pend.drop r.adv.toNat }
theorem took_final {lim : Nat} (s : Sm σ) (r : Ans σ) (h : r.code = 1 ∨ r.code = 2) : (∀ o x', Sm.took lim s r = .inl (o, x') → x'.done = true ∨ o = some none) ∧ (∀ x', Sm.took lim s r = .inr x' → False) := by
  unfold Sm.took
  split
  · split
    · exact ⟨fun o x' h => (by cases h; exact .inl rfl), fun x' h => (by cases h)⟩
    · exact ⟨fun o x' h => (by cases h; exact .inl rfl), fun x' h => (by cases h)⟩
  · rename_i h1
    rw [if_pos (h.resolve_left h1)]
    exact ⟨fun o x' h => (by cases h; exact .inr rfl), fun x' h => (by cases h)⟩
theorem pre_fu (hf : ∀ x d b, (split x d b).code = 1 ∨ (split x d b).code = 2 ∨ fu x ≤ fu (split x d b).sp + 1) {lim : Nat} (s : Sm σ) : (∀ o x', Sm.pre split lim s = .inl (o, x') → (fu s.sp ≤ fu x'.sp + 1 ∧ x'.left ≤ s.left) ∨ x'.done = true ∨ o = some none) ∧ (∀ x', Sm.pre split lim s = .inr x' → fu s.sp ≤ fu x'.sp + 1) := by
  unfold Sm.pre
  split
  · have h2 := took_sp (lim := lim) s (split s.sp s.pend s.err.isSome)
    rcases or_assoc.2 (hf s.sp s.pend s.err.isSome) with h1 | h1
    · have h3 := took_final (lim := lim) s (split s.sp s.pend s.err.isSome) h1
      exact ⟨fun o x' h => .inr (h3.1 o x' h), fun x' h => (h3.2 x' h).elim⟩
    · exact ⟨fun o x' h => .inl (by rw [(h2.1 o x' h).1]; exact ⟨h1, (h2.1 o x' h).2⟩), fun x' h => (by rw [h2.2 x' h]; exact h1)⟩
  · have h2 := after_sp (lim := lim) s
    exact ⟨fun o x' h => .inl (by rw [(h2.1 o x' h).1]; exact ⟨Nat.le_succ _, (h2.1 o x' h).2⟩), fun x' h => (by rw [h2.2 x' h]; exact Nat.le_succ _)⟩
theorem Rd_sp {lim : Nat} {tog : Bool} {endE : Nat} {s s' : Sm σ} (h : Sm.Rd lim tog endE s s') : s'.sp = s.sp := by
  rcases h with ⟨_, rfl⟩ | ⟨n, _, _, _, rfl⟩
  · rfl
  · split <;> rfl

/-- the loop's invariant -/
def LoopI (cf : Cfg) (SI : σ → List Nat → World → Prop) (split : σ → List UInt8 → Bool → Ans σ) (fu : σ → Nat) (x0 : Sm σ) (ba0 : Option Addr) (L0 : Nat) (own0 : List Nat) (w0 : World) (n : Nat) (a : Act) (w : World) : Prop :=
  Fr cf.B a ∧ ∃ x tokv ba L own, SOk cf SI x tokv true ba L own w ∧ x.left = n ∧ x.emp ≤ 100 ∧ x.done = false ∧ (x.left < fu x.sp ∧ fu x0.sp + x.left ≤ fu x.sp + x0.left) ∧ Off own0 w0 w ∧ Fresh own0 own w0 ∧ (cf.max ≤ (L0 : Int) → ba = ba0 ∧ L = L0) ∧
    ∀ o x', (∃ k, Sm.LoopN split cf.lim cf.tog cf.endE k x o x') → ∃ k, Sm.LoopN split cf.lim cf.tog cf.endE k x0 o x'

theorem ret_bool {fn : Func} {P : Program} {R : Ending → World → Prop} {a : Act} {w : World} {b : Bool} (hd : a.defers = []) (hr : (results fn a.tmps).run P w = .ok (.bool b) w) (h : R (.returned (.bool b)) w) : bodyPost P fn R .ret a w := ⟨hd, _, hr, h⟩

set_option maxRecDepth 100000 in
theorem scan_results {B : Nat} {a : Act} {w : World} {b : Bool} (hF : Fr B a) (h2 : a.tmps[2]? = some (.bool b)) : (results Tryd.f47 a.tmps).run Tryd.prog w = .ok (.bool b) w := by
  obtain ⟨v2, v3, v4, v5, f, rfl⟩ := hF
  have h3 : v2 = .bool b := by
    have : (fr B v2 v3 v4 v5 f).tmps[2]? = some v2 := rfl
    rw [this] at h2
    exact Option.some.inj h2
  subst h3
  unfold fr
  exact results_tmp (fn := Tryd.f47) (t := 2) rfl _ _ _

noncomputable def loopBody : Code := ((Tryd.f47.body.bind loopOf).getD .skip)

/-- Scan's loop. -/
theorem loop_all (hs : SplitOK cf SI split ins fu) (x0 : Sm σ) (ba0 : Option Addr) (L0 : Nat) (own0 : List Nat) (w0 : World) (hd0 : x0.done = false) (a : Act) (w : World) (n : Nat) (hI : LoopI cf SI split fu x0 ba0 L0 own0 w0 n a w)
    (Q : Exit → Act → World → Prop) (hQ : ∀ e a w, (e = .ret ∨ ∃ c, e = .panic c) → bodyPost Tryd.prog Tryd.f47 (ScanPostF cf SI split ins fu x0 ba0 L0 own0 w0) e a w → Q e a w) :
    Code.wp Tryd.prog (.loop loopBody) Q a w := by
  refine wp_loop_ghost (LoopI cf SI split fu x0 ba0 L0 own0 w0) n hI ?_
  rintro n a w ⟨hF, x, tokv, ba, L, own, h, hleft, hemp, hdone, hfl, ho, hfr, hmax, hreach⟩
  obtain ⟨hfl1, hfl2⟩ := hfl
  show Code.wp Tryd.prog (.block 1 body1) _ a w
  refine wp_block ?_
  have hpf := pre_fu hs.fuel (lim := cf.lim) x
  refine round_all hs (by omega) _ a hF hemp own h ?_ ?_ ?_
  · intro a' w' o x' tokv' ba' L' own' hpre hF' h2 hI' htok ho' hfr' hmax'
    refine hQ _ _ _ (.inl rfl) (ret_bool (by obtain ⟨_, _, _, _, _, rfl⟩ := hF'; rfl) (scan_results hF' h2) ?_)
    refine ⟨some o, x', tokv', ba', L', own', (by rcases hpf.1 _ _ hpre with h | h; exact .inl (by omega); exact .inr h), .inr ⟨hd0, hreach _ _ ⟨0, hpre⟩⟩, hI', ho.trans ho' hfr, hfr.trans hfr' ho.size, ?_, fun h => by cases h⟩
    rintro o' ho2
    cases ho2
    refine ⟨rfl, htok, fun h0 => ?_⟩
    obtain ⟨rfl, rfl⟩ := hmax h0
    exact hmax' h0
  · intro a' w' x' y tokv' ba' L' own' hpre hd hI' ho' hfr'
    refine hQ _ _ _ (.inr ⟨_, rfl⟩) ⟨hd, ?_⟩
    exact ⟨none, x', tokv', ba', L', own', (by rcases hpf.1 _ _ hpre with h | h; exact .inl (by omega); exact .inr h), .inr ⟨hd0, hreach _ _ ⟨0, hpre⟩⟩, hI', ho.trans ho' hfr, hfr.trans hfr' ho.size, (fun _ h => by cases h), fun _ => ⟨y, rfl⟩⟩
  · intro a' w' x1 x2 tokv' ba' L' own' hpre hrd hr1 he1 he0 hemp2 hd1 hF' hI' ho' hfr' hmax'
    have hl2 : x2.left < x.left := by
      rcases hrd with ⟨h1, rfl⟩ | ⟨m, h1, h2, _, rfl⟩
      · simp [Sm.left, he0, hr1]
      · split
        · simp [Sm.left, he0, ← hr1]; omega
        · simp [Sm.left, he0, he1, ← hr1]; omega
    have hp2 := hpf.2 _ hpre
    rw [← Rd_sp hrd] at hp2
    refine ⟨x2.left, ?_, hF', x2, tokv', ba', L', own', hI', rfl, hemp2, ?_, ⟨by omega, by omega⟩, ho.trans ho' hfr, hfr.trans hfr' ho.size, fun h0 => ?_, fun o x' ⟨k, hk⟩ => hreach _ _ ⟨k + 1, x1, x2, hpre, hrd, hk⟩⟩
    · rw [← hleft]; exact hl2
    · rw [← hdone, ← hd1]
      rcases hrd with ⟨h1, rfl⟩ | ⟨m, h1, h2, _, rfl⟩
      · rfl
      · split <;> rfl
    · obtain ⟨rfl, rfl⟩ := hmax h0
      exact hmax' h0

set_option maxRecDepth 100000 in
set_option maxHeartbeats 1000000 in
/-- SCAN'S CONTRACT, with the fuel. -/
theorem scan_fu (hs : SplitOK cf SI split ins fu) (own : List Nat) (h : SOk cf SI x tokv called ba L own w) (hemp : x.emp ≤ 100) (hdc : x.done = true → called = true) (hfu : x.done = true ∨ x.left < fu x.sp) :
    Calls Tryd.prog 47 #[.pointer (some ⟨cf.B, 0, none⟩)] w (ScanPostF cf SI split ins fu x ba L own w) := by
  obtain ⟨s, e, bytes, pa, pcs, pc, pl, bl, osp, h, rfl⟩ := h
  have h10 := h.c10
  have h9 := h.c9
  have hf := h.frozen
  cases hd : x.done with
  | true =>
    obtain rfl := hdc hd
    rw [hd] at h10
    have HP := Lib.hid (show ScanPostF cf SI split ins fu x ba L (ownOf cf pl bl osp) w (.returned (.bool false)) w from
      ⟨some none, x, tokv, ba, L, _, .inl (by omega), .inl ⟨hd, rfl, rfl⟩, h.own, Off.refl _ _, Fresh.refl _ _, fun o' ho => by cases ho; exact ⟨rfl, trivial, fun _ => ⟨rfl, rfl⟩⟩, fun h => by cases h⟩)
    clear hdc h hemp hd hfu
    generalize ScanPostF cf SI split ins fu x ba L (ownOf cf pl bl osp) w = PP at HP ⊢
    go_enter Tryd.func47, Tryd.ntmps47
    go_wp2
    exact HP.out
  | false =>
    rw [hd] at h10
    have HL := Lib.hid (fun a hF Q hQ => loop_all hs x ba L (ownOf cf pl bl osp) w hd a (w.setCell ⟨cf.B, 9, none⟩ (.bool true)) x.left
      ⟨hF, x, tokv, ba, L, ownOf cf pl bl osp, SInv.own ⟨by rw [heap_setCell_at h.hB]; rfl, h.r.store hs 9 _⟩, rfl, hemp, hd, ⟨hfu.resolve_left (by rw [hd]; simp), Nat.le_refl _⟩, (Off.refl _ _).setCell (p := ⟨cf.B, 9, none⟩) memB _, Fresh.refl _ _, fun _ => ⟨rfl, rfl⟩, fun _ _ h => h⟩ Q hQ)
    clear hdc h hemp hd hfu
    generalize ScanPostF cf SI split ins fu x ba L (ownOf cf pl bl osp) w = PP at HL ⊢
    go_enter Tryd.func47, Tryd.ntmps47
    go_wp2
    refine HL.out _ (Fr.of _ _ rfl rfl rfl) _ ?_
    rintro e a w (rfl | ⟨c, rfl⟩) hp
    · exact hp
    · exact hp

theorem SOk.restLe {own : List Nat} (h : SOk cf SI x tokv called ba L own w) : x.rest.length ≤ 140737488355328 := by
  obtain ⟨s, e, bytes, pa, pcs, pc, pl, bl, osp, h, rfl⟩ := h
  exact h.r.hrest
/-- SCAN'S CONTRACT. -/
theorem scan_any (hs : SplitOK cf SI split ins) (own : List Nat) (h : SOk cf SI x tokv called ba L own w) (hemp : x.emp ≤ 100) (hdc : x.done = true → called = true) :
    Calls Tryd.prog 47 #[.pointer (some ⟨cf.B, 0, none⟩)] w (ScanPost cf SI split ins x ba L own w) := by
  refine (scan_fu hs own h hemp hdc (.inr <| by
    have := h.restLe
    simp only [Sm.left]
    split <;> omega)).mono ?_
  rintro en w' ⟨o, x', tokv', ba', L', own', -, hr⟩
  exact ⟨o, x', tokv', ba', L', own', hr⟩
end
end Go.Proofs.YtkclapimgmnldaaDoor
