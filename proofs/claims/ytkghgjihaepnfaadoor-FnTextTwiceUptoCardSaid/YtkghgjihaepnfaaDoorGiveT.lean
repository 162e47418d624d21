/-
  impl.TextTwice: each token twice, into two lists.
-/
import Derived.Test.YtkghgjihaepnfaaDoorGiveB
namespace Go.Proofs.YtkghgjihaepnfaaDoor
set_option linter.unusedVariables false
set_option linter.unusedSimpArgs false
open Go.RowKit

/-- two lists apart -/
def Apart (va vb : Value) : Prop := ∀ k, va.ownBlock = some k → vb.ownBlock ≠ some k

/-- a gathered row stays where another one grows -/
theorem Gath.other {base : Nat} {own : List Nat} {w w1 : World} {va vb : Value} {ts ts' : List (List UInt8)} {ob : Obj} (hb : Gath base own w vb ts) (ha : Gath base own w va ts') (hap : Apart va vb) (hw : (w.alloc ob).grownBy w1 va.ownBlock) : Gath base own w1 vb ts := by
  obtain ⟨h1, h2⟩ := hb
  refine ⟨?_, h2⟩
  have h3 : (w.alloc ob).ownsRow base 9 1 vb ts.length (ts.map sv) := World.ownsRow.alloc h1 ob
  refine World.ownsRow.kept h3 hw ?_
  cases hvb : vb.ownBlock with
  | none => exact .inl rfl
  | some k => exact .inr fun e => hap k e.symm hvb

section
variable {σ : Type} {cf : Cfg} {SI : σ → List Nat → World → Prop} {split : σ → List UInt8 → Bool → Ans σ} {ins : Bool} {x : Sm σ} {tokv : Value} {called : Bool} {ba : Option Addr} {L : Nat} {own : List Nat} {w : World}

/-- the loop's invariant -/
def TwiceI (cf : Cfg) (SI : σ → List Nat → World → Prop) (split : σ → List UInt8 → Bool → Ans σ) (P : List (List UInt8) → Sm σ → Prop) (own0 : List Nat) (w0 : World) (n : Nat) (va vb : Value) (w : World) : Prop :=
  ∃ x tokv called ba L own ts, SOk cf SI x tokv called ba L own w ∧ x.emp ≤ 100 ∧ (x.done = true → called = true) ∧ Off own0 w0 w ∧ Fresh own0 own w0 ∧ Gath w0.heap.size own w va ts ∧ Gath w0.heap.size own w vb ts ∧ Apart va vb ∧ Runs split cf.lim cf.tog cf.endE P n x ts ∧ (ts.length + n) * 16 ≤ 140737488355328

theorem twice_start (hs : SplitOK cf SI split ins) (h : SOk cf SI x tokv called ba L own w) (hemp : x.emp ≤ 100) (hdc : x.done = true → called = true) {P : List (List UInt8) → Sm σ → Prop} {n : Nat} (hr : Runs split cf.lim cf.tog cf.endE P n x []) (hn : n * 16 ≤ 140737488355328) :
    TwiceI cf SI split P own w n (.slice (some ⟨w.heap.size, 0, none⟩) 0 0) (.slice (some ⟨w.heap.size + 1, 0, none⟩) 0 0) ((w.alloc (.cells #[] 9)).alloc (.cells #[] 9)) := by
  have hbase := h.base_le
  have hlts := h.lt
  refine ⟨x, tokv, called, ba, L, own, [], ?_, hemp, hdc, ((Off.refl _ _).alloc _).alloc _, Fresh.refl _ _, ⟨?_, ?_⟩, ⟨?_, ?_⟩, ?_, hr, by simpa using hn⟩
  · exact h.frame hs (((Below.refl _ _).alloc hbase _).alloc (by simp; omega) _) fun k hk => (Below.heap_alloc _ _ _ (by have := (hlts k hk).2; simp; omega)).trans (Below.heap_alloc _ _ _ (hlts k hk).2)
  · exact World.ownsRow.alloc (World.ownsRow_made _ _ _ (Nat.le_refl _) (by decide) rfl) _
  · intro k hk hm
    have := (hlts k hm).2
    simp [Value.ownBlock] at hk
    omega
  · have := World.ownsRow_made (base := w.heap.size) (e := 9) (size := 1) (w.alloc (.cells #[] 9)) #[] 0 (by simp) (by decide) rfl
    simpa [StrsAt] using this
  · intro k hk hm
    have := (hlts k hm).2
    simp [Value.ownBlock] at hk
    omega
  · intro k hk
    simp [Value.ownBlock] at hk ⊢
    omega

/-- a token stays where a gathered row grows -/
theorem tok_push {base : Nat} (h : SOk cf SI x tokv called ba L own w) {v : Value} {ts : List (List UInt8)} (hg : Gath base own w v ts) {ob : Obj} {w1 : World} (hw : (w.alloc ob).grownBy w1 v.ownBlock) {p : Addr} {t : List UInt8} (hb : Bytes8 w (some p) t)
    (hins : t ≠ [] → ∃ D, ba = some ⟨D, 0, none⟩ ∧ p.block = D) : Bytes8 w1 (some p) t := by
  obtain ⟨s, e, bytes, pa, pcs, pc, pl, bl, osp, h, rfl⟩ := h
  intro i c hc
  obtain ⟨b, o, e1, hcell⟩ := hb i c hc
  refine ⟨b, o, e1, ?_⟩
  have hne : t ≠ [] := fun h0 => by rw [h0] at hc; simp at hc
  obtain ⟨D, hD, hp⟩ := hins hne
  obtain rfl := Option.some.inj e1
  simp only at hp
  subst hp
  have hlt : b < w.heap.size := World.block_lt_of_cell? w _ hcell
  have hown : b ∈ ownOf cf pl bl osp := by
    rcases h.r.hb with ⟨h1, _⟩ | ⟨D, h1, h2, _⟩
    · rw [h1] at hD; cases hD
    · rw [h1] at hD
      simp only [Option.some.injEq, Addr.mk.injEq, and_true] at hD
      subst hD
      simp [ownOf, h2]
  have hk := hw.block b (by simp; omega) (fun e => hg.2 b e.symm hown)
  exact (World.cell?_of_block (a := ⟨b, o + i, none⟩) (hk.trans (Below.heap_alloc _ _ _ hlt))).trans hcell
end

/-- what TextTwice gives -/
def Gives2 (xs : List (List UInt8)) (w : World) (e : Ending) (w' : World) : Prop := ∃ va vb, e = .returned (.tuple #[va, vb]) ∧ StrsAt w.heap.size w' va xs ∧ StrsAt w.heap.size w' vb xs ∧ Below w.heap.size w w'

section
variable {base : Nat} {w : World} {E : Nat → Addr} {s : ByteArray}
set_option maxHeartbeats 1000000 in
theorem implTextTwice_any (hE : Env base w E) (hs : s.size ≤ 4194304) (hr : Roomy 65536 s.data.toList) :
    Calls Tryd.prog 28 #[.string s] w (Gives2 (tokens s.data.toList) w) := by
  obtain ⟨i0, hi, hz0, hz1, hz2⟩ := info_parts info_str
  have HS := Lib.hid (scanner_any (s := s) (pa := none) (pcs := []) (pc := 0) (tog := false) (c := 0) (m := 0) true false hE (PcsAt.none base w) (by omega) rfl)
  have HR := Lib.hid (lines_all (lim := 65536) false 0 s (by omega) hr)
  clear hE hr
  go_enter Tryd.func28, Tryd.ntmps28
  go_wp2_with fail
  refine HS.out.mono ?_
  rintro e w1 ⟨ba, L, own, rfl, hok, hb, hown⟩
  have hso : SplitOK (newCf E base w.heap.size false false true 0 0) noMem splitLines true := lines_ok _ rfl rfl rfl
  have HSO := Lib.hid hso
  have HT := Lib.hid (twice_start hso hok (by simp) (by simp) (P := EndsL 0 s.data.toList) HR.out (by omega))
  have hbase : base ≤ w1.heap.size := hok.base_le
  have HB := Lib.hid hb
  have HO := Lib.hid hown
  clear hok hb hown HS HR hso
  have HP : ∀ (va vb : Value) (x : Sm Unit) (own' : List Nat) (ts : List (List UInt8)) (w2 : World), EndsL 0 s.data.toList ts x → Off own w1 w2 → Gath w1.heap.size own' w2 va ts → Gath w1.heap.size own' w2 vb ts → Gives2 (tokens s.data.toList) w (.returned (.tuple #[va, vb])) w2 := by
    rintro va vb x own' ts w2 ⟨rfl, -⟩ ho hg hg2
    exact ⟨va, vb, rfl, hg.1.mono HB.out.size, hg2.1.mono HB.out.size, off_nil (off_new HB.out HO.out ho)⟩
  have HP := Lib.hid HP
  clear HB HO
  generalize Gives2 (tokens s.data.toList) w = PP at *
  generalize EndsL 0 s.data.toList = EE at *
  generalize hcf : newCf E base w.heap.size false false true 0 0 = cf at *
  have hcB : cf.B = w.heap.size + 4 := by rw [← hcf]
  have hcb : cf.base = base := by rw [← hcf]
  rw [← hcb] at hbase
  clear hcf hcb
  have HCB := Lib.hid hcB
  clear hcB
  go_wp2_with fail
  go_loopg [5, 6] s.size (fun m va vb wr => TwiceI cf noMem splitLines EE own w1 m va vb wr)
  case atStart => exact HT.out
  case round =>
    obtain ⟨x, tokv, called, ba, L, own1, ts, h, hemp, hdc, ho, hf, hga, hgb, hap, hr, hcap⟩ := hrel
    have hC := scan_any HSO.out own1 h hemp hdc
    rw [HCB.out] at hC
    have HC := Lib.hid hC
    have HH := Lib.hid (And.intro hemp (And.intro ho (And.intro hf (And.intro hga (And.intro hgb (And.intro hap (And.intro hr hcap)))))))
    clear h hemp hdc ho hf hga hgb hap hr hcap HT hC
    go_wp2_with fail
    refine HC.out.mono ?_
    rintro en w2 ⟨o, x', tokv', ba', L', own2, hscan, hok, ho1, hf1, hret, hpan⟩
    obtain ⟨hemp, ho, hf, hga, hgb, hap, hr, hcap⟩ := HH.out
    clear HC HH hpan
    rcases hr.step hscan with ⟨rfl, hP⟩ | ⟨t, m, rfl, rfl, hr'⟩
    · obtain ⟨rfl, -, -⟩ := hret _ rfl
      have HQ := Lib.hid (HP.out _ _ _ own2 ts w2 hP (ho.trans ho1 hf) (hga.scan ho1 hf1) (hgb.scan ho1 hf1))
      clear hret hscan hok ho1 hf1 hr hcap hga hgb hap ho hf hemp hP hbase HP
      go_wp2_with fail
      exact HQ.out
    · obtain ⟨rfl, ⟨p, c', rfl, hc1, hc2, hby, -, hins⟩, -⟩ := hret _ rfl
      have hga1 := hga.scan ho1 hf1
      have hgb1 := hgb.scan ho1 hf1
      have hcell := hok.tok
      rw [HCB.out] at hcell
      have HT := Lib.hid (text_any _ w2 p c' t hcell hby)
      have hlt2 := hok.lt
      have hsz := ho.size
      have hsz1 := ho1.size
      have HR := Lib.hid hga1.1
      have HB := Lib.hid (show w1.heap.size ≤ w2.heap.size by omega)
      have HN := Lib.hid (show ts.length + 1 ≤ 8796093022208 by omega)
      have HA := Lib.hid (And.intro hok (And.intro hscan (And.intro hemp (And.intro (ho.trans ho1 hf) (And.intro (hf.trans hf1 hsz) (And.intro hga1 (And.intro hgb1 (And.intro hap (And.intro hr' (And.intro hby (And.intro (hins rfl) hcap)))))))))))
      clear hret hscan hok ho1 hf1 hr hr' hcap hga hga1 hgb hgb1 hap ho hf hemp hlt2 hsz hsz1 hby hc1 hc2 hcell HP hins
      go_wp2_with fail
      refine HT.out.mono ?_
      rintro e w3 ⟨rfl, rfl⟩
      go_wp2_with (first
        | (at_builtin; refine wpList_append_own_at _ rfl _ _ 24 rfl w1.heap.size 9 i0 (.string ⟨#[]⟩) 1 16 (by kernel_rfl) hi hz0 hz1 hz2 rfl (by decide) _ _ _ rfl (HR.out.alloc _) ⟨w2.heap.size, 0, none⟩ 1 1 [sv t] rfl rfl ?c1 ?c2 ?c3 ?c4 ?c5 ?_)
        | go_in)
      case c1 => exact cell_one_new _ _ _
      case c2 => intro u hu; simp at hu; subst hu; rfl
      case c3 => have := HN.out; unfold maxLen; omega
      case c4 => have := HN.out; omega
      case c5 => have := HB.out; simp; omega
      · intro va' w3 hown' hgrow _ hat
        obtain ⟨hok, hscan, hemp, ho, hf, hga1, hgb1, hap, hr', hby, hins, hcap⟩ := HA.out
        have hlt2 := hok.lt
        have hok3 := hok.push HSO.out hbase hga1 hgrow
        have ho3 := ho.push hga1 hgrow
        have hga3 := hga1.push (t := t) (ob := .cells #[sv t] 9) (fun k hk => (hlt2 k hk).2) hown' rfl (by simpa using hat)
        have hgb3 := hgb1.other hga1 hap hgrow
        have hby3 := tok_push hok hga1 hgrow hby hins
        have hap3 : Apart va' u6 := by
          intro k hk hk2
          rcases hat with h1 | h1
          · rw [h1] at hk; exact hap k hk hk2
          · rw [h1] at hk
            have := (World.ownsRow.lt hgb1.1 k hk2).2
            simp at hk
            omega
        have hcell := hok3.tok
        rw [HCB.out] at hcell
        have HT3 := Lib.hid (text_any _ w3 p c' t hcell hby3)
        have hlt3 := hok3.lt
        have hb3 : w1.heap.size ≤ w3.heap.size := ho3.size
        have HR3 := Lib.hid hgb3.1
        have HB3 := Lib.hid hb3
        have HA3 := Lib.hid (fun (vb' : Value) (w4 : World) (hrow : w4.ownsRow w1.heap.size 9 1 vb' (ts.length + 1) (ts.map sv ++ [sv t])) (hgrow : (w3.alloc (.cells #[sv t] 9)).grownBy w4 u6.ownBlock) (hat : vb'.ownBlock = u6.ownBlock ∨ vb'.ownBlock = some (w3.alloc (.cells #[sv t] 9)).heap.size) =>
          (show TwiceI cf noMem splitLines EE own w1 m va' vb' w4 from ⟨x', _, true, ba', L', own2, ts ++ [t], hok3.push HSO.out hbase hgb3 hgrow, scan_emp hscan hemp, fun _ => rfl, ho3.push hgb3 hgrow, hf, hga3.other hgb3 (fun k hk hk2 => hap3 k hk2 hk) hgrow, hgb3.push (fun k hk => (hlt3 k hk).2) hrow rfl hat,
            (fun k hk hk2 => by
              rcases hat with h1 | h1
              · rw [h1] at hk2; exact hap3 k hk hk2
              · rw [h1] at hk2
                have := (World.ownsRow.lt hga3.1 k hk).2
                simp at hk2
                omega), hr', by simp; omega⟩))
        clear hok hscan hemp ho hf hga1 hgb1 hap hr' hby hins hcap hlt2 hok3 ho3 hga3 hgb3 hby3 hap3 hcell hlt3 hb3 hown' hgrow hat HA HT HR HB hbase
        go_wp2_with fail
        refine HT3.out.mono ?_
        rintro e w4 ⟨rfl, rfl⟩
        go_wp2_with (first
          | (at_builtin; refine wpList_append_own_at _ rfl _ _ 24 rfl w1.heap.size 9 i0 (.string ⟨#[]⟩) 1 16 (by kernel_rfl) hi hz0 hz1 hz2 rfl (by decide) _ _ _ rfl (HR3.out.alloc _) ⟨w3.heap.size, 0, none⟩ 1 1 [sv t] rfl rfl ?d1 ?d2 ?d3 ?d4 ?d5 ?_)
          | go_in)
        case d1 => exact cell_one_new _ _ _
        case d2 => intro u hu; simp at hu; subst hu; rfl
        case d3 => have := HN.out; unfold maxLen; omega
        case d4 => have := HN.out; omega
        case d5 => have := HB3.out; simp; omega
        · intro vb' w4 hown' hgrow _ hat
          have HI := Lib.hid (HA3.out vb' w4 hown' hgrow (by simpa using hat))
          clear hown' hgrow hat
          go_wp2_with fail
          go_roundg m
          case rel => exact HI.out
          case measure => omega
end
end Go.Proofs.YtkghgjihaepnfaaDoor
