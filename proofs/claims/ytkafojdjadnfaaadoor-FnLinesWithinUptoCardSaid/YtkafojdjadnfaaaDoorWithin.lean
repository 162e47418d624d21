/-
  impl.LinesWithin: the lines stand in the buffer that is given.
-/
import Derived.Test.YtkafojdjadnfaaaDoorBuf
import Derived.Test.YtkafojdjadnfaaaDoorDrain
import Derived.LaidEqlPtr
namespace Go.Proofs.YtkafojdjadnfaaaDoor
set_option linter.unusedVariables false
set_option linter.unusedSimpArgs false
set_option maxRecDepth 20000
open Go.RowKit

theorem bytes_anyW (B : Nat) (w : World) (p : Addr) (n c : Nat) (hc : w.cell? ⟨B, 3, none⟩ = some (.slice (some p) n c)) :
    Calls Tryd.prog 42 #[.pointer (some ⟨B, 0, none⟩)] w fun e w' => e = .returned (.slice (some p) n c) ∧ w = w' := by
  go_enter Tryd.func42, Tryd.ntmps42
  go_wp2
  go_ret
  exact ⟨rfl, rfl⟩

/-- two rows apart -/
def ApartW (va vb : Value) : Prop := ∀ k, va.ownBlock = some k → vb.ownBlock ≠ some k
/-- a row stays where another one grows -/
theorem RowG.other {base : Nat} {own : List Nat} {w w1 : World} {va vb : Value} {e : TypeId} {n : Nat} {xs : List Value} {ob : Obj} (hb : RowG base own w e vb n xs) (hap : ∀ k, va.ownBlock = some k → vb.ownBlock ≠ some k) (hw : (w.alloc ob).grownBy w1 va.ownBlock) : RowG base own w1 e vb n xs := by
  obtain ⟨h1, h2⟩ := hb
  refine ⟨?_, h2⟩
  refine World.ownsRow.kept (World.ownsRow.alloc h1 ob) hw ?_
  cases hvb : vb.ownBlock with
  | none => exact .inl rfl
  | some k => exact .inr fun e => hap k e.symm hvb
theorem Gath.row {base : Nat} {own : List Nat} {w : World} {v : Value} {ts : List (List UInt8)} (h : Gath base own w v ts) : RowG base own w 9 v ts.length (ts.map sv) := h
theorem Gath.of {base : Nat} {own : List Nat} {w : World} {v : Value} {ts : List (List UInt8)} (h : RowG base own w 9 v ts.length (ts.map sv)) : Gath base own w v ts := h

/-- where a token begins in the buffer -/
theorem tok_off {cf : Cfg} {x : Sm Unit} {tokv : Value} {D N : Nat} {own : List Nat} {w : World} {p : Addr} {t : List UInt8} (h : SOk cf noMem x tokv true (some ⟨D, 0, none⟩) N own w) (hb : Bytes8 w (some p) t) (ht : t ≠ []) (hp : p.block = D) : ∃ o, p = ⟨D, o, none⟩ ∧ o < N := by
  obtain ⟨s, e, bytes, pa, pcs, pc, pl, bl, osp, h, rfl⟩ := h
  obtain ⟨b, o, e1⟩ := hb.form ht
  obtain rfl := Option.some.inj e1
  simp only at hp
  subst hp
  refine ⟨o, rfl, ?_⟩
  rcases h.r.hb with ⟨h1, _⟩ | ⟨D', h1, h2, h3⟩
  · cases h1
  · simp only [Option.some.injEq, Addr.mk.injEq, and_true] at h1
    subst h1
    have h4 := hb.at 0 (List.length_pos_iff.2 ht)
    rw [Nat.add_zero, cell_of_heap h3] at h4
    have h5 := (Array.getElem?_eq_some_iff.1 h4).1
    simp at h5
    have := h.r.hlen
    omega

theorem eql_byte (w : World) (D q o : Nat) {ca : Array Value} {ta : TypeId} (h : w.heap[D]? = some (.cells ca ta)) : (binOp .eql 60 (.pointer (some ⟨D, q, none⟩)) (.pointer (some ⟨D, o, none⟩))).run Tryd.prog w = .ok (.bool (decide (q = o))) w := by
  obtain ⟨i, hi, hz⟩ := Option.map_eq_some_iff.1 info_u8_all
  simp only [Prod.mk.injEq] at hz
  obtain ⟨-, hsz, -⟩ := hz
  by_cases hq : q = o
  · subst hq
    rw [run_eql_ptr_same w _ Tryd.underlying60 hi]; simp
  · rw [run_eql_ptr_other w Tryd.underlying60 hi (by rw [hsz]; decide) (by simp [hq]) h h]; simp [hq]
theorem tok_blk {cf : Cfg} {x : Sm Unit} {tokv : Value} {D N : Nat} {own : List Nat} {w : World} (h : SOk cf noMem x tokv true (some ⟨D, 0, none⟩) N own w) : ∃ ca ta, w.heap[D]? = some (.cells ca ta) := by
  obtain ⟨s, e, bytes, pa, pcs, pc, pl, bl, osp, h, rfl⟩ := h
  rcases h.r.hb with ⟨h1, _⟩ | ⟨D', h1, h2, h3⟩
  · cases h1
  · simp only [Option.some.injEq, Addr.mk.injEq, and_true] at h1
    subst h1
    exact ⟨_, _, h3⟩

/-- the loop's invariant -/
def WithinI (cf : Cfg) (P : List (List UInt8) → Sm Unit → Prop) (D N : Nat) (own0 : List Nat) (w0 : World) (n : Nat) (va vb : Value) (w : World) : Prop :=
  ∃ (x : Sm Unit) (tokv : Value) (called : Bool) (own : List Nat) (ts : List (List UInt8)), SOk cf noMem x tokv called (some ⟨D, 0, none⟩) N own w ∧ x.emp ≤ 100 ∧ (x.done = true → called = true) ∧ Off own0 w0 w ∧ Fresh own0 own w0 ∧ Gath w0.heap.size own w va ts ∧ RowG w0.heap.size own w 4 vb ts.length (List.replicate ts.length (.bool true)) ∧ ApartW va vb ∧ Runs splitLines cf.lim cf.tog cf.endE P n x ts ∧ (ts.length + n) * 16 ≤ 140737488355328

/-- a slice of so many trues that the call made -/
def TruesAt (base : Nat) (w : World) (v : Value) (n : Nat) : Prop := w.ownsRow base 4 1 v n (List.replicate n (.bool true))
/-- what LinesWithin gives -/
def WithinPost (xs : List (List UInt8)) (w : World) (e : Ending) (w' : World) : Prop := ∃ va vb, e = .returned (.tuple #[va, vb]) ∧ StrsAt w.heap.size w' va xs ∧ TruesAt w.heap.size w' vb xs.length ∧ Below w.heap.size w w'

section
variable {base : Nat} {w : World} {E : Nat → Addr} {s : ByteArray}
/-- the start -/
theorem within_start {cf : Cfg} {x : Sm Unit} {tokv : Value} {ba : Option Addr} {L : Nat} {bytes : List UInt8} {pa : Option Addr} {pcs : List Int} {pc : Nat} {bl : List Nat} {w1 : World} (hs : SplitOK cf noMem splitLines true) (h : SInv cf noMem x tokv false ba L 0 0 bytes pa pcs pc [] bl [] w1) (hx : x.pend = []) (hemp : x.emp ≤ 100) (hd : x.done = false) (N : Nat) (m : Int) (hN : max N m.toNat ≤ 4194304) {P : List (List UInt8) → Sm Unit → Prop} {n : Nat} (hr : Runs splitLines (max N m.toNat) cf.tog cf.endE P n x []) (hn : n * 16 ≤ 140737488355328) :
    WithinI { cf with max := m, lim := max N m.toNat } P (w1.heap.size + 1 + 1) N (ownOf cf [] bl []) w1 n (.slice (some ⟨w1.heap.size, 0, none⟩) 0 0) (.slice (some ⟨w1.heap.size + 1, 0, none⟩) 0 0) (bufW ((w1.alloc (.cells #[] 9)).alloc (.cells #[] 4)) cf.B N m) := by
  have hbase := h.r.sizes
  have hlts := h.r.hlt
  have hbA : Below cf.base w1 ((w1.alloc (.cells #[] 9)).alloc (.cells #[] 4)) := ((Below.refl _ _).alloc hbase _).alloc (by simp; omega) _
  have hkA : ∀ k, k < w1.heap.size → ((w1.alloc (.cells #[] 9)).alloc (.cells #[] 4)).heap[k]? = w1.heap[k]? := fun k hk => (Below.heap_alloc _ _ _ (by simp; omega)).trans (Below.heap_alloc _ _ _ hk)
  have hIA : SInv cf noMem x tokv false ba L 0 0 bytes pa pcs pc [] bl [] ((w1.alloc (.cells #[] 9)).alloc (.cells #[] 4)) := ⟨(hkA _ (hlts cf.B (by simp)).2).trans h.hB, h.r.frame hs hbA fun k hk => hkA k (hlts k (List.mem_cons_of_mem _ hk)).2⟩
  have hIL := hIA.buffer hx N m hN
  have hsz : ((w1.alloc (.cells #[] 9)).alloc (.cells #[] 4)).heap.size = w1.heap.size + 2 := by simp
  have hOff : Off (ownOf cf [] bl []) ((w1.alloc (.cells #[] 9)).alloc (.cells #[] 4)) (bufW ((w1.alloc (.cells #[] 9)).alloc (.cells #[] 4)) cf.B N m) := (((Off.refl _ _).alloc _).setCell (p := ⟨cf.B, 4, none⟩) (by simp [ownOf]) _).setCell (p := ⟨cf.B, 2, none⟩) (by simp [ownOf]) _
  have hFr : ∀ w0 : World, w0.heap.size ≤ w1.heap.size + 2 → Fresh (ownOf cf [] bl []) (ownOf { cf with max := m, lim := max N m.toNat } [] [w1.heap.size + 2] []) w0 := fun w0 hw0 k hk => by
    simp only [ownOf, List.mem_cons, List.append_nil, List.nil_append, List.not_mem_nil, or_false] at hk ⊢
    rcases hk with h1 | h1 | h1
    · exact .inl (.inl h1)
    · exact .inl (.inr (.inl h1))
    · exact .inr (by omega)
  have hnotIn : ∀ k, k = w1.heap.size ∨ k = w1.heap.size + 1 → k ∉ ownOf cf [] bl [] := fun k hk hm => by
    have := (hlts k hm).2
    omega
  have hGA : RowG w1.heap.size (ownOf cf [] bl []) ((w1.alloc (.cells #[] 9)).alloc (.cells #[] 4)) 9 (.slice (some ⟨w1.heap.size, 0, none⟩) 0 0) 0 [] :=
    ⟨World.ownsRow.alloc (World.ownsRow_made _ _ _ (Nat.le_refl _) (by decide) rfl) _, fun k hk => hnotIn k (by simp [Value.ownBlock] at hk; omega)⟩
  have hGB : RowG w1.heap.size (ownOf cf [] bl []) ((w1.alloc (.cells #[] 9)).alloc (.cells #[] 4)) 4 (.slice (some ⟨w1.heap.size + 1, 0, none⟩) 0 0) 0 [] :=
    ⟨by have := World.ownsRow_made (base := w1.heap.size) (e := 4) (size := 1) (w1.alloc (.cells #[] 9)) #[] 0 (by simp) (by decide) rfl
        simpa using this, fun k hk => hnotIn k (by simp [Value.ownBlock] at hk; omega)⟩
  rw [hsz] at hIL
  refine ⟨x, tokv, false, _, [], ⟨0, 0, _, pa, pcs, pc, [], _, [], hIL, rfl⟩, hemp, by rw [hd]; simp, ?_, hFr w1 (by omega), hGA.scan hOff (hFr _ (by simp)), hGB.scan hOff (hFr _ (by simp)), ?_, hr, by simpa using hn⟩
  · exact (((Off.refl _ _).alloc _).alloc _).trans hOff (Fresh.refl _ _)
  · intro k hk
    simp [Value.ownBlock] at hk ⊢
    omega

theorem make_len (w : World) (N : Nat) (h : N ≤ 4194304) : (Instr.makeSlice 57 (.int .i64 (N : Int)) (.int .i64 (N : Int))).run Tryd.prog w = .ok (.slice (some ⟨w.heap.size, 0, none⟩) N N) (w.alloc (.cells (madeCells #[.int .u8 0] N) 5)) := by
  obtain ⟨i, hi, hz⟩ := Option.map_eq_some_iff.1 info_u8_all
  simp only [Prod.mk.injEq] at hz
  obtain ⟨hz, hsz, hby⟩ := hz
  have := run_make (P := Tryd.prog) w 57 5 i (.int .u8 0) Tryd.underlying57 hi hz .i64 .i64 (N : Int) (N : Int) (by omega) (by omega) (by rw [hby]; omega) (by omega)
  rw [this, hsz]
  simp [Value.cells]

set_option maxRecDepth 100000 in
set_option maxHeartbeats 2000000 in
theorem linesWithin_any (N : Nat) (m : Int) (hE : Env base w E) (hs : s.size ≤ 4194304) (hN : N ≤ 10000) (hm : m ≤ (N : Int)) (hlim : 0 < N) (hr : Roomy N s.data.toList) :
    Calls Tryd.prog 19 #[.string s, .int .i64 (N : Int), .int .i64 m] w (WithinPost (tokens s.data.toList) w) := by
  obtain ⟨i0, hi, hz0, hz1, hz2⟩ := info_parts info_str
  obtain ⟨j0, hj, hy0, hy1, hy2⟩ := info_parts info_bool
  have HS := Lib.hid (scanner_any0 (s := s) (pa := none) (pcs := []) (pc := 0) (pl := []) (tog := false) (c := 0) (m := 0) true false hE (PcsAt.none base w) (by omega) rfl)
  have hmx : max N m.toNat = N := by omega
  have hR := lines_all (lim := N) false 0 s hlim hr
  rw [← hmx] at hR
  have HR := Lib.hid hR
  have hmax : max 0 (N : Int) = (N : Int) := by omega
  have HM : ∀ w, (Instr.makeSlice 57 (.int .i64 (max 0 (N : Int))) (.int .i64 (max 0 (N : Int)))).run Tryd.prog w = .ok (.slice (some ⟨w.heap.size, 0, none⟩) N N) (w.alloc (.cells (madeCells #[.int .u8 0] N) 5)) := fun w => by rw [hmax]; exact make_len w N (by omega)
  have HM2 := fun w => make_len w N (by omega)
  clear hE hr hR
  go_enter Tryd.func19, Tryd.ntmps19
  go_wp2_with fail
  refine HS.out.mono ?_
  rintro e w1 ⟨ba, L, bytes, bl, rfl, hI, hb, hown⟩
  have hso : SplitOK (newCf E base w.heap.size false false true 0 0) noMem splitLines true := lines_ok _ rfl rfl rfl
  have hST := within_start hso hI rfl (by simp) rfl N m (by omega) (P := EndsL 0 s.data.toList) HR.out (by omega)
  have hlt := (hI.r.hlt (w.heap.size + 4) (by simp)).2
  have hbase : base ≤ w1.heap.size := hI.r.sizes
  have hBA : ((w1.alloc (.cells #[] 9)).alloc (.cells #[] 4)).heap[w.heap.size + 4]? = w1.heap[w.heap.size + 4]? := (Below.heap_alloc _ _ _ (by simp; omega)).trans (Below.heap_alloc _ _ _ hlt)
  have hBB : (((w1.alloc (.cells #[] 9)).alloc (.cells #[] 4)).alloc (.cells (madeCells #[.int .u8 0] N) 5)).heap[w.heap.size + 4]? = w1.heap[w.heap.size + 4]? := (Below.heap_alloc _ _ _ (by simp; omega)).trans hBA
  have hBc := hBB.trans hI.hB
  have HBuf := Lib.hid (buffer_any (w.heap.size + 4) 0 N (some ⟨w1.heap.size + 1 + 1, 0, none⟩) m _ (cell_of_heap hBc) (frozen_of_heap hBc) ⟨_, cell_of_heap hBc⟩ ⟨_, cell_of_heap hBc⟩ (by omega) (by omega))
  have HT := Lib.hid hST
  have HB := Lib.hid hb
  have HO := Lib.hid hown
  clear hI hb hown HS HR hBA hBB hBc hST
  have HP : ∀ (va vb : Value) (x : Sm Unit) (own' : List Nat) (ts : List (List UInt8)) (w2 : World), EndsL 0 s.data.toList ts x → Off (ownOf (newCf E base w.heap.size false false true 0 0) [] bl []) w1 w2 → Gath w1.heap.size own' w2 va ts → RowG w1.heap.size own' w2 4 vb ts.length (List.replicate ts.length (.bool true)) → WithinPost (tokens s.data.toList) w (.returned (.tuple #[va, vb])) w2 := by
    rintro va vb x own' ts w2 ⟨rfl, -⟩ ho hg hg2
    refine ⟨va, vb, rfl, hg.1.mono HB.out.size, ?_, off_nil (off_new HB.out HO.out ho)⟩
    obtain ⟨h1, h2⟩ := hg2.1
    refine ⟨h1, ?_⟩
    rcases h2 with h2 | ⟨g, cap, cur, e, h3, r⟩
    · exact .inl h2
    · exact .inr ⟨g, cap, cur, e, Nat.le_trans HB.out.size h3, r⟩
  have HP := Lib.hid HP
  have HSO := Lib.hid (lines_ok { newCf E base w.heap.size false false true 0 0 with max := m, lim := max N m.toNat } rfl rfl rfl)
  clear HB HO hso
  generalize WithinPost (tokens s.data.toList) w = PP at *
  generalize EndsL 0 s.data.toList = EE at *
  generalize ownOf (newCf E base w.heap.size false false true 0 0) [] bl [] = own at *
  have ecB : (newCf E base w.heap.size false false true 0 0).B = w.heap.size + 4 := rfl
  have hszA : ((w1.alloc (.cells #[] 9)).alloc (.cells #[] 4)).heap.size = w1.heap.size + 1 + 1 := by simp
  rw [ecB] at HT
  unfold bufW at HT
  rw [hszA] at HT
  generalize hcf : ({ newCf E base w.heap.size false false true 0 0 with max := m, lim := max N m.toNat } : Cfg) = cf at *
  have hcB : cf.B = w.heap.size + 4 := by rw [← hcf]
  have hcb : cf.base = base := by rw [← hcf]
  have hcm : cf.max ≤ (N : Int) := by rw [← hcf]; exact hm
  rw [← hcb] at hbase
  have HCB := Lib.hid hcB
  have HCM := Lib.hid hcm
  clear hcf hcb hcB ecB hcm
  clear hszA
  go_wp2_with fail
  refine HBuf.out.mono ?_
  rintro e w2 ⟨rfl, rfl⟩
  clear HBuf
  generalize hD : w1.heap.size + 1 + 1 = D at *
  generalize (((w1.alloc (.cells #[] 9)).alloc (.cells #[] 4)).alloc (.cells (madeCells #[.int .u8 0] N) 5)).setCell ⟨w.heap.size + 4, 4, none⟩ (.slice (some ⟨D, 0, none⟩) N N) = wX at *
  generalize wX.setCell ⟨w.heap.size + 4, 2, none⟩ (.int .i64 m) = wL at *
  clear hD HM HM2
  go_wp2_with fail
  go_loopg [9, 10] s.size (fun k va vb wr => WithinI cf EE D N own w1 k va vb wr)
  case atStart => exact HT.out
  case round =>
    obtain ⟨x, tokv, called, own1, ts, h, hemp, hdc, ho, hf, hga, hgb, hap, hr, hcap⟩ := hrel
    have hC := scan_any HSO.out own1 h hemp hdc
    rw [HCB.out] at hC
    have HC := Lib.hid hC
    have HH := Lib.hid (And.intro hemp (And.intro ho (And.intro hf (And.intro hga (And.intro hgb (And.intro hap (And.intro hr hcap)))))))
    clear h hemp hdc ho hf hga hgb hap hr hcap HT hC
    go_wp2_with fail
    refine HC.out.mono ?_
    rintro en w2 ⟨o, x', tokv', ba', L', own2, hscan, hok, ho1, hf1, hret, hpan⟩
    obtain ⟨hemp, ho, hf, hga, hgb, hap, hr, hcap⟩ := HH.out
    clear HC HH hpan
    rcases hr.step hscan with ⟨rfl, hP⟩ | ⟨t, k, rfl, rfl, hr'⟩
    · obtain ⟨rfl, -, -⟩ := hret _ rfl
      have HQ := Lib.hid (HP.out _ _ _ own2 ts w2 hP (ho.trans ho1 hf) (hga.scan ho1 hf1) (hgb.scan ho1 hf1))
      clear hret hscan hok ho1 hf1 hr hcap hga hgb hap ho hf hemp hP hbase HP
      go_wp2_with fail
      exact HQ.out
    · obtain ⟨rfl, ⟨p, c', rfl, hc1, hc2, hby, -, hins⟩, hkeep⟩ := hret _ rfl
      obtain ⟨rfl, rfl⟩ := hkeep HCM.out
      have hga1 := hga.scan ho1 hf1
      have hgb1 := hgb.scan ho1 hf1
      have hcell := hok.tok
      rw [HCB.out] at hcell
      have HTk := Lib.hid (bytes_anyW _ w2 p t.length c' hcell)
      have hoff : t ≠ [] → ∃ o, p = ⟨D, o, none⟩ ∧ o < L' := fun ht => by
        obtain ⟨D', e1, e2⟩ := hins rfl ht
        simp only [Option.some.injEq, Addr.mk.injEq, and_true] at e1
        exact tok_off hok hby ht (by rw [e2, e1])
      have HOf := Lib.hid hoff
      obtain ⟨ca, ta, hD⟩ := tok_blk hok
      have HEQ : ∀ q o n, (binOp .eql 60 (.pointer (some ⟨D, q, none⟩)) (.pointer (some ⟨D, o, none⟩))).run Tryd.prog (w2.drewN n) = .ok (.bool (decide (q = o))) (w2.drewN n) := fun q o n => eql_byte (w2.drewN n) D q o hD
      clear hD
      have hsz := ho.size
      have hsz1 := ho1.size
      have HNn := Lib.hid (show ts.length + 1 ≤ 8796093022208 by omega)
      have hX : ∀ n, (convert 57 9 (.slice (some p) t.length c')).run Tryd.prog (w2.drewN n) = .ok (sv t) (w2.drewN n) ∧ StrsAt w1.heap.size (w2.drewN n) u9 ts ∧ w1.heap.size ≤ (w2.drewN n).heap.size ∧ SOk cf noMem x' (.slice (some p) t.length c') true (some ⟨D, 0, none⟩) L' own2 (w2.drewN n) ∧ Sm.Scan splitLines cf.lim cf.tog cf.endE x (some (some t)) x' ∧ x.emp ≤ 100 ∧ Off own w1 (w2.drewN n) ∧ Fresh own own2 w1 ∧ Gath w1.heap.size own2 (w2.drewN n) u9 ts ∧ RowG w1.heap.size own2 (w2.drewN n) 4 u10 ts.length (List.replicate ts.length (.bool true)) ∧ ApartW u9 u10 ∧ Runs splitLines cf.lim cf.tog cf.endE EE k x' (ts ++ [t]) ∧ (ts.length + (k + 1)) * 16 ≤ 140737488355328 := fun n =>
        ⟨conv_text (w2.drewN n) p c' t (hby.drewN n), hga1.1, (by show w1.heap.size ≤ w2.heap.size; omega), hok.frame HSO.out (below_drewN (Below.refl _ _) n) (fun _ _ => rfl), hscan, hemp, (ho.trans ho1 hf).drewN n, hf.trans hf1 hsz, hga1, hgb1, hap, hr', hcap⟩
      have HX := Lib.hid hX
      clear hret hscan hok ho1 hf1 hr hr' hcap hga hga1 hgb hgb1 hap ho hf hemp hsz hsz1 hby hcell HP hins hkeep hoff hX
      go_wp2_with fail
      refine HTk.out.mono ?_
      rintro e w3 ⟨rfl, rfl⟩
      clear HTk
      obtain ⟨o, hpo⟩ : ∃ o, t ≠ [] → p = ⟨D, o, none⟩ ∧ o < L' := by
        by_cases ht : t = []
        · exact ⟨0, fun h => absurd ht h⟩
        · obtain ⟨o, h1⟩ := HOf.out ht
          exact ⟨o, fun _ => h1⟩
      have HPO := Lib.hid hpo
      obtain ⟨f, hf⟩ : ∃ f : Nat → Bool, ∀ q, f q = (decide (t.length = 0) || decide (o < q)) := ⟨_, fun _ => rfl⟩
      have HF := Lib.hid hf
      have hf0 : ((t.length : Int) == 0) = f 0 := by
        rw [hf]
        by_cases h : t.length = 0
        · simp [h]
        · simp [h]
      clear hpo hf HOf
      go_wp2_with fail
      go_loopw [13, 38] (fun mt i wr => (∃ nn, wr = w2.drewN nn) ∧ ∃ q : Nat, q ≤ L' ∧ i = .int .i64 q ∧ mt = .bool (f q)) (fun _ i _ => L' - (intOf i).toNat)
      case atStart => exact ⟨⟨0, rfl⟩, 0, Nat.zero_le _, rfl, rfl⟩
      case round =>
        obtain ⟨⟨nn, rfl⟩, q, hq, rfl, rfl⟩ := hrel
        by_cases hlt : q < L'
        · cases hfq : f q with
          | true =>
            have hfn : f (q + 1) = true := by
              rw [HF.out] at hfq ⊢
              simp only [Bool.or_eq_true, decide_eq_true_eq] at hfq ⊢
              omega
            try rw [hfq]
            clear hfq
            go_wp2_with fail
            go_quiet (fail)
            go_wp2_with fail
            go_roundw
            case rel => exact ⟨⟨nn + _, rfl⟩, q + 1, by omega, by go_num, by rw [hfn]⟩
            case measure => simp [intOf]; omega
          | false =>
            have hq1 : t.length ≠ 0 ∧ q ≤ o := by
              rw [HF.out] at hfq
              simp only [Bool.or_eq_false_iff, decide_eq_false_iff_not] at hfq
              omega
            obtain ⟨rfl, hoL⟩ := HPO.out (fun e => hq1.1 (by rw [e]; rfl))
            have hfn : f (q + 1) = decide (q = o) := by
              rw [HF.out]
              have h1 : decide (t.length = 0) = false := decide_eq_false hq1.1
              rw [h1, Bool.false_or]
              by_cases h : q = o
              · rw [decide_eq_true (by omega), decide_eq_true h]
              · rw [decide_eq_false (by omega), decide_eq_false h]
            have htp : 0 < t.length := by omega
            try rw [hfq]
            clear hfq
            go_wp2_with fail
            go_quiet (fail)
            go_wp2_with fail
            go_roundw
            case rel => exact ⟨⟨_, rfl⟩, q + 1, by omega, by go_num, by rw [hfn]⟩
            case measure => simp [intOf]; omega
        · obtain rfl : q = L' := by omega
          have hft : f q = true := by
            rw [HF.out]
            by_cases h : t.length = 0
            · simp [h]
            · have := (HPO.out (fun e => h (by rw [e]; rfl))).2
              simp [this]
          rw [hft]
          obtain ⟨hV, hRa, hB, hAll⟩ := HX.out nn
          have HV := Lib.hid hV
          have HRa := Lib.hid hRa
          have HB := Lib.hid hB
          have HA := Lib.hid hAll
          clear HPO HF hf0 hft hV hRa hB hAll HX
          generalize w2.drewN nn = w2 at *
          go_wp2_with fail
          rw [HV.out]
          simp only [Result.andThen]
          rw [Oper.upon_value]
          go_wp2_with (first
            | (at_builtin; refine wpList_append_own_at _ rfl _ _ 25 rfl w1.heap.size 9 i0 (.string ⟨#[]⟩) 1 16 (by kernel_rfl) hi hz0 hz1 hz2 rfl (by decide) _ _ _ rfl (HRa.out.alloc _) ⟨w2.heap.size, 0, none⟩ 1 1 [sv t] rfl rfl ?c1 ?c2 ?c3 ?c4 ?c5 ?_)
            | go_in)
          case c1 => exact cell_one_new _ _ _
          case c2 => intro u hu; simp at hu; subst hu; rfl
          case c3 => have := HNn.out; unfold maxLen; omega
          case c4 => have := HNn.out; omega
          case c5 => have := HB.out; simp; omega
          · intro va' w3 hown' hgrow _ hat
            obtain ⟨hok, hscan, hemp, ho, hf, hga1, hgb1, hap, hr', hcap⟩ := HA.out
            have hlt2 := hok.lt
            have hok3 := hok.push HSO.out hbase hga1 hgrow
            have ho3 := ho.push hga1 hgrow
            have hga3 := hga1.push (t := t) (ob := .cells #[sv t] 9) (fun k hk => (hlt2 k hk).2) hown' rfl (by simpa using hat)
            have hgb3 := RowG.other hgb1 hap hgrow
            have hap3 : ApartW va' u10 := by
              intro k hk hk2
              rcases hat with h1 | h1
              · rw [h1] at hk; exact hap k hk hk2
              · rw [h1] at hk
                have := (World.ownsRow.lt hgb1.1 k hk2).2
                simp at hk
                omega
            have hlt3 := hok3.lt
            have hb3 : w1.heap.size ≤ w3.heap.size := ho3.size
            have HR3 := Lib.hid hgb3.1
            have HB3 := Lib.hid hb3
            have HA3 := Lib.hid (fun (vb' : Value) (w4 : World) (hrow : w4.ownsRow w1.heap.size 4 1 vb' (ts.length + 1) (List.replicate ts.length (.bool true) ++ [.bool true])) (hgrow : (w3.alloc (.cells #[.bool true] 4)).grownBy w4 u10.ownBlock) (hat : vb'.ownBlock = u10.ownBlock ∨ vb'.ownBlock = some (w3.alloc (.cells #[.bool true] 4)).heap.size) =>
              (show WithinI cf EE D q own w1 k va' vb' w4 from ⟨x', _, true, own2, ts ++ [t], hok3.grow HSO.out hgrow (fun j hj => ⟨Nat.le_trans hbase (World.ownsRow.lt hgb3.1 j hj).1, hgb3.2 j hj⟩), scan_emp hscan hemp, fun _ => rfl, ho3.grow hgrow (fun j hj => (World.ownsRow.lt hgb3.1 j hj).1), hf,
                Gath.of (RowG.other hga3.row (fun k hk hk2 => hap3 k hk2 hk) hgrow), hgb3.push (fun j hj => (hlt3 j hj).2) (by rw [List.length_append, List.length_singleton, List.replicate_succ']; exact hrow) hat,
                (fun k hk hk2 => by
                  rcases hat with h1 | h1
                  · rw [h1] at hk2; exact hap3 k hk hk2
                  · rw [h1] at hk2
                    have := (World.ownsRow.lt hga3.1 k hk).2
                    simp at hk2
                    omega), hr', by simp; omega⟩))
            clear hok hscan hemp ho hf hga1 hgb1 hap hr' hcap hlt2 hok3 ho3 hga3 hgb3 hap3 hlt3 hb3 hown' hgrow hat HA HRa HB hbase
            go_wp2_with (first
              | (at_builtin; refine wpList_append_own_at _ rfl _ _ 30 rfl w1.heap.size 4 j0 (.bool false) 1 1 (by kernel_rfl) hj hy0 hy1 hy2 rfl (by decide) _ _ _ rfl (HR3.out.alloc _) ⟨w3.heap.size, 0, none⟩ 1 1 [.bool true] rfl rfl ?d1 ?d2 ?d3 ?d4 ?d5 ?_)
              | go_in)
            case d1 => exact cell_one_new _ _ _
            case d2 => intro u hu; simp at hu; subst hu; rfl
            case d3 => have := HNn.out; unfold maxLen; omega
            case d4 => have := HNn.out; omega
            case d5 => have := HB3.out; simp; omega
            · intro vb' w4 hown' hgrow _ hat
              have HI := Lib.hid (HA3.out vb' w4 hown' hgrow (by simpa using hat))
              clear hown' hgrow hat
              go_wp2_with fail
              go_roundg k
              case rel => exact HI.out
              case measure => omega
end
end Go.Proofs.YtkafojdjadnfaaaDoor
