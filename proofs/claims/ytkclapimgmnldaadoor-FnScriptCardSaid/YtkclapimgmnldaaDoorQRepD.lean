/-
  What the walk of laws.replay leans on.
-/
import Derived.Test.YtkclapimgmnldaaDoorQRepW
import Derived.Test.YtkclapimgmnldaaDoorQToScr
import Derived.Test.YtkclapimgmnldaaDoorQEmpt
import Derived.Test.YtkclapimgmnldaaDoorQO
namespace Go.Proofs.YtkclapimgmnldaaDoor
set_option linter.unusedVariables false
set_option linter.unusedSimpArgs false
set_option maxRecDepth 20000
open Go.RowKit

/-- a slice that reads as these calls -/
structure CallsC (w : World) (ca : Option Addr) (cl : List (List UInt8 × Bool)) (cc : Nat) : Prop where
  le : cl.length ≤ cc
  cap : cc ≤ 9223372036854775807
  cells : ∀ k c, cl[k]? = some c → ∃ g, ca = some ⟨g, 0, none⟩ ∧ g < w.heap.size ∧ w.cell? ⟨g, k * 2, none⟩ = some (sv c.1) ∧ w.cell? ⟨g, k * 2 + 1, none⟩ = some (.bool c.2)
theorem CallsC.of {base : Nat} {w : World} {ca : Option Addr} {cn cc : Nat} {cl : List (List UInt8 × Bool)} (h : w.ownsRow base 47 2 (.slice ca cn cc) cl.length (cl.flatMap callV)) : cn = cl.length ∧ CallsC w ca cl cc := by
  have h' := h
  obtain ⟨h1, h2⟩ := h
  rcases h2 with ⟨h2, h3⟩ | ⟨g, cap, cur, e, h3, h4, h5, h6, h7, h8⟩
  · have : cl = [] := List.length_eq_zero_iff.1 h3
    subst this
    simp only [Value.slice.injEq] at h2
    obtain ⟨rfl, rfl, rfl⟩ := h2
    exact ⟨rfl, Nat.le_refl _, by omega, fun k c hk => by simp at hk⟩
  · simp only [Value.slice.injEq] at e
    obtain ⟨rfl, rfl, rfl⟩ := e
    refine ⟨rfl, h5, by unfold maxLen at h6; omega, fun k c hk => ⟨g, rfl, lt_of_heap h4, ?_, ?_⟩⟩
    · have h9 := World.ownsRow.cells h' rfl (k * 2) (sv c.1) (by have := flat_7 (f := callV) (m := 2) (fun _ => rfl) cl k c hk 0 (by omega); rw [Nat.add_zero] at this; rw [this]; rfl)
      have hplain : (⟨g, 0, none⟩ : Addr).add (k * 2) = ⟨g, 0 + k * 2, none⟩ := by unfold Addr.add; split <;> simp_all
      rw [hplain, Nat.zero_add] at h9
      exact h9
    · have h9 := World.ownsRow.cells h' rfl (k * 2 + 1) (.bool c.2) (by rw [flat_7 (f := callV) (m := 2) (fun _ => rfl) cl k c hk 1 (by omega)]; rfl)
      have hplain : (⟨g, 0, none⟩ : Addr).add (k * 2 + 1) = ⟨g, 0 + (k * 2 + 1), none⟩ := by unfold Addr.add; split <;> simp_all
      rw [hplain, Nat.zero_add] at h9
      exact h9

theorem tpos_le {rs : List Rep} {rep : Bool} {p : Nat} (h : p ≤ rs.length) : tpos rs rep p ≤ rs.length := by unfold tpos; split <;> omega
/-- the tokens only grow -/
theorem track_grow {rs : List Rep} {rep : Bool} : ∀ (cs : List (List UInt8 × Bool)) (rest : List UInt8) (p : Nat) (tk : List (List UInt8)) (res : List (List UInt8) × Nat × Bool), Track rs rep rest p tk cs res → tk.length ≤ res.1.length := by
  intro cs
  induction cs with
  | nil => intro rest p tk res h; rw [h]; exact Nat.le_refl _
  | cons c cs ih =>
    intro rest p tk res h
    obtain ⟨_, ⟨tk', e, h1, _, h3⟩ | ⟨rest', p', tk', h1, h2⟩⟩ := h
    · rw [h3]
      unfold rstep at h1
      split at h1
      · cases h1; exact Nat.le_refl _
      · split at h1
        · cases h1; exact Nat.le_refl _
        · split at h1
          · cases h1; simp
          · split at h1
            · cases h1; exact Nat.le_refl _
            · split at h1
              · cases h1; exact Nat.le_refl _
              · split at h1
                · cases h1
                · split at h1
                  · cases h1; exact Nat.le_refl _
                  · cases h1
    · have := ih _ _ _ _ h2
      refine Nat.le_trans ?_ this
      unfold rstep at h1
      split at h1
      · cases h1
      · split at h1
        · cases h1
        · split at h1
          · cases h1
          · split at h1
            · cases h1
            · split at h1
              · cases h1
              · split at h1
                · cases h1; simp
                · split at h1
                  · cases h1
                  · cases h1; exact Nat.le_refl _

/-- what replay gives -/
def RepPost (tk : List (List UInt8)) (e : Nat) (fin : Bool) (w : World) (en : Ending) (w' : World) : Prop :=
  ∃ v, en = .returned (.tuple #[v, .int .i64 (e : Int), .bool fin, .bool true]) ∧ StrsAt w.heap.size w' v tk ∧ Below w.heap.size w w'
theorem rep_ret {PP : Ending → World → Prop} {tmps : Array Value} {w' : World} {a b c d : Value} (h8 : tmps.getD 8 undef = a) (h9 : tmps.getD 9 undef = b) (h10 : tmps.getD 10 undef = c) (h11 : tmps.getD 11 undef = d) (hP : PP (.returned (.tuple #[a, b, c, d])) w') :
    bodyPost Tryd.prog Tryd.f32 PP Exit.ret ⟨tmps, []⟩ w' := by
  have a8 : tmps[8]?.getD undef = a := by simpa using h8
  have a9 : tmps[9]?.getD undef = b := by simpa using h9
  have a10 : tmps[10]?.getD undef = c := by simpa using h10
  have a11 : tmps[11]?.getD undef = d := by simpa using h11
  exact bodyPost_ret (v := .tuple #[a, b, c, d]) (by simp [results, Tryd.results32, go_sem, a8, a9, a10, a11]) rfl hP

/-- the script's box -/
abbrev scrB (w : World) (xp : Option Addr) (xn xc : Nat) (rep : Bool) : World := w.alloc (.cells #[.slice xp xn xc, .bool rep] 67)
theorem bel_scr {w wr : World} {xp : Option Addr} {xn xc : Nat} {rep : Bool} (h : Below (scrB w xp xn xc rep).heap.size (scrB w xp xn xc rep) wr) : Below w.heap.size w wr :=
  (bel_al (Below.refl _ _) _).trans (h.mono (by simp))
theorem scrB_cells {w wr : World} {xp : Option Addr} {xn xc : Nat} {rep : Bool} (h : Below (scrB w xp xn xc rep).heap.size (scrB w xp xn xc rep) wr) : wr.cell? ⟨w.heap.size, 0, none⟩ = some (.slice xp xn xc) ∧ wr.cell? ⟨w.heap.size, 1, none⟩ = some (.bool rep) ∧ w.heap.size < wr.heap.size := by
  have h0 : wr.heap[w.heap.size]? = some (.cells #[.slice xp xn xc, .bool rep] 67 (0, 0)) := (h.block _ (by simp)).trans (heap_new w _)
  exact ⟨cell_of_heap h0, cell_of_heap h0, lt_of_heap h0⟩
theorem scrB_row (w : World) (xp : Option Addr) (xn xc : Nat) (rep : Bool) : StrsAt (scrB w xp xn xc rep).heap.size ((scrB w xp xn xc rep).alloc (.cells #[] 9)) (.slice (some ⟨w.heap.size + 1, 0, none⟩) 0 0) [] := by
  have h := World.ownsRow_made (e := 9) (size := 1) (base := (scrB w xp xn xc rep).heap.size) (scrB w xp xn xc rep) #[] 0 (Nat.le_refl _) (by decide) rfl
  rw [World.size_alloc] at h
  unfold StrsAt
  rw [World.size_alloc]
  exact h
theorem strs_scr {w wr : World} {xp : Option Addr} {xn xc : Nat} {rep : Bool} {v : Value} {xs : List (List UInt8)} (h : Below (scrB w xp xn xc rep).heap.size (scrB w xp xn xc rep) wr) (hs : StrsAt (w.heap.size + 1) wr v xs) : StrsAt (scrB w xp xn xc rep).heap.size wr v xs := by
  rw [World.size_alloc]
  exact hs
theorem strs_quiet {B : Nat} {wr : World} {v : Value} {xs : List (List UInt8)} {o : Obj} {n : Nat} (h : StrsAt B wr v xs) : StrsAt B ((wr.alloc o).drewN n) v xs := World.ownsRow.alloc (w := wr) h o
theorem bel_quiet {W wr : World} {o : Obj} {n : Nat} (h : Below W.heap.size W wr) : Below W.heap.size W ((wr.alloc o).drewN n) := bel_drewR (h.alloc h.size o) n
/-- behind the answer -/
theorem rep_cells {W wr w2 : World} {v : Value} {xs : List (List UInt8)} {db : ByteArray} {eof : Bool} {nq : Nat} {adv : Int} {al : Bool} {a2 a3 a4 : Int} {tx : ByteArray} {er : Int} (hst : StrsAt W.heap.size wr v xs) (hbw : Below W.heap.size W wr)
    (hb : Below (((wr.alloc (.cells #[.string db, .bool eof] 47)).drewN nq).alloc (.cells #[.int .i64 adv, .bool al, .int .i64 a2, .int .i64 a3, .int .i64 a4, .string tx, .int .i64 er] 94)).heap.size (((wr.alloc (.cells #[.string db, .bool eof] 47)).drewN nq).alloc (.cells #[.int .i64 adv, .bool al, .int .i64 a2, .int .i64 a3, .int .i64 a4, .string tx, .int .i64 er] 94)) w2) :
    w2.cell? ⟨wr.heap.size + 1, 0, none⟩ = some (.int .i64 adv) ∧ w2.cell? ⟨wr.heap.size + 1, 1, none⟩ = some (.bool al) ∧ w2.cell? ⟨wr.heap.size + 1, 6, none⟩ = some (.int .i64 er) ∧ w2.cell? ⟨wr.heap.size, 0, none⟩ = some (.string db) ∧ w2.cell? ⟨wr.heap.size, 1, none⟩ = some (.bool eof) ∧ StrsAt W.heap.size w2 v xs ∧ Below W.heap.size W w2 ∧ wr.heap.size + 1 < w2.heap.size := by
  have hs1 : ((wr.alloc (.cells #[.string db, .bool eof] 47)).drewN nq).heap.size = wr.heap.size + 1 := by simp
  have h1 : w2.heap[wr.heap.size + 1]? = some (.cells #[.int .i64 adv, .bool al, .int .i64 a2, .int .i64 a3, .int .i64 a4, .string tx, .int .i64 er] 94 (0, 0)) := by
    rw [hb.block _ (by rw [World.size_alloc, hs1]; omega)]
    have := heap_new ((wr.alloc (.cells #[.string db, .bool eof] 47)).drewN nq) (.cells #[.int .i64 adv, .bool al, .int .i64 a2, .int .i64 a3, .int .i64 a4, .string tx, .int .i64 er] 94)
    rw [hs1] at this
    exact this
  have h0 : w2.heap[wr.heap.size]? = some (.cells #[.string db, .bool eof] 47 (0, 0)) := by
    rw [hb.block _ (by rw [World.size_alloc, hs1]; omega), Below.heap_alloc _ _ _ (by rw [hs1]; omega)]
    exact heap_new wr _
  have hb0 : Below wr.heap.size wr w2 := (bel_al (bel_drewR (bel_al (Below.refl _ _) _) nq) _).trans (hb.mono (by rw [World.size_alloc, hs1]; omega))
  exact ⟨cell_of_heap h1, cell_of_heap h1, cell_of_heap h1, cell_of_heap h0, cell_of_heap h0, StrsAt.below hst hb0, bel_tr hbw hb0, lt_of_heap h1⟩
theorem ext_drop {rb : ByteArray} {a : Nat} (h : a ≤ rb.size) : (rb.extract a rb.size).data.toList = rb.data.toList.drop a := by
  rw [ByteArray.data_extract, Array.toList_extract, List.extract_eq_take_drop]
  apply List.take_of_length_le
  rw [List.length_drop]
  have : rb.data.toList.length = rb.size := by simp
  omega
/- what the law's own step finds -/
section
variable {rs : List Rep} {rep : Bool} {rest d : List UInt8} {p : Nat} {tk0 : List (List UInt8)} {eof : Bool} {r : Rep}
theorem tpos_lt (h : p < rs.length) : tpos rs rep p = p := by unfold tpos; rw [if_neg (by omega)]
theorem tpos_wrap (h : ¬ rs.length = 0) : tpos rs true rs.length = 0 := by unfold tpos; rw [if_pos ⟨rfl, rfl⟩]
theorem advR_all (d : List UInt8) (n : Nat) : True := trivial
theorem rs_none (h : rs[tpos rs rep p]? = none) : rstep rs rep rest p tk0 (d, eof) = .inl (tk0, 0) := by unfold rstep; rw [h]
theorem rs_fail (h : rs[tpos rs rep p]? = some r) (h2 : r.err = 2) : rstep rs rep rest p tk0 (d, eof) = .inl (tk0, 4) := by unfold rstep; rw [h]; simp only; rw [if_pos h2]
theorem rs_final {t : List UInt8} (h : rs[tpos rs rep p]? = some r) (h2 : r.err = 1) (ht : tokR r d = some t) : rstep rs rep rest p tk0 (d, eof) = .inl (tk0 ++ [t], 0) := by unfold rstep; rw [h]; simp only; rw [if_neg (by omega), if_pos h2, ht]; rfl
theorem rs_final0 (h : rs[tpos rs rep p]? = some r) (h2 : r.err = 1) (ht : tokR r d = none) : rstep rs rep rest p tk0 (d, eof) = .inl (tk0, 0) := by unfold rstep; rw [h]; simp only; rw [if_neg (by omega), if_pos h2, ht]; simp
theorem rs_neg (h : rs[tpos rs rep p]? = some r) (h2 : ¬ r.err = 2) (h3 : ¬ r.err = 1) (h4 : advR r d < 0) : rstep rs rep rest p tk0 (d, eof) = .inl (tk0, 2) := by unfold rstep; rw [h]; simp only; rw [if_neg h2, if_neg h3, if_pos h4]
theorem rs_far (h : rs[tpos rs rep p]? = some r) (h2 : ¬ r.err = 2) (h3 : ¬ r.err = 1) {a : Nat} (ha : advR r d = (a : Int)) (h5 : d.length < a) : rstep rs rep rest p tk0 (d, eof) = .inl (tk0, 3) := by unfold rstep; rw [h]; simp only; rw [if_neg h2, if_neg h3, ha, if_neg (by omega), if_pos (by omega)]
theorem rs_tok (h : rs[tpos rs rep p]? = some r) (h2 : ¬ r.err = 2) (h3 : ¬ r.err = 1) {t : List UInt8} (ht : tokR r d = some t) {a : Nat} (ha : advR r d = (a : Int)) (h5 : a ≤ d.length) {pp : Nat} (hp : tpos rs rep p + 1 = pp) : rstep rs rep rest p tk0 (d, eof) = .inr (rest.drop a, pp, tk0 ++ [t]) := by
  unfold rstep; rw [h]; simp only; rw [if_neg h2, if_neg h3, ha, if_neg (by omega), if_neg (by omega), ht, hp]; rfl
theorem rs_nil1 (h : rs[tpos rs rep p]? = some r) (h2 : ¬ r.err = 2) (h3 : ¬ r.err = 1) (ht : tokR r d = none) {a : Nat} (ha : advR r d = (a : Int)) (h5 : a ≤ d.length) : rstep rs rep rest p tk0 (d, true) = .inl (tk0, 0) := by
  unfold rstep; rw [h]; simp only; rw [if_neg h2, if_neg h3, ha, if_neg (by omega), if_neg (by omega), ht]; rfl
theorem rs_nil0 (h : rs[tpos rs rep p]? = some r) (h2 : ¬ r.err = 2) (h3 : ¬ r.err = 1) (ht : tokR r d = none) {a : Nat} (ha : advR r d = (a : Int)) (h5 : a ≤ d.length) {pp : Nat} (hp : tpos rs rep p + 1 = pp) : rstep rs rep rest p tk0 (d, false) = .inr (rest.drop a, pp, tk0) := by
  unfold rstep; rw [h]; simp only; rw [if_neg h2, if_neg h3, ha, if_neg (by omega), if_neg (by omega), ht, hp]; rfl
/-- a step of the track -/
abbrev TrS (rs : List Rep) (rep : Bool) (rest : List UInt8) (p : Nat) (tk0 : List (List UInt8)) (c : List UInt8 × Bool) (cs : List (List UInt8 × Bool)) (res : List (List UInt8) × Nat × Bool) : Prop :=
  (∃ tk' e, rstep rs rep rest p tk0 c = .inl (tk', e) ∧ cs = [] ∧ res = (tk', e, true)) ∨ (∃ rest' p' tk', rstep rs rep rest p tk0 c = .inr (rest', p', tk') ∧ Track rs rep rest' p' tk' cs res)
theorem tr_end {c : List UInt8 × Bool} {cl : List (List UInt8 × Bool)} {k : Nat} {tk tk' : List (List UInt8)} {e e' : Nat} {fin : Bool} (h : TrS rs rep rest p tk0 c (cl.drop (k + 1)) (tk, e, fin)) (hk : k < cl.length) (hs : rstep rs rep rest p tk0 c = .inl (tk', e')) : k + 1 = cl.length ∧ tk = tk' ∧ e = e' ∧ fin = true := by
  rcases h with ⟨t1, e1, h1, h2, h3⟩ | ⟨r1, p1, t1, h1, _⟩
  · rw [hs] at h1
    cases h1
    cases h3
    refine ⟨?_, rfl, rfl, rfl⟩
    have := congrArg List.length h2
    rw [List.length_drop] at this
    simp at this
    omega
  · rw [hs] at h1; cases h1
theorem tr_go {c : List UInt8 × Bool} {cs : List (List UInt8 × Bool)} {res : List (List UInt8) × Nat × Bool} {rest' : List UInt8} {p' : Nat} {tk' : List (List UInt8)} (h : TrS rs rep rest p tk0 c cs res) (hs : rstep rs rep rest p tk0 c = .inr (rest', p', tk')) : Track rs rep rest' p' tk' cs res := by
  rcases h with ⟨t1, e1, h1, _⟩ | ⟨r1, p1, t1, h1, h2⟩
  · rw [hs] at h1; cases h1
  · rw [hs] at h1
    cases h1
    exact h2
theorem rep_end {w w' : World} {xp : Option Addr} {xn xc : Nat} {rb : Bool} {tk tk' : List (List UInt8)} {e e' : Nat} {fin : Bool} {v : Value} (h : tk = tk' ∧ e = e' ∧ fin = true) (hst : StrsAt (scrB w xp xn xc rb).heap.size w' v tk') (hbw : Below (scrB w xp xn xc rb).heap.size (scrB w xp xn xc rb) w') :
    RepPost tk e fin w (.returned (.tuple #[v, .int .i64 ((e' : Nat) : Int), .bool true, .bool true])) w' := by
  obtain ⟨rfl, rfl, rfl⟩ := h
  exact ⟨v, rfl, hst.mono (by simp), bel_scr hbw⟩
theorem rep_over {w w' : World} {xp : Option Addr} {xn xc : Nat} {rb : Bool} {tk : List (List UInt8)} {e : Nat} {fin : Bool} {v : Value} {rest : List UInt8} {p : Nat} (h : Track rs rep rest p tk0 [] (tk, e, fin)) (hst : StrsAt (scrB w xp xn xc rb).heap.size w' v tk0) (hbw : Below (scrB w xp xn xc rb).heap.size (scrB w xp xn xc rb) w') :
    RepPost tk e fin w (.returned (.tuple #[v, .int .i64 ((0 : Nat) : Int), .bool false, .bool true])) w' := by
  cases h
  exact ⟨v, rfl, hst.mono (by simp), bel_scr hbw⟩
end
end Go.Proofs.YtkclapimgmnldaaDoor
