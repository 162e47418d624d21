/-
  A law's call of ByScript, in whatever order its statement makes things: the invariant.
-/
import Derived.Test.YtkclapimgmnldaaDoorQByScript
import Derived.Test.YtkclapimgmnldaaDoorQO
import Derived.Test.YtkclapimgmnldaaDoorQHelp
namespace Go.Proofs.YtkclapimgmnldaaDoor
set_option linter.unusedVariables false
set_option linter.unusedSimpArgs false
set_option maxRecDepth 20000
open Go.RowKit

/-- what came of the run, in memory -/
structure Ran (w : World) (rs : List Rep) (rep : Bool) (lim : Nat) (tog : Bool) (endE : Nat) (s : ByteArray) (N : Nat) (ts : List (List UInt8)) (x' : Sm TS) (ended pan : Bool) (tv : Value) (ca : Option Addr) (cn cc : Nat) (w' : World) : Prop where
  run : RunsTo (splitTape rs rep) lim tog endE (newT s) N ts x' ended pan
  strs : StrsAt w.heap.size w' tv ts
  calls : w'.ownsRow w.heap.size 47 2 (.slice ca cn cc) x'.sp.calls.length (x'.sp.calls.flatMap callV)
theorem Ran.frame {w : World} {rs : List Rep} {rep : Bool} {lim : Nat} {tog : Bool} {endE : Nat} {s : ByteArray} {N : Nat} {ts : List (List UInt8)} {x' : Sm TS} {ended pan : Bool} {tv : Value} {ca : Option Addr} {cn cc : Nat} {w' w'' : World} (h : Ran w rs rep lim tog endE s N ts x' ended pan tv ca cn cc w') (h1 : ∀ k, tv.ownBlock = some k → w''.heap[k]? = w'.heap[k]?) (h2 : ∀ k, (Value.slice ca cn cc).ownBlock = some k → w''.heap[k]? = w'.heap[k]?) :
    Ran w rs rep lim tog endE s N ts x' ended pan tv ca cn cc w'' := ⟨h.run, owns_frame h.strs h1, owns_frame h.calls h2⟩

/-- the cells of a run that has not begun -/
abbrev run0 : Array Value := runCells (.slice none 0 0) (.slice none 0 0) 0 false false

structure RJ (w W : World) (s : ByteArray) (pcs : List Int) (tog broken d : Bool) (c m : Int) (rs : List Rep) (rep : Bool) (N : Nat) (b1 b2 b3 b5 b6 b7 : Bool) (v26 v27 v28 v30 v6 : Value) (pa2 : Option Addr) (pc2 : Nat) (pl2 : List Nat) (rp : Option Addr) (rc : Nat) (rl : List Nat) (RB : Nat)
    (ts : List (List UInt8)) (x' : Sm TS) (ended pan : Bool) (tv : Value) (ca : Option Addr) (cn cc : Nat) (w' : World) : Prop where
  bel : Below w.heap.size w w'
  pre : b5 = false → Below W.heap.size W w'
  i1 : b1 = true → v26 = srcV s pa2 pcs.length pc2 tog broken ∧ (b5 = false → PcsAt w.heap.size w' pa2 pcs pc2 pl2)
  i2 : b2 = true → v27 = roomV d c m
  i3 : b3 = true → v28 = scrV rp rs.length rc rep ∧ (rs.length ≤ rc ∧ rc ≤ 9223372036854775807) ∧ (b5 = false → RepsAt w' rs rp rl ∧ rl.Nodup ∧ ∀ k, k ∈ rl → w.heap.size ≤ k ∧ k < w'.heap.size)
  dis : b1 = true → b3 = true → ∀ k, k ∈ rl → k ∉ pl2
  i5 : b5 = true → v30 = .agg (runCells tv (.slice ca cn cc) (codeI (errOf x'.err)) ended pan) ∧ Ran w rs rep (limitN d c m) tog (if broken then 5 else 0) s N ts x' ended pan tv ca cn cc w'
  i6 : b6 = true → v6 = .pointer (some ⟨RB, 0, none⟩) ∧ w.heap.size ≤ RB ∧ w'.heap[RB]? = some (.cells (if b7 then runCells tv (.slice ca cn cc) (codeI (errOf x'.err)) ended pan else run0) 61 (0, 0))
  d61 : b6 = true → b1 = true → RB ∉ pl2
  d63 : b6 = true → b3 = true → RB ∉ rl
  l7 : b7 = true → b5 = true ∧ b6 = true

section
variable {w W : World} {E : Nat → Addr} {s : ByteArray} {pcs : List Int} {tog broken d : Bool} {c m : Int} {rs : List Rep} {rep : Bool} {N : Nat} {b1 b2 b3 b5 b6 b7 : Bool} {v26 v27 v28 v30 v6 : Value} {pa2 : Option Addr} {pc2 : Nat} {pl2 : List Nat} {rp : Option Addr} {rc : Nat} {rl : List Nat} {RB : Nat} {ts : List (List UInt8)} {x' : Sm TS} {ended pan : Bool} {tv : Value} {ca : Option Addr} {cn cc : Nat} {w' w'' : World}

/-- memory that grows, ahead of the run or behind it -/
theorem RJ.grow (h : RJ w W s pcs tog broken d c m rs rep N b1 b2 b3 b5 b6 b7 v26 v27 v28 v30 v6 pa2 pc2 pl2 rp rc rl RB ts x' ended pan tv ca cn cc w') (hb : Below w'.heap.size w' w'') : RJ w W s pcs tog broken d c m rs rep N b1 b2 b3 b5 b6 b7 v26 v27 v28 v30 v6 pa2 pc2 pl2 rp rc rl RB ts x' ended pan tv ca cn cc w'' where
  bel := bel_tr h.bel hb
  pre := fun h5 => bel_tr (h.pre h5) hb
  i1 := fun hf => ⟨(h.i1 hf).1, fun h5 => pcs_later ((h.i1 hf).2 h5) hb⟩
  i2 := h.i2
  i3 := fun hf => ⟨(h.i3 hf).1, (h.i3 hf).2.1, fun h5 => by
    obtain ⟨q1, q2, q3⟩ := (h.i3 hf).2.2 h5
    exact ⟨q1.frame fun k hk => hb.block k (q3 k hk).2, q2, fun k hk => ⟨(q3 k hk).1, Nat.lt_of_lt_of_le (q3 k hk).2 hb.size⟩⟩⟩
  dis := h.dis
  i5 := fun hf => ⟨(h.i5 hf).1, (h.i5 hf).2.frame (fun k hk => hb.block k (World.ownsRow.lt (h.i5 hf).2.strs k hk).2) (fun k hk => hb.block k (World.ownsRow.lt (h.i5 hf).2.calls k hk).2)⟩
  i6 := fun hf => ⟨(h.i6 hf).1, (h.i6 hf).2.1, (hb.block _ (lt_of_heap (h.i6 hf).2.2)).trans (h.i6 hf).2.2⟩
  d61 := h.d61
  d63 := h.d63
  l7 := h.l7

/-- the source is made -/
theorem RJ.s1 (h0 : RJ w W s pcs tog broken d c m rs rep N b1 b2 b3 b5 b6 b7 v26 v27 v28 v30 v6 pa2 pc2 pl2 rp rc rl RB ts x' ended pan tv ca cn cc w') (h5 : b5 = false) {pa : Option Addr} {pc : Nat} {pl : List Nat} (hp : PcsAt w'.heap.size w'' pa pcs pc pl) (hb : Below w'.heap.size w' w'') :
    RJ w W s pcs tog broken d c m rs rep N true b2 b3 b5 b6 b7 (srcV s pa pcs.length pc tog broken) v27 v28 v30 v6 pa pc pl rp rc rl RB ts x' ended pan tv ca cn cc w'' := by
  have h := h0.grow hb
  exact
  { h with
    i1 := fun _ => ⟨rfl, fun _ => pcs_frame hp h0.bel.size (fun _ _ => rfl) (Nat.le_refl _)⟩
    dis := fun _ h3 k hk hm => by
      have q := ((h0.i3 h3).2.2 h5).2.2 k hk
      have := (hp.hlt k hm).1
      omega
    d61 := fun h6 _ hm => by
      have q := lt_of_heap (h0.i6 h6).2.2
      have := (hp.hlt _ hm).1
      omega }
/-- the room is made -/
theorem RJ.s2 (h0 : RJ w W s pcs tog broken d c m rs rep N b1 b2 b3 b5 b6 b7 v26 v27 v28 v30 v6 pa2 pc2 pl2 rp rc rl RB ts x' ended pan tv ca cn cc w') (hb : Below w'.heap.size w' w'') :
    RJ w W s pcs tog broken d c m rs rep N b1 true b3 b5 b6 b7 v26 (roomV d c m) v28 v30 v6 pa2 pc2 pl2 rp rc rl RB ts x' ended pan tv ca cn cc w'' :=
  { h0.grow hb with i2 := fun _ => rfl }
/-- the script is made -/
theorem RJ.s3 (h0 : RJ w W s pcs tog broken d c m rs rep N b1 b2 b3 b5 b6 b7 v26 v27 v28 v30 v6 pa2 pc2 pl2 rp rc rl RB ts x' ended pan tv ca cn cc w') (h5 : b5 = false) (hb : Below w'.heap.size w' w'') {rp1 : Option Addr} {rc1 : Nat} {rl1 : List Nat} (hrc : rs.length ≤ rc1 ∧ rc1 ≤ 9223372036854775807) (hR : RepsAt w'' rs rp1 rl1) (hnd : rl1.Nodup) (hrl : ∀ k, k ∈ rl1 → w.heap.size ≤ k ∧ k < w''.heap.size) (h1 : b1 = true → ∀ k, k ∈ rl1 → k ∉ pl2) (h6 : b6 = true → RB ∉ rl1) :
    RJ w W s pcs tog broken d c m rs rep N b1 b2 true b5 b6 b7 v26 v27 (scrV rp1 rs.length rc1 rep) v30 v6 pa2 pc2 pl2 rp1 rc1 rl1 RB ts x' ended pan tv ca cn cc w'' :=
  { h0.grow hb with
    i3 := fun _ => ⟨rfl, hrc, fun _ => ⟨hR, hnd, hrl⟩⟩
    dis := fun hb1 _ => h1 hb1
    d63 := fun hb6 _ => h6 hb6 }
/-- the run's box -/
theorem RJ.s6 (h0 : RJ w W s pcs tog broken d c m rs rep N b1 b2 b3 b5 b6 b7 v26 v27 v28 v30 v6 pa2 pc2 pl2 rp rc rl RB ts x' ended pan tv ca cn cc w') (h6 : b6 = false) (hpl : b5 = true → b1 = true → ∀ k, k ∈ pl2 → k < w'.heap.size) (hrl : b5 = true → b3 = true → ∀ k, k ∈ rl → k < w'.heap.size) :
    RJ w W s pcs tog broken d c m rs rep N b1 b2 b3 b5 true b7 v26 v27 v28 v30 (.pointer (some ⟨w'.heap.size, 0, none⟩)) pa2 pc2 pl2 rp rc rl w'.heap.size ts x' ended pan tv ca cn cc (w'.alloc (.cells run0 61)) := by
  have h := h0.grow ((Below.refl w'.heap.size w').alloc (Nat.le_refl _) (.cells run0 61))
  have h7 : b7 = false := by
    cases hb7 : b7 with
    | false => rfl
    | true => rw [(h0.l7 hb7).2] at h6; cases h6
  exact
  { h with
    i6 := fun _ => ⟨rfl, h0.bel.size, by rw [h7]; exact heap_new _ _⟩
    d61 := fun _ hb1 hm => by
      cases h5 : b5 with
      | true => have := hpl h5 hb1 _ hm; omega
      | false => have := (((h0.i1 hb1).2 h5).hlt _ hm).2; omega
    d63 := fun _ hb3 hm => by
      cases h5 : b5 with
      | true => have := hrl h5 hb3 _ hm; omega
      | false => have := (((h0.i3 hb3).2.2 h5).2.2 _ hm).2; omega
    l7 := fun hb7 => by rw [h7] at hb7; cases hb7 }
/-- the run -/
theorem RJ.s5 (h : RJ w W s pcs tog broken d c m rs rep N true true true false b6 b7 v26 v27 v28 v30 v6 pa2 pc2 pl2 rp rc rl RB ts x' ended pan tv ca cn cc w') {e : Ending} (hr : RunPost w.heap.size rs rep (limitN d c m) tog (if broken then 5 else 0) (newT s) N (pl2 ++ rl) w' e w'') :
    ∃ ts' y ended' pan' tv' ca' cn' cc', e = .returned (.agg (runCells tv' (.slice ca' cn' cc') (codeI (errOf y.err)) ended' pan')) ∧ RJ w W s pcs tog broken d c m rs rep N true true true true b6 b7 v26 v27 v28 (.agg (runCells tv' (.slice ca' cn' cc') (codeI (errOf y.err)) ended' pan')) v6 pa2 pc2 pl2 rp rc rl RB ts' y ended' pan' tv' ca' cn' cc' w'' ∧ (∀ k, k ∈ pl2 → k < w''.heap.size) ∧ (∀ k, k ∈ rl → k < w''.heap.size) := by
  obtain ⟨ts', y, ended', pan', tv', ca', cn', cc', rfl, q1, q2, q3, q4⟩ := hr
  obtain ⟨g1, g2, g3⟩ := (h.i3 rfl).2.2 rfl
  have g4 := (h.i1 rfl).2 rfl
  have hz := h.bel.size
  have h7 : b7 = false := by
    cases hb7 : b7 with
    | false => rfl
    | true => have := (h.l7 hb7).1; cases this
  refine ⟨ts', y, ended', pan', tv', ca', cn', cc', rfl, ?_, fun k hk => Nat.lt_of_lt_of_le (g4.hlt k hk).2 q4.size, fun k hk => Nat.lt_of_lt_of_le (g3 k hk).2 q4.size⟩
  exact
  { bel := h.bel.trans (q4.below hz (fun k hk => by
      rcases List.mem_append.1 hk with hk | hk
      · exact (g4.hlt k hk).1
      · exact (g3 k hk).1))
    pre := fun h5 => by cases h5
    i1 := fun _ => ⟨(h.i1 rfl).1, fun h5 => by cases h5⟩
    i2 := h.i2
    i3 := fun _ => ⟨(h.i3 rfl).1, (h.i3 rfl).2.1, fun h5 => by cases h5⟩
    dis := h.dis
    i5 := fun _ => ⟨rfl, q1, StrsAt.mono q2 hz, q3⟩
    i6 := fun hb6 => by
      obtain ⟨e1, e2, e3⟩ := h.i6 hb6
      refine ⟨e1, e2, (q4.block RB (lt_of_heap e3) (fun hm => ?_)).trans ?_⟩
      · rcases List.mem_append.1 hm with hm | hm
        · exact h.d61 hb6 rfl hm
        · exact h.d63 hb6 rfl hm
      · rw [h7] at e3 ⊢
        exact e3
    d61 := h.d61
    d63 := h.d63
    l7 := fun hb7 => by rw [h7] at hb7; cases hb7 }
/-- what came of it is put into the box -/
abbrev put5 (RB : Nat) (tv cv : Value) (e : Int) (ended pan : Bool) (w : World) : World := set5 RB tv cv e ended pan w
theorem RJ.s7 (h : RJ w W s pcs tog broken d c m rs rep N b1 b2 b3 true true b7 v26 v27 v28 v30 v6 pa2 pc2 pl2 rp rc rl RB ts x' ended pan tv ca cn cc w') (h7 : b7 = false) :
    RJ w W s pcs tog broken d c m rs rep N b1 b2 b3 true true true v26 v27 v28 v30 v6 pa2 pc2 pl2 rp rc rl RB ts x' ended pan tv ca cn cc (set5 RB tv (.slice ca cn cc) (codeI (errOf x'.err)) ended pan w') := by
  obtain ⟨e1, e2, e3⟩ := h.i6 rfl
  rw [h7] at e3
  obtain ⟨e4, e5⟩ := h.i5 rfl
  have hk : ∀ k, k ≠ RB → (set5 RB tv (.slice ca cn cc) (codeI (errOf x'.err)) ended pan w').heap[k]? = w'.heap[k]? := fun k hk => by
    rw [heap_setCell_not hk, heap_setCell_not hk, heap_setCell_not hk, heap_setCell_not hk, heap_setCell_not hk]
  have ht : ∀ k, tv.ownBlock = some k → k ≠ RB := fun k hm e => by
    rcases e5.strs.2 with ⟨q, _⟩ | ⟨g, cap, cur, q, _, q2, _⟩
    · rw [q] at hm; cases hm
    · rw [q] at hm
      simp [Value.ownBlock] at hm
      rw [hm, e, e3] at q2
      simp at q2
  have hc : ∀ k, (Value.slice ca cn cc).ownBlock = some k → k ≠ RB := fun k hm e => by
    rcases e5.calls.2 with ⟨q, _⟩ | ⟨g, cap, cur, q, _, q2, _⟩
    · rw [q] at hm; cases hm
    · rw [q] at hm
      simp [Value.ownBlock] at hm
      rw [hm, e, e3] at q2
      simp at q2
  exact
  { bel := ((((h.bel.setCell (p := ⟨RB, 0, none⟩) e2 _).setCell (p := ⟨RB, 1, none⟩) e2 _).setCell (p := ⟨RB, 2, none⟩) e2 _).setCell (p := ⟨RB, 3, none⟩) e2 _).setCell (p := ⟨RB, 4, none⟩) e2 _
    pre := fun h5 => by cases h5
    i1 := fun hb1 => ⟨(h.i1 hb1).1, fun h5 => by cases h5⟩
    i2 := h.i2
    i3 := fun hb3 => ⟨(h.i3 hb3).1, (h.i3 hb3).2.1, fun h5 => by cases h5⟩
    dis := h.dis
    i5 := fun _ => ⟨e4, e5.frame (fun k hm => hk k (ht k hm)) (fun k hm => hk k (hc k hm))⟩
    i6 := fun _ => ⟨e1, e2, by
      have g1 := heap_setCell_at (i := 0) e3 tv
      have g2 := heap_setCell_at (i := 1) g1 (.slice ca cn cc)
      have g3 := heap_setCell_at (i := 2) g2 (.int .i64 (codeI (errOf x'.err)))
      have g4 := heap_setCell_at (i := 3) g3 (.bool ended)
      rw [heap_setCell_at g4]
      rfl⟩
    d61 := h.d61
    d63 := h.d63
    l7 := fun _ => ⟨rfl, rfl⟩ }
end
end Go.Proofs.YtkclapimgmnldaaDoor
