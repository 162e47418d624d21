/-
  Opening an argument that is a script, with what the reach says of its sizes.
-/
import Derived.Test.YtkclapimgmnldaaDoorQOpenR
import Derived.Test.YtkclapimgmnldaaDoorQS
import Derived.Deep.Slices
namespace Go.Proofs.YtkclapimgmnldaaDoor
set_option linter.unusedVariables false
set_option linter.unusedSimpArgs false
set_option maxRecDepth 20000
open Go.ChangeShapes Go.WideShapes Go.ChangeAt Go.RowKit

/-- a slice that reads as these replies -/
structure RepsC (w : World) (xp : Option Addr) (rs : List Rep) (xc : Nat) : Prop where
  le : rs.length ≤ xc
  cap : xc ≤ 9223372036854775807
  cells : ∀ i r, rs[i]? = some r → ∃ b q, xp = some ⟨b, q, none⟩ ∧ ∀ j v, (repV r)[j]? = some v → w.cell? ⟨b, q + i * 7 + j, none⟩ = some v
theorem RepsC.below {w w' : World} {xp : Option Addr} {rs : List Rep} {xc : Nat} (h : RepsC w xp rs xc) (hb : Below w.heap.size w w') : RepsC w' xp rs xc :=
  ⟨h.le, h.cap, fun i r hr => by
    obtain ⟨b, q, e, hc⟩ := h.cells i r hr
    exact ⟨b, q, e, fun j v hv => (hb.cell (p := ⟨b, q + i * 7 + j, none⟩) (World.block_lt_of_cell? w _ (hc j v hv))).trans (hc j v hv)⟩⟩
theorem RepsC.drew {w : World} {xp : Option Addr} {rs : List Rep} {xc : Nat} (h : RepsC w xp rs xc) : RepsC w.drew xp rs xc := ⟨h.le, h.cap, h.cells⟩
/-- what the reach says of a script's replies -/
def RepsFit (rs : List Rep) : Prop := rs.length * 64 ≤ 140737488355328 ∧ ∀ r ∈ rs, r.text.size ≤ 140737488355328

section
variable {H : Type} {enc : TypeId × Value → H} {P : Program} {W : World} {base b0 : Nat} {sp : Nat → Bool} {held : Bool}
theorem open_cells7 {t : TypeId} {f0 f1 f2 f3 f4 f5 f6 : Field} {fuel : Nat} {cs : List Value} {x : DataW H × List MemPlace} (hs : P.underlying t = some (.struct #[f0, f1, f2, f3, f4, f5, f6])) (hone : Go.Deep.oneCellFields P #[f0, f1, f2, f3, f4, f5, f6] = true) (hC : P.cellsOf t = 7)
    (h : DataW.trod enc P W base sp held fuel t cs = some x) :
    ∃ (c0 c1 c2 c3 c4 c5 c6 : Value) (y0 y1 y2 y3 y4 y5 y6 : DataW H × List MemPlace) (n : Nat), cs = [c0, c1, c2, c3, c4, c5, c6] ∧ x.1 = .agg [y0.1, y1.1, y2.1, y3.1, y4.1, y5.1, y6.1] ∧
      DataW.trod enc P W base sp held n f0.type [c0] = some y0 ∧ DataW.trod enc P W base sp held n f1.type [c1] = some y1 ∧ DataW.trod enc P W base sp held n f2.type [c2] = some y2 ∧ DataW.trod enc P W base sp held n f3.type [c3] = some y3 ∧ DataW.trod enc P W base sp held n f4.type [c4] = some y4 ∧ DataW.trod enc P W base sp held n f5.type [c5] = some y5 ∧ DataW.trod enc P W base sp held n f6.type [c6] = some y6 := by
  obtain ⟨xs, n, _, rfl, hl, hlen, hf⟩ := DataW.trod_struct hs h
  rw [hC] at hl
  obtain ⟨o0, k0⟩ := Go.Deep.hone_of hone 0 f0 rfl
  obtain ⟨o1, k1⟩ := Go.Deep.hone_of hone 1 f1 rfl
  obtain ⟨o2, k2⟩ := Go.Deep.hone_of hone 2 f2 rfl
  obtain ⟨o3, k3⟩ := Go.Deep.hone_of hone 3 f3 rfl
  obtain ⟨o4, k4⟩ := Go.Deep.hone_of hone 4 f4 rfl
  obtain ⟨o5, k5⟩ := Go.Deep.hone_of hone 5 f5 rfl
  obtain ⟨o6, k6⟩ := Go.Deep.hone_of hone 6 f6 rfl
  have h0 := hf 0 f0 rfl
  have h1 := hf 1 f1 rfl
  have h2 := hf 2 f2 rfl
  have h3 := hf 3 f3 rfl
  have h4 := hf 4 f4 rfl
  have h5 := hf 5 f5 rfl
  have h6 := hf 6 f6 rfl
  rw [o0, k0] at h0
  rw [o1, k1] at h1
  rw [o2, k2] at h2
  rw [o3, k3] at h3
  rw [o4, k4] at h4
  rw [o5, k5] at h5
  rw [o6, k6] at h6
  clear hf hs h hone k0 k1 k2 k3 k4 k5 k6 o0 o1 o2 o3 o4 o5 o6
  match cs, hl, xs, hlen with
  | [c0, c1, c2, c3, c4, c5, c6], _, [y0, y1, y2, y3, y4, y5, y6], _ =>
    exact ⟨c0, c1, c2, c3, c4, c5, c6, y0, y1, y2, y3, y4, y5, y6, n, rfl, rfl, by simpa using h0, by simpa using h1, by simpa using h2, by simpa using h3, by simpa using h4, by simpa using h5, by simpa using h6⟩
end

section
variable {H : Type} {enc : TypeId × Value → H} {W : World} {base b0 : Nat} {held : Bool} {r : Reach} {v : Value} {d : DataW H} {ps : List MemPlace}
theorem cellsReply : Tryd.prog.cellsOf 94 = 7 := by kernel_rfl
theorem bytesReply : Tryd.prog.bytesOf 94 = 64 := by kernel_rfl
theorem cellsScript : Tryd.prog.cellsOf 67 = 2 := by kernel_rfl
theorem one_reply {n : Nat} {cs : List Value} {y : DataW H × List MemPlace} (h : DataW.trod enc Tryd.prog W base (fun _ => true) held n 94 cs = some y) :
    ∃ r : Rep, cs = repV r ∧ ((∀ n ∈ y.1.weights Tryd.prog 94, n ≤ reachBytes) → r.text.size ≤ 140737488355328) := by
  obtain ⟨c0, c1, c2, c3, c4, c5, c6, y0, y1, y2, y3, y4, y5, y6, m, rfl, hx, h0, h1, h2, h3, h4, h5, h6⟩ := open_cells7 Tryd.underlying94 (by kernel_rfl) cellsReply h
  obtain ⟨a, e0, rfl, _⟩ := DataW.trod_int Tryd.underlying3 h0
  obtain ⟨l, e1, rfl⟩ := DataW.trod_bool Tryd.underlying4 h1
  obtain ⟨k, e2, rfl, _⟩ := DataW.trod_int Tryd.underlying3 h2
  obtain ⟨f, e3, rfl, _⟩ := DataW.trod_int Tryd.underlying3 h3
  obtain ⟨t, e4, rfl, _⟩ := DataW.trod_int Tryd.underlying3 h4
  obtain ⟨s, e5, rfl, hs⟩ := DataW.trod_string Tryd.underlying9 h5
  obtain ⟨z, e6, rfl, _⟩ := DataW.trod_int Tryd.underlying3 h6
  simp only [List.cons.injEq, and_true] at e0 e1 e2 e3 e4 e5 e6
  subst e0; subst e1; subst e2; subst e3; subst e4; subst e5; subst e6
  refine ⟨⟨a, l, k, f, t, s, z⟩, rfl, fun hw => ?_⟩
  rw [hx] at hw
  have hl : s.data.toList.length = s.size := by simp
  simp only [DataW.weights, Tryd.underlying94, List.map_cons, List.map_nil, DataW.weightsEach, List.mem_append] at hw
  have := hw s.data.toList.length (by simp)
  unfold reachBytes at this
  show s.size ≤ _
  omega
theorem weights_all {P : Program} {e : TypeId} : ∀ (l : List (DataW H)) (n : Nat) (d : DataW H), d ∈ l → n ∈ d.weights P e → n ∈ DataW.weightsAll P e l := by
  intro l
  induction l with
  | nil => intro n d h; cases h
  | cons x r ih =>
    intro n d h hn
    simp only [DataW.weightsAll, List.mem_append]
    rcases List.mem_cons.1 h with rfl | h
    · exact .inl hn
    · exact .inr (ih n d h hn)
instance : Inhabited Rep := ⟨⟨0, false, 0, 0, 0, ⟨#[]⟩, 0⟩⟩
theorem reps_of_trod {fuel : Nat} {u : Value} {x : DataW H × List MemPlace} (hf : DataW.trod enc Tryd.prog W base (fun _ => true) held fuel 65 [u] = some x) :
    ∃ xp rs xc, u = .slice xp (rs : List Rep).length xc ∧ RepsC W xp rs xc ∧ ((∀ n ∈ x.1.weights Tryd.prog 65, n ≤ reachBytes) → RepsFit rs) := by
  rcases Go.Deep.open_slice Tryd.underlying65 hf with ⟨h1, h2⟩ | ⟨a, len, cap, m, n, D, Pl, h1, h2, h3, h4, h5, h6, h7⟩
  · simp only [List.cons.injEq, and_true] at h1
    subst h1
    exact ⟨none, [], 0, rfl, ⟨Nat.le_refl _, by omega, fun i x h => by simp at h⟩, fun _ => ⟨by simp, by simp⟩⟩
  · simp only [List.cons.injEq, and_true] at h1
    subst h1
    simp only [if_true] at h5
    subst h5
    unfold maxLen at h4
    obtain ⟨R, hR⟩ := Go.Deep.choose_lt (α := Rep) (p := fun i r => (∀ j v, (repV r)[j]? = some v → W.cell? (a.add (i * 7 + j)) = some v) ∧ ((∀ n ∈ (D i).weights Tryd.prog 94, n ≤ reachBytes) → r.text.size ≤ 140737488355328)) (fun i (hi : i < m) => by
      obtain ⟨cs', hc, ht⟩ := h7 i hi
      obtain ⟨r, rfl, hr⟩ := one_reply ht
      obtain ⟨_, hcl, hat⟩ := World.cells?_some hc
      rw [cellsReply] at hat hcl
      refine ⟨r, fun j v hv => ?_, hr⟩
      have hj : j < 7 := by
        have := (List.getElem?_eq_some_iff.1 hv).1
        simpa using this
      rw [← Go.Deep.add_add, hat j hj, hv])
    have hlen : ((List.range len).map R).length = len := by simp
    refine ⟨some a, (List.range len).map R, m, by rw [hlen], ⟨by rw [hlen]; exact h3, by omega, fun i r hr => ?_⟩, fun hw => ?_⟩
    · have hi : i < len := by
        have := (List.getElem?_eq_some_iff.1 hr).1
        rw [hlen] at this
        exact this
      simp [hi] at hr
      subst hr
      have hc0 := (hR 0 (by omega)).1 0 _ rfl
      have hsp := cell_spot hc0
      refine ⟨a.block, a.off, by have := hsp 0; simpa [Addr.add] using this, fun j v hv => ?_⟩
      have := (hR i (by omega)).1 j v hv
      rw [hsp] at this
      rw [Nat.add_assoc]
      exact this
    · rw [h6] at hw
      simp only [DataW.weights, Tryd.underlying65, bytesReply, List.length_map, List.length_range] at hw
      refine ⟨?_, fun r hr => ?_⟩
      · have h9 := hw _ List.mem_cons_self
        unfold reachBytes at h9
        rw [hlen]
        omega
      · obtain ⟨i, hi, rfl⟩ := List.mem_map.1 hr
        have hi' := List.mem_range.1 hi
        refine (hR i (by omega)).2 fun n hn => hw n ?_
        refine List.mem_cons_of_mem _ (List.mem_append_left _ (weights_all _ n (D i) (List.mem_map.2 ⟨i, hi, rfl⟩) hn))
theorem openScript (hval : Value.okWide Tryd.prog W r b0 67 v) (hd : DataW.Trod enc Tryd.prog W base (fun _ => true) held 67 v d ps) :
    ∃ (xp : Option Addr) (rs : List Rep) (xc : Nat) (rep : Bool), v = .agg #[.slice xp rs.length xc, .bool rep] ∧ RepsC W xp rs xc ∧ ((∀ n ∈ d.weights Tryd.prog 67, n ≤ reachBytes) → RepsFit rs) := by
  obtain ⟨v0, v1, y0, y1, n, rfl, rfl, rfl, h0, h1⟩ := Go.Joins.open_agg2 Tryd.underlying67 (by kernel_rfl) cellsScript hval hd
  obtain ⟨xp, rs, xc, e0, hi, hb⟩ := reps_of_trod h0
  obtain ⟨rep, e1, rfl⟩ := DataW.trod_bool Tryd.underlying4 h1
  simp only [List.cons.injEq, and_true] at e1
  subst e0; subst e1
  refine ⟨xp, rs, xc, rep, rfl, hi, fun hw => ?_⟩
  simp only [DataW.weights, Tryd.underlying67, List.map_cons, List.map_nil, DataW.weightsEach, List.mem_append] at hw
  exact hb fun n hn => hw n (.inl hn)
end
end Go.Proofs.YtkclapimgmnldaaDoor
