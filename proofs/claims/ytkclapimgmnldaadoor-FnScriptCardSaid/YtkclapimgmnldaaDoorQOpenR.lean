/-
  Opening an argument that is a source, with what the reach says of its sizes.
-/
import Derived.Test.YtkclapimgmnldaaDoorQO
import Derived.SizedLaws
namespace Go.Proofs.YtkclapimgmnldaaDoor
set_option linter.unusedVariables false
set_option linter.unusedSimpArgs false
set_option maxRecDepth 20000
open Go.ChangeShapes Go.WideShapes Go.ChangeAt Go.RowKit

theorem reach_at {H : Type} {P : Program} {ts : List TypeId} {ds : List (DataW H)} (h : (DataW.weightsEach P ts ds).all (· ≤ reachBytes) = true) {j : Nat} {t : TypeId} {d : DataW H} (ht : ts[j]? = some t) (hd : ds[j]? = some d) : ∀ n ∈ d.weights P t, n ≤ reachBytes := fun n hn => by
  have := List.all_eq_true.1 h _ (DataW.weights_mem_each ht hd n hn)
  simpa using this
theorem reach_d0 {H : Type} {P : Program} {t : TypeId} {ts : List TypeId} {d : DataW H} {ds : List (DataW H)} (h : (DataW.weightsEach P (t :: ts) (d :: ds)).all (· ≤ reachBytes) = true) : ∀ n ∈ d.weights P t, n ≤ reachBytes := reach_at h (j := 0) rfl rfl
theorem reach_d1 {H : Type} {P : Program} {t u : TypeId} {ts : List TypeId} {d e : DataW H} {ds : List (DataW H)} (h : (DataW.weightsEach P (t :: u :: ts) (d :: e :: ds)).all (· ≤ reachBytes) = true) : ∀ n ∈ e.weights P u, n ≤ reachBytes := reach_at h (j := 1) rfl rfl
theorem reach_d2 {H : Type} {P : Program} {t u v : TypeId} {ts : List TypeId} {d e f : DataW H} {ds : List (DataW H)} (h : (DataW.weightsEach P (t :: u :: v :: ts) (d :: e :: f :: ds)).all (· ≤ reachBytes) = true) : ∀ n ∈ f.weights P v, n ≤ reachBytes := reach_at h (j := 2) rfl rfl
theorem reach_s1 {H : Type} {P : Program} {t u : TypeId} {ts : List TypeId} {d : DataW H} {s : ByteArray} {ds : List (DataW H)} (h : (DataW.weightsEach P (t :: u :: ts) (d :: DataW.lit (.string s.data.toList) :: ds)).all (· ≤ reachBytes) = true) : s.size ≤ 140737488355328 := by
  have := sized_string h (j := 1) (t := u) (bytes := s.data.toList) rfl rfl
  have h2 : s.data.toList.length = s.size := by simp
  unfold reachBytes at this
  omega
theorem reach_str {H : Type} {P : Program} {ts : List TypeId} {ds : List (DataW H)} (h : (DataW.weightsEach P ts ds).all (· ≤ reachBytes) = true) {j : Nat} {t : TypeId} {s : ByteArray} (ht : ts[j]? = some t) (hd : ds[j]? = some (.lit (.string s.data.toList))) : s.size ≤ 140737488355328 := by
  have := sized_string h ht hd
  have h2 : s.data.toList.length = s.size := by simp
  unfold reachBytes at this
  omega

section
variable {H : Type} {enc : TypeId × Value → H} {W : World} {base b0 : Nat} {held : Bool} {r : Reach} {v : Value} {d : DataW H} {ps : List MemPlace}
theorem bytesInt : Tryd.prog.bytesOf 3 = 8 := by kernel_rfl
theorem ints_of_trodR {fuel : Nat} {u : Value} {x : DataW H × List MemPlace} (hf : DataW.trod enc Tryd.prog W base (fun _ => true) held fuel 22 [u] = some x) :
    ∃ pa pcs pc, u = .slice pa (pcs : List Int).length pc ∧ Ints W pa pcs pc ∧ ((∀ n ∈ x.1.weights Tryd.prog 22, n ≤ reachBytes) → pcs.length * 8 ≤ 140737488355328) := by
  rcases open_ints Tryd.underlying22 Tryd.underlying3 cellsInt hf with ⟨h1, h2⟩ | ⟨a, len, cap, zs, h1, h2, h3, h4, h5, h6, h7, h8⟩
  · simp only [List.cons.injEq, and_true] at h1
    subst h1
    exact ⟨none, [], 0, rfl, ⟨Nat.le_refl _, by omega, fun i x h => by simp at h⟩, by simp⟩
  · simp only [List.cons.injEq, and_true] at h1
    subst h1
    rw [if_pos rfl] at h5
    unfold maxLen at h4
    have hlen : (zs.take len).length = len := by simp; omega
    refine ⟨some a, zs.take len, cap, by rw [hlen], ⟨by rw [hlen]; exact h3, h4, fun i x hx => ?_⟩, ?_⟩
    · have hi : i < len := by
        have := (List.getElem?_eq_some_iff.1 hx).1
        rw [hlen] at this
        exact this
      have hc0 := h7 0 (by omega)
      have hci := h7 i (by omega)
      have hsp := cell_spot hc0
      refine ⟨a.block, a.off, by have := hsp 0; simpa [Addr.add] using this, ?_⟩
      rw [← hsp i, hci]
      rw [List.getElem?_take, if_pos hi] at hx
      rw [List.getD_eq_getElem?_getD, hx]
      rfl
    · rw [h6]
      intro hw
      have h9 := hw _ (by
        simp only [DataW.weights, Tryd.underlying22]
        exact List.mem_cons_self)
      rw [bytesInt] at h9
      unfold reachBytes at h9
      rw [hlen]
      simp only [lits, List.length_map, hlen] at h9
      omega
theorem openSourceR (hval : Value.okWide Tryd.prog W r b0 24 v) (hd : DataW.Trod enc Tryd.prog W base (fun _ => true) held 24 v d ps) :
    ∃ (s : ByteArray) (pa : Option Addr) (pcs : List Int) (pc : Nat) (tog br : Bool), v = .agg #[.string s, .slice pa pcs.length pc, .bool tog, .bool br] ∧ Ints W pa pcs pc ∧ ((∀ n ∈ d.weights Tryd.prog 24, n ≤ reachBytes) → s.size ≤ 140737488355328 ∧ pcs.length * 8 ≤ 140737488355328) := by
  obtain ⟨v0, v1, v2, v3, y0, y1, y2, y3, n, rfl, rfl, rfl, h0, h1, h2, h3⟩ := Go.Joins.open_agg4 Tryd.underlying24 (by kernel_rfl) cellsSource hval hd
  obtain ⟨s, e0, rfl, hs⟩ := DataW.trod_string Tryd.underlying9 h0
  obtain ⟨pa, pcs, pc, e1, hi, hb⟩ := ints_of_trodR h1
  obtain ⟨tog, e2, rfl⟩ := DataW.trod_bool Tryd.underlying4 h2
  obtain ⟨br, e3, rfl⟩ := DataW.trod_bool Tryd.underlying4 h3
  simp only [List.cons.injEq, and_true] at e0 e2 e3
  subst e0; subst e1; subst e2; subst e3
  refine ⟨s, pa, pcs, pc, tog, br, rfl, hi, fun hw => ?_⟩
  have hl : s.data.toList.length = s.size := by simp
  simp only [DataW.weights, Tryd.underlying24, List.map_cons, List.map_nil, DataW.weightsEach, List.mem_append] at hw
  refine ⟨?_, hb fun n hn => hw n (.inr (.inl hn))⟩
  have := hw s.data.toList.length (.inl (by simp))
  unfold reachBytes at this
  omega
end
end Go.Proofs.YtkclapimgmnldaaDoor
