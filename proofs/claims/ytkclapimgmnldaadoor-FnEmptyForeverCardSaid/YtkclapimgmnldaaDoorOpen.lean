/-
  Opening the arguments of the laws, kind by kind; the bound of the second form.
-/
import Derived.Test.YtkclapimgmnldaaDoorShut
import Derived.Test.YtkclapimgmnldaaDoorFacts
import Derived.Test.YtkclapimgmnldaaDoorHelp
import Derived.Lib.SmallJoins
import Derived.SliceStrings
import Derived.ChangeSlices
namespace Go.Proofs.YtkclapimgmnldaaDoor
set_option linter.unusedVariables false
set_option linter.unusedSimpArgs false
set_option maxRecDepth 20000
open Go.ChangeShapes Go.WideShapes Go.ChangeAt Go.RowKit

theorem bulk_le {H : Type} {ds : List (DataW H)} (h : Rows.uptoSmall H ds = true) : Rows.uptoBulkAll ds ≤ 1048576 := of_decide_eq_true h
theorem bulk_s {H : Type} {s : ByteArray} {ds : List (DataW H)} (h : Rows.uptoSmall H (DataW.lit (.string s.data.toList) :: ds) = true) : s.size ≤ 1048576 := by
  have h1 := bulk_le h
  have hl : s.data.toList.length = s.size := by simp
  simp only [Rows.uptoBulkAll, Rows.uptoBulk] at h1
  omega

theorem bulk_s4 {H : Type} {s : ByteArray} {ds : List (DataW H)} (h : Rows.uptoSmall H (DataW.lit (.string s.data.toList) :: ds) = true) : s.size ≤ 4194304 := Nat.le_trans (bulk_s h) (by omega)
theorem bulk_d {H : Type} {d : DataW H} {ds : List (DataW H)} (h : Rows.uptoSmall H (d :: ds) = true) : Rows.uptoBulk d ≤ 1048576 := by
  have h1 := bulk_le h
  simp only [Rows.uptoBulkAll] at h1
  omega
theorem bulk_d4 {H : Type} {d : DataW H} {ds : List (DataW H)} {n : Nat} (h : Rows.uptoSmall H (d :: ds) = true) (hn : n ≤ Rows.uptoBulk d) : n ≤ 4194304 := by
  have := bulk_d h
  omega

section
variable {H : Type} {enc : TypeId × Value → H} {W : World} {base b0 : Nat} {sp : Nat → Bool} {held : Bool} {r : Reach} {v : Value} {d : DataW H} {ps : List MemPlace}

theorem wf_i64 {n : Int} (h : (Lit.int .i64 n).wf = true) : -9223372036854775808 ≤ n ∧ n ≤ 9223372036854775807 := by
  simpa [Lit.wf, IntKind.min, IntKind.max, IntKind.signed, IntKind.bits] using h
theorem openInt (hval : Value.okWide Tryd.prog W r b0 3 v) (hd : DataW.Trod enc Tryd.prog W base sp held 3 v d ps) : ∃ n, v = .int .i64 n ∧ d = .lit (.int .i64 n) ∧ ps = [] ∧ (-9223372036854775808 ≤ n ∧ n ≤ 9223372036854775807) := by
  obtain ⟨n, h1, h2, h3, h4⟩ := open_int Tryd.underlying3 hval hd
  exact ⟨n, h1, h2, h3, wf_i64 h4⟩
theorem openBool (hval : Value.okWide Tryd.prog W r b0 4 v) (hd : DataW.Trod enc Tryd.prog W base sp held 4 v d ps) : ∃ b : Bool, v = .bool b ∧ d = .lit (.bool b) ∧ ps = [] := open_bool Tryd.underlying4 hval hd

theorem cellsRoom : Tryd.prog.cellsOf 26 = 3 := by kernel_rfl
theorem openRoom (hval : Value.okWide Tryd.prog W r b0 26 v) (hd : DataW.Trod enc Tryd.prog W base sp held 26 v d ps) :
    ∃ (D : Bool) (c m : Int), v = .agg #[.bool D, .int .i64 c, .int .i64 m] ∧ d = .agg [.lit (.bool D), .lit (.int .i64 c), .lit (.int .i64 m)] ∧ ps = [] ∧ (-9223372036854775808 ≤ c ∧ c ≤ 9223372036854775807 ∧ -9223372036854775808 ≤ m ∧ m ≤ 9223372036854775807) := by
  obtain ⟨v0, v1, v2, y0, y1, y2, n, rfl, rfl, rfl, h0, h1, h2⟩ := Go.Joins.open_agg3 Tryd.underlying26 (by kernel_rfl) cellsRoom hval hd
  obtain ⟨D, e0, rfl⟩ := DataW.trod_bool Tryd.underlying4 h0
  obtain ⟨c, e1, rfl, hc⟩ := DataW.trod_int Tryd.underlying3 h1
  obtain ⟨m, e2, rfl, hm⟩ := DataW.trod_int Tryd.underlying3 h2
  simp only [List.cons.injEq, and_true] at e0 e1 e2
  subst e0; subst e1; subst e2
  have hc' := wf_i64 hc
  have hm' := wf_i64 hm
  exact ⟨D, c, m, rfl, rfl, rfl, hc'.1, hc'.2, hm'.1, hm'.2⟩

/-- a slice's address, where its first cell is there -/
theorem cell_spot {a : Addr} {u : Value} (h : W.cell? (a.add 0) = some u) : ∀ i, a.add i = ⟨a.block, a.off + i, none⟩ := by
  have hs : a.spot = none := by
    have h' : W.cell? a = some u := by simpa [Addr.add] using h
    unfold World.cell? at h'
    cases hsp : a.spot with
    | none => rfl
    | some k => simp [hsp] at h'; split at h' <;> cases h'
  intro i
  obtain ⟨b, o, s⟩ := a
  simp only at hs
  subst hs
  unfold Addr.add
  split <;> simp_all

theorem bulk_strs {H : Type} (ss : List ByteArray) : (joinL (ss.map fun s => s.data.toList)).length ≤ Rows.uptoBulkAll (strs (H := H) ss) := by
  induction ss with
  | nil => simp [joinL]
  | cons s ss ih =>
    have e : joinL ((s :: ss).map fun s => s.data.toList) = (s.data.toList ++ [10]) ++ joinL (ss.map fun s => s.data.toList) := by simp [joinL]
    rw [e, List.length_append]
    simp only [strs, List.map_cons, Rows.uptoBulkAll, Rows.uptoBulk] at ih ⊢
    simp
    omega

/-- an argument's slice of texts -/
theorem openStrs (hval : Value.okWide Tryd.prog W r b0 30 v) (hd : DataW.Trod enc Tryd.prog W base (fun _ => true) held 30 v d ps) :
    ∃ (u : Value) (ls : List (List UInt8)), v = u ∧ Strs W u ls ∧ (joinL ls).length ≤ Rows.uptoBulk d := by
  obtain ⟨fuel, hf⟩ := hd
  rcases open_strings Tryd.underlying30 Tryd.underlying9 cellsStr hf with ⟨h1, h2⟩ | ⟨a, len, cap, ss, h1, h2, h3, h4, h5, h6, h7, h8⟩
  · obtain ⟨a, n, c, rfl⟩ := okWide_slice Tryd.underlying30 hval
    simp only [Value.cells, List.cons.injEq, Value.slice.injEq, and_true] at h1
    obtain ⟨rfl, rfl, rfl⟩ := h1
    exact ⟨_, [], rfl, ⟨none, 0, rfl, Nat.le_refl _, by omega, fun i x h => by simp at h⟩, by simp [joinL]⟩
  · obtain ⟨a', n, c, rfl⟩ := okWide_slice Tryd.underlying30 hval
    simp only [Value.cells, List.cons.injEq, Value.slice.injEq, and_true] at h1
    obtain ⟨rfl, rfl, rfl⟩ := h1
    simp only [Prod.mk.injEq] at h6
    rw [if_pos rfl] at h5
    unfold maxLen at h4
    have hlen : ((ss.take n).map fun s => s.data.toList).length = n := by simp; omega
    refine ⟨_, (ss.take n).map fun s => s.data.toList, rfl, ⟨some a, c, by rw [hlen], by rw [hlen]; exact h3, h4, fun i x hx => ?_⟩, ?_⟩
    · have hi : i < n := by
        have := (List.getElem?_eq_some_iff.1 hx).1
        rw [hlen] at this
        exact this
      have hc0 := h7 0 (by omega)
      have hci := h7 i (by omega)
      have hsp := cell_spot hc0
      refine ⟨a.block, a.off, by have := hsp 0; simpa [Addr.add] using this, ?_⟩
      rw [← hsp i, hci]
      congr 1
      simp only [List.getElem?_map, List.getElem?_take, Option.map_eq_some_iff] at hx
      obtain ⟨b, hb, rfl⟩ := hx
      rw [if_pos hi] at hb
      rw [List.getD_eq_getElem?_getD, hb]
      rfl
    · have := bulk_strs (H := H) (ss.take n)
      rw [h6.1]
      simp only [Rows.uptoBulk]
      omega
end
end Go.Proofs.YtkclapimgmnldaaDoor
