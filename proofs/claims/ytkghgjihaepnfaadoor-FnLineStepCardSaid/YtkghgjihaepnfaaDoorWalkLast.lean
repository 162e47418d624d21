/-
  The walk of FnLinesLastReturn.
-/
import Derived.Test.YtkghgjihaepnfaaDoorWalkA
import Derived.Test.YtkghgjihaepnfaaDoorFacts
namespace Go.Proofs.YtkghgjihaepnfaaDoor
set_option linter.unusedVariables false
set_option linter.unusedSimpArgs false
open Go.RowKit

section
variable {base : Nat} {w : World} {E : Nat → Addr} {s : ByteArray}

theorem loose_t (s : ByteArray) (w : World) (hs : s.size ≤ 9223372036854775807) (b : Bool) (h : looseB s.data.toList = b) : Calls Tryd.prog 17 #[.string s] w fun e w' => e = .returned (.bool b) ∧ w = w' := by
  subst h
  exact loose_any s w hs

/-- behind a store at the last place -/
theorem strs_last {b : Nat} {w : World} {l : List (List UInt8)} {z : List UInt8} {g cap : Nat} (h : StrsAt b w (.slice (some ⟨g, 0, none⟩) (l.length + 1) cap) (l ++ [z])) (z' : List UInt8) :
    Strs (w.setCell ⟨g, l.length, none⟩ (sv z')) (.slice (some ⟨g, 0, none⟩) (l.length + 1) cap) (l ++ [z']) := by
  obtain ⟨h1, h2⟩ := h
  rcases h2 with ⟨h2, -⟩ | ⟨g', cap', cur, e, h3, h4, h5, h6, h7, h8⟩
  · cases h2
  · simp only [Value.slice.injEq, Option.some.injEq, Addr.mk.injEq, and_true] at e
    obtain ⟨rfl, -, rfl⟩ := e
    have hll : (l ++ [z]).length = l.length + 1 := by simp
    rw [Nat.mul_one, hll] at h8
    rw [Nat.mul_one] at h7
    rw [hll] at h5
    refine ⟨_, cap, by simp, by simpa using h5, h6, fun i x hx => ⟨g, 0, rfl, ?_⟩⟩
    have hi : i < l.length + 1 := by
      have := (List.getElem?_eq_some_iff.1 hx).1
      simpa using this
    rw [cell_of_heap (heap_setCell_at h4 _), Nat.zero_add, Array.getElem?_setIfInBounds]
    by_cases hil : l.length = i
    · subst hil
      rw [if_pos rfl, if_pos (by omega)]
      simp at hx
      rw [hx]
    · rw [if_neg hil]
      have hil' : i < l.length := by omega
      rw [List.getElem?_append_left hil'] at hx
      have := congrArg (fun y => y[i]?) h8
      simp only [List.getElem?_take] at this
      rw [if_pos hi] at this
      rw [← Array.getElem?_toList, this]
      rw [List.map_append, List.getElem?_append_left (by simpa using hil')]
      simp [hx]

set_option maxHeartbeats 1000000 in
theorem fnLinesLastReturn_walk (hE : Env w.heap.size w E) (hs : s.size ≤ 4194304) : Calls Tryd.prog 12 #[.string s] w (TrueB w) := by
  have hlen : s.data.toList.length = s.size := by simp
  cases hl : looseB s.data.toList with
  | false =>
    have HL := Lib.hid (loose_t s w (by omega) false hl)
    clear hl hE
    go_enter Tryd.func12, Tryd.ntmps12
    go_wp2_with fail
    refine HL.out.mono ?_
    rintro e w1 ⟨rfl, rfl⟩
    go_wp2_with fail
    go_ret
    exact ⟨rfl, Below.refl _ _⟩
  | true =>
    have HL := Lib.hid (loose_t s w (by omega) true hl)
    have HS := Lib.hid (fun w' => specLinesG s w' hs)
    have HX := Lib.hid (fun x hx => Nat.le_trans (lines_each (t := s.data.toList) x hx) (by omega : s.data.toList.length ≤ 9000000000000000000))
    cases hbl : belowB (lines s.data.toList) 2 65536 with
    | false =>
      have HBl := Lib.hid (fun v w' (h : Strs w' v (lines s.data.toList)) => below_any v _ 2 65536 w' h (by omega) (by omega) HX.out)
      rw [hbl] at HBl
      clear hl hE hbl hlen
      go_enter Tryd.func12, Tryd.ntmps12
      go_wp2_with fail
      refine HL.out.mono ?_
      rintro e w1 ⟨rfl, rfl⟩
      go_wp2_with fail
      refine (HS.out _).mono ?_
      rintro e w1 ⟨v, rfl, hst, hb⟩
      have HST := Lib.hid hst.strs
      have HB := Lib.hid hb
      clear hst hb
      go_wp2_with fail
      refine (HBl.out _ _ HST.out).mono ?_
      rintro e w2 ⟨rfl, rfl⟩
      go_wp2_with fail
      go_ret
      exact ⟨rfl, HB.out⟩
    | true =>
      have HBl := Lib.hid (fun v w' (h : Strs w' v (lines s.data.toList)) => below_any v _ 2 65536 w' h (by omega) (by omega) HX.out)
      rw [hbl] at HBl
      have hroom : Roomy 65536 s.data.toList := belowB_roomy (n := 65536) hbl
      have HI := Lib.hid (fun w' (h : Env w.heap.size w' E) => implLines_any (s := s) h hs hroom)
      have hlast : s.data.toList.getLast? = some 13 := by simpa [looseB] using hl
      obtain ⟨l, z, e1, e2, e3⟩ := tokens_loose _ s.data.toList (Nat.le_refl _) hlast
      have hzl : z.length ≤ 4194304 := by
        have := lines_each (t := s.data.toList) z (by rw [e1]; simp)
        omega
      have hll : l.length + 1 ≤ 4194304 := by
        have := lines_len s.data.toList
        rw [e1] at this
        simp at this
        omega
      have hz0 : 0 < z.length := by
        cases z with
        | nil => simp at e2
        | cons _ _ => simp
      have hzd : Value.string ((⟨z.toArray⟩ : ByteArray).extract 0 (z.length - 1)) = sv z.dropLast := by
        rw [sv_extract]
        simp [List.dropLast_eq_take]
      rw [e3] at HI
      rw [e1] at HS HBl
      have HE := Lib.hid hE
      have HZ := Lib.hid hzd
      clear hl hE hbl hlen hroom hlast e1 e2 e3 hzd HX
      go_enter Tryd.func12, Tryd.ntmps12
      go_wp2_with fail
      refine HL.out.mono ?_
      rintro e w1 ⟨rfl, rfl⟩
      go_wp2_with fail
      refine (HS.out _).mono ?_
      rintro e w1 ⟨v, rfl, hst, hb⟩
      have HST := Lib.hid hst.strs
      have HB := Lib.hid hb
      clear hst hb
      go_wp2_with fail
      refine (HBl.out _ _ HST.out).mono ?_
      rintro e w2 ⟨rfl, rfl⟩
      go_wp2_with fail
      refine (HS.out _).mono ?_
      rintro e w2 ⟨v', rfl, hst, hb⟩
      have HB2 := Lib.hid (below_step HB.out hb)
      have hst0 := hst
      obtain ⟨h1, h2⟩ := hst
      rcases h2 with ⟨-, h2⟩ | ⟨g, cap, cur, rfl, h3, h4, h5, h6, h7, h8⟩
      · simp at h2
      · rw [show (l ++ [z]).length = l.length + 1 by simp] at *
        have HST2 := Lib.hid (strs_last hst0 z.dropLast)
        have hst3 := hst0.strs
        obtain ⟨a, cap', e4, _, _, h9⟩ := hst3
        simp only [List.length_append, List.length_singleton, Value.slice.injEq] at e4
        obtain ⟨rfl, -, rfl⟩ := e4
        obtain ⟨b, o, e5, hcell⟩ := h9 l.length z (by simp)
        simp only [Option.some.injEq, Addr.mk.injEq, and_true] at e5
        obtain ⟨rfl, rfl⟩ := e5
        rw [Nat.zero_add] at hcell
        have hfr := frozen_of_heap h4 l.length
        have hgB : w.heap.size ≤ g := Nat.le_trans HB.out.size h3
        have HG := Lib.hid hgB
        unfold maxLen at h6
        clear h1 h8 hst0 hb h9 h4 h3 h7 hgB
        go_wp2_with fail
        rw [HZ.out]
        have HB3 := Lib.hid (HB2.out.setCell (p := ⟨g, l.length, none⟩) HG.out (sv z.dropLast))
        refine (HI.out _ (HE.out.later HB3.out)).mono ?_
        rintro e w3 ⟨v3, rfl, hst, hb⟩
        have HB4 := Lib.hid (below_step HB3.out hb)
        have HST3 := Lib.hid (HST2.out.below hb)
        have HST4 := Lib.hid hst.strs
        clear hst hb HB3
        go_wp2_with fail
        refine (same_yes _ _ _ _ HST4.out HST3.out).mono ?_
        rintro e w4 ⟨rfl, n, rfl⟩
        go_wp2_with fail
        go_ret
        exact ⟨rfl, below_drewN HB4.out n⟩
end
end Go.Proofs.YtkghgjihaepnfaaDoor
