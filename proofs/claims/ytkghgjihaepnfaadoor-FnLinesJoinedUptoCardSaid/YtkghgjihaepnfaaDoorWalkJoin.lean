/-
  The walk of FnLinesJoined.
-/
import Derived.Test.YtkghgjihaepnfaaDoorWalkAgain
import Derived.Test.YtkghgjihaepnfaaDoorApp
namespace Go.Proofs.YtkghgjihaepnfaaDoor
set_option linter.unusedVariables false
set_option linter.unusedSimpArgs false
open Go.RowKit

section
variable {base : Nat} {w : World} {E : Nat → Addr} {a b : ByteArray}

abbrev nlB : ByteArray := ⟨#[10]⟩
theorem ba_nl (a : ByteArray) : (a ++ nlB).data.toList = a.data.toList ++ [10] := by rw [ba_append]
theorem ba_nl_b (a b : ByteArray) : (a ++ nlB ++ b).data.toList = a.data.toList ++ 10 :: b.data.toList := by rw [ba_append, ba_append]; simp
theorem ba_sz (a : ByteArray) : a.data.toList.length = a.size := by simp

abbrev room0 : Obj := .cells #[.bool true, .int .i64 0, .int .i64 0] 29
theorem room_at {w w' : World} (hb : Below (w.alloc room0).heap.size (w.alloc room0) w') : w'.cell? ⟨w.heap.size, 0, none⟩ = some (.bool true) ∧ w'.cell? ⟨w.heap.size, 1, none⟩ = some (.int .i64 0) ∧ w'.cell? ⟨w.heap.size, 2, none⟩ = some (.int .i64 0) := by
  have h : (w.alloc room0).heap[w.heap.size]? = some room0 := heap_new w room0
  have h2 : w'.heap[w.heap.size]? = some room0 := (hb.block _ (by simp)).trans h
  exact ⟨cell_of_heap h2, cell_of_heap h2, cell_of_heap h2⟩

set_option maxHeartbeats 1000000 in
theorem fnLinesJoined_f1 (hs : (a ++ nlB).size ≤ 4194304) (ha : a.size ≤ 4194304) (h1 : linedB (a ++ nlB).data.toList true 0 0 = false) : Calls Tryd.prog 11 #[.string a, .string b] w (TrueB w) := by
  have HL := Lib.hid (fun w' => lined_t (s := a ++ nlB) w' hs false h1)
  clear h1
  go_enter Tryd.func11, Tryd.ntmps11
  go_wp2_with fail
  refine (HL.out _).mono ?_
  rintro e w1 ⟨rfl, hb⟩
  go_wp2_with fail
  go_ret
  exact ⟨rfl, below_step ((Below.refl _ _).alloc (Nat.le_refl _) _) hb⟩

set_option maxHeartbeats 1000000 in
theorem fnLinesJoined_f2 (hs : (a ++ nlB).size ≤ 4194304) (ha : a.size ≤ 4194304) (hbs : b.size ≤ 4194304) (h1 : linedB (a ++ nlB).data.toList true 0 0 = true) (h2 : linedB b.data.toList true 0 0 = false) : Calls Tryd.prog 11 #[.string a, .string b] w (TrueB w) := by
  have HL := Lib.hid (fun w' => lined_t (s := a ++ nlB) w' hs true h1)
  have HL2 := Lib.hid (fun w' => lined_t (s := b) w' hbs false h2)
  clear h1 h2
  go_enter Tryd.func11, Tryd.ntmps11
  go_wp2_with fail
  refine (HL.out _).mono ?_
  rintro e w1 ⟨rfl, hb⟩
  obtain ⟨hc, hf⟩ := bcell hb
  have HB := Lib.hid (below_step ((Below.refl _ _).alloc (Nat.le_refl _) _) hb)
  clear hb
  go_wp2_with fail
  refine (HL2.out _).mono ?_
  rintro e w2 ⟨rfl, hb⟩
  clear hc hf
  go_wp2_with fail
  go_ret
  exact ⟨rfl, below_step HB.out hb⟩

set_option maxHeartbeats 1000000 in
theorem fnLinesJoined_f3 (hs : (a ++ nlB).size ≤ 4194304) (ha : a.size ≤ 4194304) (hbs : b.size ≤ 4194304) (hab : (a ++ nlB ++ b).size ≤ 4194304) (h1 : linedB (a ++ nlB).data.toList true 0 0 = true) (h2 : linedB b.data.toList true 0 0 = true) (h3 : linedB (a ++ nlB ++ b).data.toList true 0 0 = false) : Calls Tryd.prog 11 #[.string a, .string b] w (TrueB w) := by
  have HL := Lib.hid (fun w' => lined_t (s := a ++ nlB) w' hs true h1)
  have HL2 := Lib.hid (fun w' => lined_t (s := b) w' hbs true h2)
  have HL3 := Lib.hid (fun w' => lined_t (s := a ++ nlB ++ b) w' hab false h3)
  clear h1 h2 h3
  go_enter Tryd.func11, Tryd.ntmps11
  go_wp2_with fail
  refine (HL.out _).mono ?_
  rintro e w1 ⟨rfl, hb⟩
  obtain ⟨hc, hf⟩ := bcell hb
  have HB := Lib.hid (below_step ((Below.refl _ _).alloc (Nat.le_refl _) _) hb)
  have HR := Lib.hid hb
  clear hb
  go_wp2_with fail
  refine (HL2.out _).mono ?_
  rintro e w2 ⟨rfl, hb⟩
  obtain ⟨hc2, hf2, hg2⟩ := room_at (below_step HR.out hb)
  have HB2 := Lib.hid (below_step HB.out hb)
  clear hb HB HR
  go_wp2_with fail
  refine (HL3.out _).mono ?_
  rintro e w3 ⟨rfl, hb⟩
  clear hc hf hc2 hf2 hg2
  go_wp2_with fail
  go_ret
  exact ⟨rfl, below_step HB2.out hb⟩

set_option maxHeartbeats 1000000 in
theorem fnLinesJoined_t (hE : Env w.heap.size w E) (hs : (a ++ nlB).size ≤ 4194304) (ha : a.size ≤ 4194304) (hbs : b.size ≤ 4194304) (hab : (a ++ nlB ++ b).size ≤ 4194304) (h1 : linedB (a ++ nlB).data.toList true 0 0 = true) (h2 : linedB b.data.toList true 0 0 = true) (h3 : linedB (a ++ nlB ++ b).data.toList true 0 0 = true) : Calls Tryd.prog 11 #[.string a, .string b] w (TrueB w) := by
  obtain ⟨i0, hi, hz0, hz1, hz2⟩ := info_parts info_str
  have HL := Lib.hid (fun w' => lined_t (s := a ++ nlB) w' hs true h1)
  have HL2 := Lib.hid (fun w' => lined_t (s := b) w' hbs true h2)
  have HL3 := Lib.hid (fun w' => lined_t (s := a ++ nlB ++ b) w' hab true h3)
  have HI := Lib.hid (fun w' (h : Env w.heap.size w' E) => implLines_any (s := a ++ nlB) h hs (LinedF.of h1).roomy)
  rw [(LinedF.of h1).tokens] at HI
  have HI2 := Lib.hid (fun w' (h : Env w.heap.size w' E) => implLines_any (s := b) h hbs (LinedF.of h2).roomy)
  rw [(LinedF.of h2).tokens] at HI2
  have HI3 := Lib.hid (fun w' (h : Env w.heap.size w' E) => implLines_any (s := a ++ nlB ++ b) h hab (LinedF.of h3).roomy)
  rw [(LinedF.of h3).tokens, ba_nl_b, lines_join, ← ba_nl] at HI3
  have hne : 0 < (lines (a ++ nlB).data.toList).length := by
    rw [ba_nl]
    cases hn : nlAt (a.data.toList ++ [10]) with
    | none => exact absurd (by simp) (nlAt_none hn a.data.toList.length)
    | some i => rw [lines_some hn]; simp
  have hxl := lines_len (a ++ nlB).data.toList
  have hyl := lines_len b.data.toList
  rw [ba_sz] at hxl hyl
  have HE := Lib.hid hE
  clear h1 h2 h3 hE
  generalize lines (a ++ nlB).data.toList = xs at *
  generalize lines b.data.toList = ys at *
  go_enter Tryd.func11, Tryd.ntmps11
  go_wp2_with fail
  refine (HL.out _).mono ?_
  rintro e w1 ⟨rfl, hb⟩
  obtain ⟨hc, hf⟩ := bcell hb
  have HB := Lib.hid (below_step ((Below.refl _ _).alloc (Nat.le_refl _) _) hb)
  have HR := Lib.hid hb
  clear hb
  go_wp2_with fail
  refine (HL2.out _).mono ?_
  rintro e w2 ⟨rfl, hb⟩
  obtain ⟨hc2, hf2, hg2⟩ := room_at (below_step HR.out hb)
  have HB2 := Lib.hid (below_step HB.out hb)
  clear hb HB HR
  go_wp2_with fail
  refine (HL3.out _).mono ?_
  rintro e w3 ⟨rfl, hb⟩
  have HB3 := Lib.hid (below_step HB2.out hb)
  clear hc hf hc2 hf2 hg2 hb HB2
  go_wp2_with fail
  refine (HI.out _ (HE.out.later HB3.out)).mono ?_
  rintro e w4 ⟨v4, rfl, hst, hb⟩
  have HB4 := Lib.hid (below_step HB3.out hb)
  have HX := Lib.hid (hst.mono HB3.out.size)
  clear hst hb HB3
  go_wp2_with fail
  refine (HI2.out _ (HE.out.later HB4.out)).mono ?_
  rintro e w5 ⟨v5, rfl, hst, hb⟩
  have HB5 := Lib.hid (below_step HB4.out hb)
  have HX5 := Lib.hid (HX.out.below hb)
  have HY5 := Lib.hid hst
  clear hst hb HB4 HX
  obtain ⟨x4, c4, e4, -, -, -⟩ := HX5.out.strs
  subst e4
  go_wp2_with fail
  refine (HI3.out _ (HE.out.later HB5.out)).mono ?_
  rintro e w6 ⟨v6, rfl, hst, hb⟩
  have HB6 := Lib.hid (below_step HB5.out hb)
  have HX6 := Lib.hid (HX5.out.below hb)
  have HY6 := Lib.hid (HY5.out.below hb).strs
  have hap : ∀ bb o k c, v6 = .slice (some ⟨bb, o, none⟩) k c → (Value.slice x4 xs.length c4).ownBlock ≠ some bb := by
    intro bb o k c e6 e7
    have h7 := (World.ownsRow.lt HX5.out bb e7).2
    have h6 := (World.ownsRow.lt hst bb (by rw [e6]; rfl)).1
    omega
  have HZ6 := Lib.hid (And.intro hst.strs hap)
  clear hap
  clear hst hb HB5 HX5 HY5
  have hnn : (xs.length + ys.length) * 16 ≤ 140737488355328 := by omega
  have HNN := Lib.hid hnn
  clear hnn
  go_wp2_with (refine wpList_append_strs (by rfl) (.tmp 43) (.tmp 44) (by rfl) w.heap.size _ _ xs ys (by rfl) (by rfl) HX6.out HY6.out HNN.out HB6.out.size ?_)
  intro v7 w7 hst hgr hat
  have HB7 := Lib.hid (HB6.out.trans (grown_below HX6.out HB6.out.size hgr))
  have HZ7 := Lib.hid (grown_strs HZ6.out.1 HZ6.out.2 hgr)
  have HV7 := Lib.hid hst.strs
  clear hst hgr hat HB6 HX6 HY6 HZ6
  go_wp2_with fail
  refine (same_yes _ _ _ _ HZ7.out HV7.out).mono ?_
  rintro e w8 ⟨rfl, n, rfl⟩
  go_wp2_with fail
  go_ret
  exact ⟨rfl, below_drewN HB7.out n⟩

theorem fnLinesJoined_walk (hE : Env w.heap.size w E) (hs : a.size + b.size ≤ 4194303) : Calls Tryd.prog 11 #[.string a, .string b] w (TrueB w) := by
  have h1 : (a ++ nlB).size = a.size + 1 := by
    rw [← ba_sz, ba_nl, List.length_append, ba_sz]; rfl
  have h2 : (a ++ nlB ++ b).size = a.size + 1 + b.size := by
    rw [← ba_sz, ba_nl_b, List.length_append, List.length_cons, ba_sz, ba_sz]; omega
  cases c1 : linedB (a ++ nlB).data.toList true 0 0 with
  | false => exact fnLinesJoined_f1 (by omega) (by omega) c1
  | true =>
    cases c2 : linedB b.data.toList true 0 0 with
    | false => exact fnLinesJoined_f2 (by omega) (by omega) (by omega) c1 c2
    | true =>
      cases c3 : linedB (a ++ nlB ++ b).data.toList true 0 0 with
      | false => exact fnLinesJoined_f3 (by omega) (by omega) (by omega) (by omega) c1 c2 c3
      | true => exact fnLinesJoined_t hE (by omega) (by omega) (by omega) (by omega) c1 c2 c3
end
end Go.Proofs.YtkghgjihaepnfaaDoor
