/-
  The walk of FnRuleWords.
-/
import Derived.Test.YtkclapimgmnldaaDoorQRuleB
import Derived.Test.YtkclapimgmnldaaDoorQRuleW
import Derived.Test.YtkclapimgmnldaaDoorQTrueW
namespace Go.Proofs.YtkclapimgmnldaaDoor
set_option linter.unusedVariables false
set_option linter.unusedSimpArgs false
set_option maxRecDepth 20000
open Go.RowKit

/-- all bytes are below 128 -/
def plainB (t : List UInt8) : Bool := t.all fun b => decide (b.toNat < 128)
set_option maxHeartbeats 1000000 in
theorem plain_any (s : ByteArray) (w : World) (hs : s.size ≤ 4194304) : Calls Tryd.prog 26 #[.string s] w fun e w' => e = .returned (.bool (plainB s.data.toList)) ∧ w = w' := by
  have h0 : ∀ k (h : k < s.size), 128 ≤ s[k].toNat → plainB s.data.toList = false := fun k h hk => by
    unfold plainB
    rw [List.all_eq_false]
    refine ⟨s[k], ?_, by simpa using hk⟩
    have : s.data.toList[k]? = some s[k] := by simp [h]; rfl
    exact List.mem_of_getElem? this
  have h1 : (∀ k (h : k < s.size), s[k].toNat < 128) → plainB s.data.toList = true := fun ha => by
    unfold plainB
    rw [List.all_eq_true]
    intro b hb
    obtain ⟨k, hk, rfl⟩ := List.getElem_of_mem hb
    have hk' : k < s.size := by simpa using hk
    have := ha k hk'
    rw [decide_eq_true_eq]
    exact this
  have H0 := Lib.hid h0
  have H1 := Lib.hid h1
  clear h0 h1
  generalize plainB s.data.toList = pb at *
  go_enter Tryd.func26, Tryd.ntmps26
  go_wp2_with fail
  go_loopw [3] (fun iv wr => ∃ k : Nat, iv = .int .i64 (k : Int) ∧ k ≤ s.size ∧ wr = w ∧ Hid (∀ j (h : j < s.size), j < k → s[j].toNat < 128)) (fun iv _ => s.size - (intOf iv).toNat)
  case atStart => exact ⟨0, rfl, Nat.zero_le _, rfl, Lib.hid (fun j _ h => by omega)⟩
  case round =>
    obtain ⟨k, rfl, hk, rfl, hpre⟩ := hrel
    by_cases hlt : k < s.size
    · by_cases hb : s[k].toNat < 128
      · have e1 : decide (128 ≤ s[k].toNat) = false := by rw [decide_eq_false_iff_not]; omega
        have HN := Lib.hid (show Hid (∀ j (h : j < s.size), j < k + 1 → s[j].toNat < 128) from Lib.hid (fun j h hj => by
          by_cases hjk : j = k
          · subst hjk; exact hb
          · exact hpre.out j h (by omega)))
        clear hpre
        go_wp2_with fail
        go_roundw
        case rel => exact ⟨k + 1, by go_num, by omega, by first | rfl | trivial, HN.out⟩
        case measure => simp [intOf]; omega
      · have e1 : decide (128 ≤ s[k].toNat) = true := by rw [decide_eq_true_eq]; omega
        have hpb := H0.out k hlt (by omega)
        subst hpb
        clear hpre
        go_wp2_with fail
        go_ret
        exact ⟨rfl, rfl⟩
    · obtain rfl : k = s.size := by omega
      have hpb := H1.out (fun j h => hpre.out j h h)
      subst hpb
      clear hpre
      go_wp2_with fail
      go_ret
      exact ⟨rfl, rfl⟩

/-- the six spaces -/
def spN (k : Nat) : Nat := [9, 10, 11, 12, 13, 32].getD k 0
theorem spN_lt : ∀ k, k < 6 → spN k < 33 := by decide
/-- the breaks while they are set -/
def spTo (k : Nat) : List Bool := (List.range 33).map fun i => ([9, 10, 11, 12, 13, 32].take k).contains i
theorem spTo_len (k : Nat) : (spTo k).length = 33 := by simp [spTo]
theorem spTo_zero : spTo 0 = List.replicate 33 false := by decide
theorem spTo_succ : ∀ k, k < 6 → spTo (k + 1) = (spTo k).set (spN k) true := by decide
theorem spTo_all : spTo 6 = ruleSp.brks := by decide
abbrev spC : Array Value := #[.int .i64 9, .int .i64 10, .int .i64 11, .int .i64 12, .int .i64 13, .int .i64 32]
theorem spC_at : ∀ k, k < 6 → spC[k]? = some (.int .i64 ((spN k : Nat) : Int)) := by
  intro k hk
  obtain rfl | rfl | rfl | rfl | rfl | rfl : k = 0 ∨ k = 1 ∨ k = 2 ∨ k = 3 ∨ k = 4 ∨ k = 5 := by omega
  all_goals rfl
/-- the loop's memory -/
structure RwI (w : World) (g h k : Nat) (wr : World) : Prop where
  brk : BrkH wr g (spTo k)
  nums : wr.heap[h]? = some (.cells spC 3 (0, 0))
  bel : Below w.heap.size w wr
theorem RwI.put {w : World} {g h k : Nat} {wr : World} (hI : RwI w g h k wr) (hk : k < 6) (hgh : h ≠ g) (hg : w.heap.size ≤ g) : RwI w g h (k + 1) (wr.setCell ⟨g, spN k, none⟩ (.bool true)) :=
  ⟨by rw [spTo_succ k hk]; exact hI.brk.put _ _, (heap_setCell_not hgh _).trans hI.nums, hI.bel.setCell (p := ⟨g, spN k, none⟩) hg _⟩
theorem RwI.start {w w1 : World} (hb : Below w.heap.size w w1) : RwI w w1.heap.size (w1.heap.size + 1) 0 ((w1.alloc (.cells (madeCells #[.bool false] 33) 4)).alloc (.cells spC 3)) := by
  refine ⟨?_, ?_, ?_⟩
  · rw [spTo_zero]
    exact (BrkH.made w1 33).later ((Below.refl _ _).alloc (Nat.le_refl _) _)
  · have := heap_new (w1.alloc (.cells (madeCells #[.bool false] 33) 4)) (.cells spC 3)
    simpa using this
  · exact (hb.alloc hb.size _).alloc (by have := hb.size; simp; omega) _

section
variable {w : World} {E : Nat → Addr} {s : ByteArray}
set_option maxRecDepth 100000 in
set_option maxHeartbeats 2000000 in
theorem fnRuleW_t (hE : EnvW w.heap.size w E) (hs : s.size ≤ 1048576) (hp : plainB s.data.toList = true) (hl : wordedB s.data.toList true 0 0 = true) :
    Calls Tryd.prog 6 #[.string s] w (TrueB w) := by
  have HPl := Lib.hid (fun w' => plain_any s w' (by omega))
  rw [hp] at HPl
  have HL := Lib.hid (fun w' => worded_t (s := s) w' (by omega) true hl)
  have hf := wordedB_of hl
  have hll : s.data.toList.length = s.size := by simp
  have hpb : ∀ b ∈ s.data.toList, b.toNat < 128 := fun b hb => by
    unfold plainB at hp
    rw [List.all_eq_true] at hp
    simpa using hp b hb
  have hfit : fitsR ruleSp (limitN true 0 0) [] s.data.toList := fits_roomyW hpb hf.2
  have htk := words_ruled hpb
  have HA := Lib.hid (fun w' bp' bc' rl' (h1 : EnvC w.heap.size w' E) (h5 : BrksAt w' ruleSp.brks bp' rl') (h6 : ruleSp.brks.length ≤ bc' ∧ bc' ≤ 9223372036854775807) (h7 : rl'.Nodup) (h8 : ∀ k, k ∈ rl' → w.heap.size ≤ k ∧ k < w'.heap.size ∧ k ∉ ([] : List Nat)) =>
    byRule_any (s := s) (tog := false) (c := 0) (m := 0) true false h1 (PcsAt.none w.heap.size w') (by omega) rfl h5 h6 h7 h8 (REndC ruleSp 0 (toksR ruleSp [] s.data.toList) s.data.toList) (s.data.toList.length + 1) (by omega) (rule_all (tog := false) (by decide) _ hfit) (fun ts x h => rend_leB h))
  rw [htk] at HA
  have HI := Lib.hid (fun w' (h1 : EnvW w.heap.size w' E) => implWords_any (s := s) h1.c.e h1.t (by omega) hf.2)
  have HSp := Lib.hid (fun w' => specWordsG s w' (by omega))
  have HM : ∀ w, (Instr.makeSlice 27 (.int .i64 33) (.int .i64 33)).run Tryd.prog w = .ok (.slice (some ⟨w.heap.size, 0, none⟩) 33 33) (w.alloc (.cells (madeCells #[.bool false] 33) 4)) := fun w => make_bools w 33 (by omega)
  have HE := Lib.hid hE
  clear hE hl hf hfit hp hpb htk
  go_enter Tryd.func6, Tryd.ntmps6
  go_wp2_with fail
  refine (HPl.out _).mono ?_
  rintro e w0 ⟨rfl, rfl⟩
  go_wp2_with fail
  refine (HL.out _).mono ?_
  rintro e w1 ⟨rfl, hb1⟩
  have HS0 := Lib.hid (RwI.start hb1)
  have hg1 : w.heap.size ≤ w1.heap.size := hb1.size
  clear hb1
  go_wp2_with fail
  go_loopw [21] (fun iv wr => ∃ k : Nat, iv = .int .i64 (k : Int) ∧ k ≤ 6 ∧ Hid (RwI w w1.heap.size (w1.heap.size + 1) k wr)) (fun iv _ => 6 - (intOf iv).toNat)
  case atStart => exact ⟨0, rfl, by omega, HS0⟩
  case round =>
    obtain ⟨k, rfl, hk, hI⟩ := hrel
    by_cases hlt : k < 6
    · have hn := spN_lt k hlt
      have q0 : wr.cell? ⟨w1.heap.size + 1, k, none⟩ = some (.int .i64 ((spN k : Nat) : Int)) := (cell_of_heap hI.out.nums).trans (spC_at k hlt)
      obtain ⟨ob, q1⟩ : ∃ ob, wr.cell? ⟨w1.heap.size, spN k, none⟩ = some ob := ⟨_, hI.out.brk.cell (k := spN k) (by rw [spTo_len]; exact hn)⟩
      have q2 := hI.out.brk.frozen (spN k)
      have HP := Lib.hid (hI.out.put hlt (by omega) hg1)
      clear hI
      generalize spN k = sn at *
      go_wp2_with fail
      go_roundw
      case rel => exact ⟨k + 1, by go_num, by omega, HP⟩
      case measure => simp [intOf]; omega
    · obtain rfl : k = 6 := by omega
      have HK := Lib.hid (show BrkH wr w1.heap.size ruleSp.brks from by rw [← spTo_all]; exact hI.out.brk)
      have HB2 := Lib.hid hI.out.bel
      clear hI HS0 HM
      generalize w1.heap.size = g1 at *
      go_wp2_with fail
      refine (whole_b _ _).mono ?_
      rintro e w2 ⟨rfl, hb2⟩
      have HB3 := Lib.hid (bel_tr HB2.out hb2)
      have HK2 := Lib.hid (HK.out.later hb2)
      clear hb2
      go_wp2_with fail
      refine (room_b _).mono ?_
      rintro e w3 ⟨rfl, hb3⟩
      have HB4 := Lib.hid (bel_tr HB3.out hb3)
      have HK3 := Lib.hid (HK2.out.later hb3)
      clear hb3
      go_wp2_with fail
      have hlt3 : g1 < w3.heap.size := lt_of_heap HK3.out
      refine (HA.out _ (some ⟨g1, 0, none⟩) 33 [g1] (HE.out.c.later HB4.out) HK3.out.at ⟨by decide, by omega⟩ (by simp) (fun k hk => by simp at hk; subst hk; exact ⟨hg1, hlt3, by simp⟩)).mono ?_
      rintro e w4 ⟨ts, x, tv, ca, cn, cc, rfl, hP, hst, hcalls, hoff⟩
      have HB5 := Lib.hid (HB4.out.trans (hoff.below HB4.out.size (fun k hk => by simp at hk; subst hk; exact hg1)))
      obtain ⟨hts, hcd⟩ := rend_codeB rfl hP
      have HTs := Lib.hid (show ts = words s.data.toList from hts)
      have HST := Lib.hid (hst.strs)
      obtain ⟨ta, tc, rfl⟩ : ∃ a c, tv = .slice a ts.length c := by
        rcases hst.2 with ⟨h9, h0⟩ | ⟨g, cap, cur, h9, _⟩
        · exact ⟨none, 0, by rw [h9, h0]⟩
        · exact ⟨_, _, h9⟩
      generalize codeI (errOf x.err) = cd at *
      subst hcd
      clear hst hP hcalls hoff hts HK HK2 HK3 HB2 HB3 HB4 HL HA HPl
      go_wp2_with fail
      refine (HI.out _ (HE.out.later HB5.out)).mono ?_
      rintro e w5 ⟨v5, rfl, hst5, hb5⟩
      have HS5 := Lib.hid (HST.out.below hb5)
      have HT5 := Lib.hid (show Strs w5 v5 ts from by rw [HTs.out]; exact hst5.strs)
      have HB6 := Lib.hid (bel_tr HB5.out hb5)
      clear hst5 hb5
      go_wp2_with fail
      refine (same_yes _ _ _ _ HS5.out HT5.out).mono ?_
      rintro e w6 ⟨rfl, nn, rfl⟩
      go_wp2_with fail
      refine (HSp.out _).mono ?_
      rintro e w7 ⟨v7, rfl, hst7, hb7⟩
      obtain ⟨a7, c7, rfl⟩ : ∃ a c, v7 = .slice a (words s.data.toList).length c := by
        rcases hst7.2 with ⟨h9, h0⟩ | ⟨g, cap, cur, h9, _⟩
        · exact ⟨none, 0, by rw [h9, h0]⟩
        · exact ⟨_, _, h9⟩
      have HB7 := Lib.hid (bel_tr (bel_drew HB6.out nn) hb7)
      rw [← HTs.out]
      clear hst7 hb7 HTs
      go_wp2_with fail
      go_ret
      exact ⟨rfl, HB7.out⟩
/-- FnRuleWords -/
theorem fnRuleWords_walk (hE : EnvW w.heap.size w E) (hs : s.size ≤ 1048576) :
    Calls Tryd.prog 6 #[.string s] w (TrueB w) := by
  cases hp : plainB s.data.toList with
  | false =>
    have HPl := Lib.hid (fun w' => plain_any s w' (by omega))
    rw [hp] at HPl
    clear hE hp
    go_enter Tryd.func6, Tryd.ntmps6
    go_wp2_with fail
    refine (HPl.out _).mono ?_
    rintro e w0 ⟨rfl, rfl⟩
    go_wp2_with fail
    go_ret
    exact ⟨rfl, Below.refl _ _⟩
  | true =>
    cases hl : wordedB s.data.toList true 0 0 with
    | true => exact fnRuleW_t hE hs hp hl
    | false =>
      have HPl := Lib.hid (fun w' => plain_any s w' (by omega))
      rw [hp] at HPl
      have HL := Lib.hid (fun w' => worded_t (s := s) w' (by omega) false hl)
      clear hE hp hl
      go_enter Tryd.func6, Tryd.ntmps6
      go_wp2_with fail
      refine (HPl.out _).mono ?_
      rintro e w0 ⟨rfl, rfl⟩
      go_wp2_with fail
      refine (HL.out _).mono ?_
      rintro e w1 ⟨rfl, hb1⟩
      go_wp2_with fail
      go_ret
      exact ⟨rfl, hb1⟩
end
end Go.Proofs.YtkclapimgmnldaaDoor
