/-
  The walk of FnRuleLines.
-/
import Derived.Test.YtkclapimgmnldaaDoorQRuleB
import Derived.Test.YtkclapimgmnldaaDoorQRuleL
namespace Go.Proofs.YtkclapimgmnldaaDoor
set_option linter.unusedVariables false
set_option linter.unusedSimpArgs false
set_option maxRecDepth 20000
open Go.RowKit

/-- the first k tokens without their carriage returns -/
def mixCR (ts : List (List UInt8)) (k : Nat) : List (List UInt8) := (ts.take k).map noCR ++ ts.drop k
theorem mixCR_zero (ts : List (List UInt8)) : mixCR ts 0 = ts := by simp [mixCR]
theorem mixCR_all (ts : List (List UInt8)) : mixCR ts ts.length = ts.map noCR := by simp [mixCR]
theorem mixCR_len (ts : List (List UInt8)) {k : Nat} (h : k ≤ ts.length) : (mixCR ts k).length = ts.length := by simp [mixCR]; omega
theorem mixCR_at (ts : List (List UInt8)) {k : Nat} (h : k < ts.length) : (mixCR ts k)[k]? = some ts[k] := by
  unfold mixCR
  rw [List.getElem?_append_right (by simp; omega)]
  simp [Nat.min_eq_left (Nat.le_of_lt h), h]
theorem mixCR_succ (ts : List (List UInt8)) {k : Nat} (h : k < ts.length) : mixCR ts (k + 1) = (mixCR ts k).set k (noCR ts[k]) := by
  unfold mixCR
  rw [List.set_append_right _ _ (by simp; omega)]
  rw [List.take_succ_eq_append_getElem h, List.map_append, List.append_assoc]
  congr 1
  have : k - ((ts.take k).map noCR).length = 0 := by simp; omega
  rw [this, List.drop_eq_getElem_cons h]
  rfl
theorem mixCR_keep (ts : List (List UInt8)) {k : Nat} (h : k < ts.length) (hl : looseB ts[k] = false) : mixCR ts (k + 1) = mixCR ts k := by
  rw [mixCR_succ ts h]
  have : noCR ts[k] = ts[k] := by
    unfold noCR
    rw [if_neg]
    intro h1
    unfold looseB at hl
    rw [h1] at hl
    simp at hl
  rw [this]
  obtain ⟨h1, h2⟩ := List.getElem?_eq_some_iff.1 (mixCR_at ts h)
  rw [← h2, List.set_getElem_self]
/-- the k-th of a list of texts of one's own, in memory -/
theorem strs_at {base k : Nat} {w : World} {v : Value} {xs : List (List UInt8)} (h : StrsAt base w v xs) (hk : k < xs.length) : ∃ g cap, v = .slice (some ⟨g, 0, none⟩) xs.length cap ∧ base ≤ g ∧ xs.length ≤ cap ∧ cap ≤ 9223372036854775807 ∧ w.cell? ⟨g, k, none⟩ = some (sv xs[k]) ∧ w.frozen? ⟨g, k, none⟩ = false := by
  have h' := h
  obtain ⟨h1, h2⟩ := h
  rcases h2 with ⟨_, h0⟩ | ⟨g, cap, cur, rfl, h3, h4, h5, h6, h7, h8⟩
  · omega
  · refine ⟨g, cap, rfl, h3, h5, by unfold maxLen at h6; omega, ?_, frozen_of_heap h4 k⟩
    have h9 := World.ownsRow.cells h' rfl k (sv xs[k]) (by simp [hk])
    have hplain : (⟨g, 0, none⟩ : Addr).add k = ⟨g, 0 + k, none⟩ := by unfold Addr.add; split <;> simp_all
    rw [hplain, Nat.zero_add] at h9
    exact h9
theorem strs_form {base : Nat} {w : World} {v : Value} {xs : List (List UInt8)} (h : StrsAt base w v xs) : ∃ a c, v = .slice a xs.length c := by
  rcases h.2 with ⟨h9, h0⟩ | ⟨g, cap, cur, h9, _⟩
  · exact ⟨none, 0, by rw [h9, h0]⟩
  · exact ⟨_, _, h9⟩
theorem brkNL (w : World) : BrkH (w.alloc (.cells ((madeCells #[.bool false] 11).setIfInBounds 10 (.bool true)) 4)) w.heap.size ruleNL.brks := by
  unfold BrkH
  rw [heap_new w _]
  congr 2
  apply Array.toList_inj.1
  rw [Array.toList_setIfInBounds, toList_madeCells_one]
  rfl

section
variable {w : World} {E : Nat → Addr} {s : ByteArray}
set_option maxRecDepth 100000 in
set_option maxHeartbeats 2000000 in
theorem fnRuleL_t (hE : EnvC w.heap.size w E) (hs : s.size ≤ 1048576) (hl : linedB s.data.toList true 0 0 = true) :
    Calls Tryd.prog 5 #[.string s] w (TrueB w) := by
  have HL := Lib.hid (fun w' => lined_t (s := s) w' (by omega) true hl)
  have hf := LinedF.of hl
  have hll : s.data.toList.length = s.size := by simp
  have hfit : fitsR ruleNL (limitN true 0 0) [] s.data.toList := fits_roomy (by decide) hf.roomy
  obtain ⟨hmap, hno⟩ := lines_ruled hf.last
  have HA := Lib.hid (fun w' bp' bc' rl' (h1 : EnvC w.heap.size w' E) (h5 : BrksAt w' ruleNL.brks bp' rl') (h6 : ruleNL.brks.length ≤ bc' ∧ bc' ≤ 9223372036854775807) (h7 : rl'.Nodup) (h8 : ∀ k, k ∈ rl' → w.heap.size ≤ k ∧ k < w'.heap.size ∧ k ∉ ([] : List Nat)) =>
    byRule_any (s := s) (tog := false) (c := 0) (m := 0) true false h1 (PcsAt.none w.heap.size w') (by omega) rfl h5 h6 h7 h8 (REndC ruleNL 0 (toksR ruleNL [] s.data.toList) s.data.toList) (s.data.toList.length + 1) (by omega) (rule_all (tog := false) (by decide) _ hfit) (fun ts x h => rend_leB h))
  have HI := Lib.hid (fun w' (h1 : Env w.heap.size w' E) => implLines_any (s := s) h1 (by omega) hf.roomy)
  rw [hf.tokens] at HI
  have HSp := Lib.hid (fun w' => specLinesG s w' (by omega))
  have HM : ∀ w, (Instr.makeSlice 27 (.int .i64 11) (.int .i64 11)).run Tryd.prog w = .ok (.slice (some ⟨w.heap.size, 0, none⟩) 11 11) (w.alloc (.cells (madeCells #[.bool false] 11) 4)) := fun w => make_bools w 11 (by omega)
  have HE := Lib.hid hE
  clear hE hl hf hfit
  go_enter Tryd.func5, Tryd.ntmps5
  go_wp2_with fail
  refine (HL.out _).mono ?_
  rintro e w1 ⟨rfl, hb1⟩
  have HB1 := Lib.hid hb1
  have hk1 := (BrkH.made w1 11)
  have q1 := hk1.cell (k := 10) (by simp)
  have q2 := hk1.frozen 10
  simp at q1
  go_wp2_with fail
  clear hk1 q1 q2 HM
  have HK := Lib.hid (brkNL w1)
  have HB2 := Lib.hid (show Below w.heap.size w (w1.alloc (.cells ((madeCells #[.bool false] 11).setIfInBounds 10 (.bool true)) 4)) from HB1.out.alloc HB1.out.size _)
  have hg1 : w.heap.size ≤ w1.heap.size := HB1.out.size
  generalize (w1.alloc (.cells ((madeCells #[.bool false] 11).setIfInBounds 10 (.bool true)) 4)) = wa at *
  generalize w1.heap.size = g1 at *
  clear hb1 HB1
  refine (whole_b _ _).mono ?_
  rintro e w2 ⟨rfl, hb2⟩
  have HB3 := Lib.hid (bel_tr HB2.out hb2)
  have HK2 := Lib.hid (HK.out.later hb2)
  clear hb2
  go_wp2_with fail
  refine (room_b _).mono ?_
  rintro e w3 ⟨rfl, hb3⟩
  have HB4 := Lib.hid (bel_tr HB3.out hb3)
  have HK3 := Lib.hid (HK2.out.later hb3)
  clear hb3
  go_wp2_with fail
  have hlt3 : g1 < w3.heap.size := lt_of_heap HK3.out
  refine (HA.out _ (some ⟨g1, 0, none⟩) 11 [g1] (HE.out.later HB4.out) HK3.out.at ⟨by decide, by omega⟩ (by simp) (fun k hk => by simp at hk; subst hk; exact ⟨hg1, hlt3, by simp⟩)).mono ?_
  rintro e w4 ⟨ts, x, tv, ca, cn, cc, rfl, hP, hst, hcalls, hoff⟩
  have HB5 := Lib.hid (HB4.out.trans (hoff.below HB4.out.size (fun k hk => by simp at hk; subst hk; exact hg1)))
  obtain ⟨hts, hcd⟩ := rend_codeB hno hP
  rw [← hts] at hmap
  have hz3 := HB4.out.size
  have hlen : ∀ y ∈ ts, y.length ≤ 4194304 := fun y hy => by
    have h1 := lines_each (t := s.data.toList) (noCR y) (by rw [← hmap]; exact List.mem_map_of_mem hy)
    have h2 := noCR_len y
    omega
  have HLen := Lib.hid hlen
  have HMap := Lib.hid hmap
  have HST := Lib.hid hst
  generalize codeI (errOf x.err) = cd at *
  subst hcd
  obtain ⟨ta, tc, rfl⟩ := strs_form hst
  clear hlen hmap hst hP hcalls hoff hts hno HK HK2 HK3 HB2 HB3 HB4 HL HA
  go_wp2_with fail
  go_loopw [28] (fun iv wr => ∃ k : Nat, iv = .int .i64 (k : Int) ∧ k ≤ ts.length ∧ StrsAt w3.heap.size wr (.slice ta ts.length tc) (mixCR ts k) ∧ Below w.heap.size w wr) (fun iv _ => ts.length - (intOf iv).toNat)
  case atStart => exact ⟨0, rfl, Nat.zero_le _, by rw [mixCR_zero]; exact HST.out, HB5.out⟩
  case round =>
    obtain ⟨k, rfl, hk, hst, hbw⟩ := hrel
    by_cases hlt : k < ts.length
    · have hml := mixCR_len ts hk
      obtain ⟨g, cap, e1, hg, hc1, hc2, hc, hfz⟩ := strs_at hst (by rw [hml]; exact hlt)
      rw [hml] at e1 hc1
      simp only [Value.slice.injEq, true_and] at e1
      obtain ⟨rfl, rfl⟩ := e1
      have hmk : (mixCR ts k)[k]'(by rw [hml]; exact hlt) = ts[k] := by
        have := mixCR_at ts hlt
        exact Option.some.inj ((List.getElem?_eq_getElem (by rw [hml]; exact hlt)).symm.trans this)
      rw [hmk] at hc
      have hyl := HLen.out ts[k] (List.getElem_mem hlt)
      obtain ⟨db, hdb1, hdb2⟩ : ∃ db : ByteArray, sv ts[k] = .string db ∧ db.data.toList = ts[k] := ⟨⟨ts[k].toArray⟩, rfl, by simp⟩
      rw [hdb1] at hc
      have hdl : db.data.toList.length = db.size := by simp
      rw [hdb2] at hdl
      have HLo := Lib.hid (loose_any db wr (by omega))
      rw [hdb2] at HLo
      have HS1 := Lib.hid (And.intro hst hbw)
      cases hlo : looseB ts[k] with
      | true =>
        rw [hlo] at HLo
        have hpos : 0 < db.size := by
          have : ts[k] ≠ [] := by intro h; rw [h] at hlo; cases hlo
          have := List.length_pos_iff.2 this
          omega
        have hsv : Value.string (db.extract 0 (db.size - 1)) = sv (noCR ts[k]) := by
          rw [sv_extract, hdb2]
          have : noCR ts[k] = ts[k].dropLast := by
            unfold noCR
            rw [if_pos (by unfold looseB at hlo; simpa using hlo)]
          rw [this, List.dropLast_eq_take, List.drop_zero, hdl]
        have HSv := Lib.hid hsv
        have HP := Lib.hid (show StrsAt w3.heap.size (wr.setCell ⟨g, k, none⟩ (.string (db.extract 0 (db.size - 1)))) (.slice (some ⟨g, 0, none⟩) ts.length tc) (mixCR ts (k + 1)) ∧ Below w.heap.size w (wr.setCell ⟨g, k, none⟩ (.string (db.extract 0 (db.size - 1)))) from by
          refine ⟨?_, hbw.setCell (p := ⟨g, k, none⟩) (by show w.heap.size ≤ g; omega) _⟩
          rw [hsv, mixCR_succ ts hlt]
          exact hst.put hml.symm _)
        clear hst hbw hsv hlo hdb1 hdb2 hmk
        go_wp2_with fail
        refine HLo.out.mono ?_
        rintro e w5 ⟨rfl, rfl⟩
        go_wp2_with fail
        go_roundw
        case rel => exact ⟨k + 1, by go_num, by omega, HP.out.1, HP.out.2⟩
        case measure => simp [intOf]; omega
      | false =>
        rw [hlo] at HLo
        have HP := Lib.hid (show StrsAt w3.heap.size wr (.slice (some ⟨g, 0, none⟩) ts.length tc) (mixCR ts (k + 1)) ∧ Below w.heap.size w wr from by
          rw [mixCR_keep ts hlt hlo]
          exact ⟨hst, hbw⟩)
        clear hst hbw hlo hdb1 hdb2 hmk
        go_wp2_with fail
        refine HLo.out.mono ?_
        rintro e w5 ⟨rfl, rfl⟩
        go_wp2_with fail
        go_roundw
        case rel => exact ⟨k + 1, by go_num, by omega, HP.out.1, HP.out.2⟩
        case measure => simp [intOf]; omega
    · obtain rfl : k = ts.length := by omega
      rw [mixCR_all, HMap.out] at hst
      have hll2 : (lines s.data.toList).length = ts.length := by rw [← HMap.out]; simp
      have HS := Lib.hid hst.strs
      have HBw := Lib.hid hbw
      clear hst hbw
      go_wp2_with fail
      refine (HI.out _ (HE.out.e.later HBw.out)).mono ?_
      rintro e w5 ⟨v5, rfl, hst5, hb5⟩
      have HS5 := Lib.hid (HS.out.below hb5)
      have HT5 := Lib.hid hst5.strs
      have HB6 := Lib.hid (bel_tr HBw.out hb5)
      clear hst5 hb5
      go_wp2_with fail
      refine (same_yes _ _ _ _ HS5.out HT5.out).mono ?_
      rintro e w6 ⟨rfl, nn, rfl⟩
      go_wp2_with fail
      refine (HSp.out _).mono ?_
      rintro e w7 ⟨v7, rfl, hst7, hb7⟩
      obtain ⟨a7, c7, rfl⟩ := strs_form hst7
      have HB7 := Lib.hid (bel_tr (below_drewN HB6.out nn) hb7)
      clear hst7 hb7
      rw [hll2]
      go_wp2_with fail
      go_ret
      exact ⟨rfl, HB7.out⟩
/-- FnRuleLines -/
theorem fnRuleLines_walk (hE : EnvC w.heap.size w E) (hs : s.size ≤ 1048576) :
    Calls Tryd.prog 5 #[.string s] w (TrueB w) := by
  cases hl : linedB s.data.toList true 0 0 with
  | true => exact fnRuleL_t hE hs hl
  | false =>
    have HL := Lib.hid (fun w' => lined_t (s := s) w' (by omega) false hl)
    clear hE hl
    go_enter Tryd.func5, Tryd.ntmps5
    go_wp2_with fail
    refine (HL.out _).mono ?_
    rintro e w1 ⟨rfl, hb1⟩
    go_wp2_with fail
    go_ret
    exact ⟨rfl, hb1⟩
end
end Go.Proofs.YtkclapimgmnldaaDoor
