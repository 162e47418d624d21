/-
  The walks of FnFinal, FnFinalNil and FnEmptyForever.
-/
import Derived.Test.YtkclapimgmnldaaDoorRegF
import Derived.Test.YtkclapimgmnldaaDoorFinals
namespace Go.Proofs.YtkclapimgmnldaaDoor
set_option linter.unusedVariables false
set_option linter.unusedSimpArgs false
set_option maxRecDepth 20000
open Go.RowKit

set_option maxHeartbeats 400000 in
theorem room_any (w : World) : Calls Tryd.prog 22 #[] w fun e w' => e = .returned (roomV true 0 0) ∧ Below w.heap.size w w' := by
  go_enter Tryd.func22, Tryd.ntmps22
  go_wp2
  exact bodyPost_ret (v := roomV true 0 0) (by simp [results, Tryd.results22, go_sem]) rfl ⟨rfl, by first | exact Below.refl _ _ | exact (Below.refl _ _).alloc (Nat.le_refl _) _⟩

/-- a slice of texts has as many as there are -/
theorem strs_len {b : Nat} {w : World} {v : Value} {ts : List (List UInt8)} (h : StrsAt b w v ts) : ∃ a c, v = .slice a ts.length c := by
  rcases h.2 with ⟨h9, h0⟩ | ⟨g, cap, cur, h9, _⟩
  · exact ⟨none, 0, by rw [h9, h0]⟩
  · exact ⟨_, _, h9⟩

theorem text_ne {s : ByteArray} (h : 0 < s.size) : s.data.toList ≠ [] := fun e => by
  have h1 : s.data.toList.length = s.size := by simp
  rw [e] at h1
  simp at h1
  omega
theorem toList_nil (s : ByteArray) (h : s.size = 0) : s.toList.isEmpty = true := by
  obtain ⟨⟨l⟩⟩ := s
  have h1 : l.length = 0 := by simpa [ByteArray.size] using h
  obtain rfl := List.length_eq_zero_iff.1 h1
  rw [ByteArray.toList_mk]
  rfl
theorem strs_one (w : World) (t : ByteArray) : Strs (w.alloc (.cells #[.string t] 9)) (.slice (some ⟨w.heap.size, 0, none⟩) 1 1) [t.data.toList] := by
  have h : StrsAt w.heap.size (w.alloc (.cells #[.string t] 9)) (.slice (some ⟨w.heap.size, 0, none⟩) 1 1) [t.data.toList] := by
    refine ⟨by simp, .inr ⟨w.heap.size, 1, #[.string t], rfl, Nat.le_refl _, heap_new _ _, Nat.le_refl _, by unfold maxLen; omega, rfl, ?_⟩⟩
    simp [sv]
  exact h.strs
/-- the three boxes of a law with a script of one -/
abbrev oneW (w : World) (s : ByteArray) (pa : Option Addr) (pn pc : Nat) (tog br : Bool) (r : Rep) (rep : Bool) : World :=
  ((w.alloc (.cells #[.string s, .slice pa pn pc, .bool tog, .bool br] 24)).alloc (.cells (repV r).toArray 56)).alloc (.cells #[.slice (some ⟨w.heap.size + 1, 0, none⟩) 1 1, .bool rep] 59)
theorem oneW_at (w : World) (s : ByteArray) (pa : Option Addr) (pn pc : Nat) (tog br : Bool) (r : Rep) (rep : Bool) : Below w.heap.size w (oneW w s pa pn pc tog br r rep) ∧ (oneW w s pa pn pc tog br r rep).heap[w.heap.size]? = some (.cells #[.string s, .slice pa pn pc, .bool tog, .bool br] 24 (0, 0)) ∧
    (oneW w s pa pn pc tog br r rep).heap[w.heap.size + 1]? = some (.cells (repV r).toArray 56 (0, 0)) ∧ (oneW w s pa pn pc tog br r rep).heap[w.heap.size + 1 + 1]? = some (.cells #[.slice (some ⟨w.heap.size + 1, 0, none⟩) 1 1, .bool rep] 59 (0, 0)) := by
  refine ⟨bel_al (bel_al (bel_al (Below.refl _ _) _) _) _, ?_, ?_, ?_⟩
  · rw [Below.heap_alloc _ _ _ (by simp; omega), Below.heap_alloc _ _ _ (by simp)]; exact heap_new w _
  · rw [Below.heap_alloc _ _ _ (by simp)]
    have := heap_new (w.alloc (.cells #[.string s, .slice pa pn pc, .bool tog, .bool br] 24)) (.cells (repV r).toArray 56)
    simpa using this
  · have := heap_new ((w.alloc (.cells #[.string s, .slice pa pn pc, .bool tog, .bool br] 24)).alloc (.cells (repV r).toArray 56)) (.cells #[.slice (some ⟨w.heap.size + 1, 0, none⟩) 1 1, .bool rep] 59)
    simpa using this

theorem fuTape_step (rs : List Rep) (rep : Bool) (x : TS) (d : List UInt8) (b : Bool) : fuTape x ≤ fuTape (splitTape rs rep x d b).sp + 1 := by
  unfold splitTape fuTape
  split <;> (simp; omega)
/-- the fuel of a script whose answers are final -/
def fuFin (x : TS) : Nat := if x.calls.length < 1000000000000 then 18446744073709551616 else 0
theorem fin_code {r : Rep} (h : r.err = 1) (x : TS) (d : List UInt8) (b : Bool) : (splitTape [r] false x d b).code = 1 := by
  unfold splitTape
  split
  · rfl
  · rename_i r' hr
    have : r' = r := by
      have := List.mem_of_getElem? hr
      simpa using this
    rw [this]
    simp [codeR, h]
theorem fin_tok {r : Rep} (t : Option (List UInt8)) (h : ∀ d, tokR r d = t) (x : TS) (hx : x.pos = 0) (d : List UInt8) (b : Bool) : (splitTape [r] false x d b).tok = t := by
  unfold splitTape tpos
  rw [hx]
  simp [h]

section
variable {w : World} {E : Nat → Addr} {s : ByteArray} {pa : Option Addr} {pcs : List Int} {pc : Nat} {tog : Bool}

set_option maxRecDepth 100000 in
set_option maxHeartbeats 1000000 in
theorem fnFinalNil_t (n : Int) (hE : EnvC w.heap.size w E) (hi : Ints w pa pcs pc) (hs : s.size ≤ 140737488355328) (hpn : pcs.length * 8 ≤ 140737488355328) (hs0 : 0 < s.size) (hn1 : 1 ≤ n) (hn2 : n ≤ 1000) :
    Calls Tryd.prog 9 #[srcL s pa pcs.length pc tog false, .int .i64 n] w (TrueB w) := by
  obtain ⟨r, hr⟩ : ∃ r : Rep, r = ⟨0, true, 0, 0, 0, ⟨#[]⟩, 1⟩ := ⟨_, rfl⟩
  have hre : r.err = 1 := by rw [hr]
  have hrt : ∀ d, tokR r d = none := fun d => by rw [hr]; rfl
  have hrx : r.text.size ≤ 140737488355328 := by rw [hr]; simp [ByteArray.size]
  obtain ⟨o1, o2, o3, o4⟩ := oneW_at w s pa pcs.length pc tog false r false
  have HQ := Lib.hid (fun Q u0 u3 u4 u7 u8 u9 u10 u11 u12 u13 u14 u15 u16 u17 u18 u19 u20 u21 u22 u23 u24 u31 u32 u33 u34 u35 u36 u37 u38 u39 u40 u41 u42 u43 u44 u45 u46 u47 u48 => regionFinalNil (u0 := u0) (u3 := u3) (u4 := u4) (u7 := u7) (u8 := u8) (u9 := u9) (u10 := u10) (u11 := u11) (u12 := u12) (u13 := u13) (u14 := u14) (u15 := u15) (u16 := u16) (u17 := u17) (u18 := u18) (u19 := u19) (u20 := u20) (u21 := u21) (u22 := u22) (u23 := u23) (u24 := u24) (u31 := u31) (u32 := u32) (u33 := u33) (u34 := u34) (u35 := u35) (u36 := u36) (u37 := u37) (u38 := u38) (u39 := u39) (u40 := u40) (u41 := u41) (u42 := u42) (u43 := u43) (u44 := u44) (u45 := u45) (u46 := u46) (u47 := u47) (u48 := u48) (n := n) o1 hE hi hpn ⟨by omega, by omega⟩ o2 o4 o3 (by omega)
    (fun {w' pa2 pc2 pl2 rp rc rl} h1 h2 h3 h4 h5 h6 => byScript_any (fu := fuFin) (s := s) (tog := tog) true false n h1 h2 hs rfl h3 h4 h5 h6 (by omega) (by omega) (fun i r' hr' => by
      have := List.mem_of_getElem? hr'
      simp at this
      rw [this]; exact hrx) (fun x hx => by unfold fuFin at hx; split at hx <;> omega) (fun x d b => .inl (fin_code hre x d b)) (by simp [fuFin]; omega)) room_any Q)
  have hse : s.toList.isEmpty = false := (toList_ne s hs0).2
  have HP := Lib.hid (fun ts x' ended pan (h : RunsTo (splitTape [r] false) (limitN true 0 0) tog 0 (newT s) n.toNat ts x' ended pan) => (show ts = [] ∧ ended = true ∧ pan = false ∧ codeI (errOf x'.err) = 0 from by
    obtain ⟨q1, q2, q3, q4⟩ := final_runs (tk := none) (fun d b => ⟨fin_code hre _ d b, fin_tok none hrt _ rfl d b⟩) (by decide) rfl (text_ne hs0) rfl rfl (by simp; omega) h
    refine ⟨q1, q2, q3, ?_⟩
    rcases q4 with q4 | q4 <;> rw [q4] <;> rfl))
  subst hr
  clear hE hi o1 o2 o3 o4 hre hrt hrx
  go_enter Tryd.func9, Tryd.ntmps9
  go_wp2_with fail
  refine HQ.out _ _ _ _ _ _ _ _ _ _ _ _ _ _ _ _ _ _ _ _ _ _ _ _ _ _ _ _ _ _ _ _ _ _ _ _ _ _ _ _ ?_
  intro v0 v1 v2 v3 v4 RB ts x' ended pan tv ca cn cc w' hb hRB0 hRB hran
  obtain ⟨rfl, rfl, rfl, hcd⟩ := HP.out _ _ _ _ hran.run
  obtain ⟨ta, tc, rfl⟩ := strs_len hran.strs
  have k0 := cell_of_heap (i := 0) hRB
  have k2 := cell_of_heap (i := 2) hRB
  have k3 := cell_of_heap (i := 3) hRB
  have k4 := cell_of_heap (i := 4) hRB
  simp [hcd] at k0 k2 k3 k4
  have HB := Lib.hid hb
  clear hb hRB0 hRB hran HQ HP hcd
  generalize codeI (errOf x'.err) = cd at *
  go_wp2_with fail
  go_ret
  exact ⟨rfl, HB.out⟩

set_option maxRecDepth 100000 in
set_option maxHeartbeats 1000000 in
theorem fnFinal_t (n : Int) (t : ByteArray) (hE : EnvC w.heap.size w E) (hi : Ints w pa pcs pc) (hs : s.size ≤ 140737488355328) (ht : t.size ≤ 140737488355328) (hpn : pcs.length * 8 ≤ 140737488355328) (hs0 : 0 < s.size) (hn1 : 1 ≤ n) (hn2 : n ≤ 1000) :
    Calls Tryd.prog 8 #[srcL s pa pcs.length pc tog false, .string t, .int .i64 n] w (TrueB w) := by
  obtain ⟨r, hr⟩ : ∃ r : Rep, r = ⟨0, true, 2, 0, 0, t, 1⟩ := ⟨_, rfl⟩
  have hre : r.err = 1 := by rw [hr]
  have hrt : ∀ d, tokR r d = some t.data.toList := fun d => by rw [hr]; rfl
  have hrx : r.text.size ≤ 140737488355328 := by rw [hr]; exact ht
  obtain ⟨o1, o2, o3, o4⟩ := oneW_at w s pa pcs.length pc tog false r false
  have HQ := Lib.hid (fun Q u0 u1 u4 u5 u6 u9 u10 u11 u12 u13 u14 u15 u16 u17 u18 u19 u20 u21 u22 u23 u24 u25 u26 u27 u35 u36 u37 u38 u39 u40 u41 u42 u43 u44 u45 u46 u47 u48 u49 u50 u51 u52 u53 => regionFinal (u0 := u0) (u1 := u1) (u4 := u4) (u5 := u5) (u6 := u6) (u9 := u9) (u10 := u10) (u11 := u11) (u12 := u12) (u13 := u13) (u14 := u14) (u15 := u15) (u16 := u16) (u17 := u17) (u18 := u18) (u19 := u19) (u20 := u20) (u21 := u21) (u22 := u22) (u23 := u23) (u24 := u24) (u25 := u25) (u26 := u26) (u27 := u27) (u35 := u35) (u36 := u36) (u37 := u37) (u38 := u38) (u39 := u39) (u40 := u40) (u41 := u41) (u42 := u42) (u43 := u43) (u44 := u44) (u45 := u45) (u46 := u46) (u47 := u47) (u48 := u48) (u49 := u49) (u50 := u50) (u51 := u51) (u52 := u52) (u53 := u53) (n := n) o1 hE hi hpn ⟨by omega, by omega⟩ o2 o4 o3 (by omega)
    (fun {w' pa2 pc2 pl2 rp rc rl} h1 h2 h3 h4 h5 h6 => byScript_any (fu := fuFin) (s := s) (tog := tog) true false (n + 1) h1 h2 hs rfl h3 h4 h5 h6 (by omega) (by omega) (fun i r' hr' => by
      have := List.mem_of_getElem? hr'
      simp at this
      rw [this]; exact hrx) (fun x hx => by unfold fuFin at hx; split at hx <;> omega) (fun x d b => .inl (fin_code hre x d b)) (by simp [fuFin]; omega)) room_any Q)
  have hse : s.toList.isEmpty = false := (toList_ne s hs0).2
  have HP := Lib.hid (fun ts x' ended pan (h : RunsTo (splitTape [r] false) (limitN true 0 0) tog 0 (newT s) (n + 1).toNat ts x' ended pan) => (show ts = [t.data.toList] ∧ ended = true ∧ pan = false ∧ codeI (errOf x'.err) = 0 from by
    obtain ⟨q1, q2, q3, q4⟩ := final_runs (tk := some t.data.toList) (fun d b => ⟨fin_code hre _ d b, fin_tok _ hrt _ rfl d b⟩) (by decide) rfl (text_ne hs0) rfl rfl (by simp; omega) h
    refine ⟨q1, q2, q3, ?_⟩
    rcases q4 with q4 | q4 <;> rw [q4] <;> rfl))
  subst hr
  clear hE hi o1 o2 o3 o4 hre hrt hrx
  go_enter Tryd.func8, Tryd.ntmps8
  go_wp2_with fail
  refine HQ.out _ _ _ _ _ _ _ _ _ _ _ _ _ _ _ _ _ _ _ _ _ _ _ _ _ _ _ _ _ _ _ _ _ _ _ _ _ _ _ _ _ _ _ _ ?_
  intro v0 v1 v2 v3 v4 va RB ts x' ended pan tv ca cn cc w' hb hRB0 hRB hran
  obtain ⟨rfl, rfl, rfl, hcd⟩ := HP.out _ _ _ _ hran.run
  have k0 := cell_of_heap (i := 0) hRB
  have k2 := cell_of_heap (i := 2) hRB
  have k3 := cell_of_heap (i := 3) hRB
  have k4 := cell_of_heap (i := 4) hRB
  simp [hcd] at k0 k2 k3 k4
  have HST := Lib.hid hran.strs
  obtain ⟨ta, tc, rfl⟩ := strs_len hran.strs
  have HB := Lib.hid hb
  clear hb hRB0 hRB hran HQ HP hcd
  generalize codeI (errOf x'.err) = cd at *
  have HA := Lib.hid ((HST.out.strs).below ((Below.refl w'.heap.size w').alloc (Nat.le_refl _) (.cells #[.string t] 9)))
  have HB2 := Lib.hid (strs_one w' t)
  go_wp2_with fail
  refine (same_yes _ _ _ _ HA.out HB2.out).mono ?_
  rintro e w2 ⟨rfl, nn, rfl⟩
  go_wp2_with fail
  go_ret
  exact ⟨rfl, below_drewN (HB.out.alloc HB.out.size _) nn⟩

set_option maxRecDepth 100000 in
set_option maxHeartbeats 1000000 in
theorem fnEmpty_t (br : Bool) (n : Int) (hE : EnvC w.heap.size w E) (hi : Ints w pa pcs pc) (hpn : pcs.length * 8 ≤ 140737488355328) (hn1 : 1000 ≤ n) (hn2 : n ≤ 10000) :
    Calls Tryd.prog 7 #[srcL s pa pcs.length pc tog br, .int .i64 n] w (TrueB w) := by
  obtain ⟨r, hr⟩ : ∃ r : Rep, r = ⟨0, false, 2, 0, 0, ⟨#[]⟩, 0⟩ := ⟨_, rfl⟩
  have hrx : r.text.size ≤ 140737488355328 := by rw [hr]; simp [ByteArray.size]
  obtain ⟨o1, o2, o3, o4⟩ := oneW_at w ⟨#[]⟩ pa pcs.length pc tog false r true
  have HQ := Lib.hid (fun Q u0 u3 u4 u7 u8 u9 u10 u11 u12 u13 u14 u15 u16 u17 u24 u25 u26 u27 u28 u29 u30 u31 u32 u33 u34 u35 u36 u37 => regionEmpty (u0 := u0) (u3 := u3) (u4 := u4) (u7 := u7) (u8 := u8) (u9 := u9) (u10 := u10) (u11 := u11) (u12 := u12) (u13 := u13) (u14 := u14) (u15 := u15) (u16 := u16) (u17 := u17) (u24 := u24) (u25 := u25) (u26 := u26) (u27 := u27) (u28 := u28) (u29 := u29) (u30 := u30) (u31 := u31) (u32 := u32) (u33 := u33) (u34 := u34) (u35 := u35) (u36 := u36) (u37 := u37) (s := ⟨#[]⟩) (n := n) o1 hE hi hpn ⟨by omega, by omega⟩ o2 o4 o3 (by omega)
    (fun {w' pa2 pc2 pl2 rp rc rl} h1 h2 h3 h4 h5 h6 => byScript_any (fu := fuTape) (s := ⟨#[]⟩) (tog := tog) true false n h1 h2 (by simp [ByteArray.size]) rfl h3 h4 h5 h6 (by omega) (by omega) (fun i r' hr' => by
      have := List.mem_of_getElem? hr'
      simp at this
      rw [this]; exact hrx) (fun x hx => by unfold fuTape at hx; omega) (fun x d b => .inr (.inr (fuTape_step _ _ x d b))) (by simp [fuTape, ByteArray.size]; omega)) room_any Q)
  have HP := Lib.hid (fun ts x' ended pan (h : RunsTo (splitTape [r] true) (limitN true 0 0) tog 0 (newT ⟨#[]⟩) n.toNat ts x' ended pan) => (show pan = true ∧ ended = false ∧ ts.length < n.toNat from
    empty_run (by rw [hr]) (by rw [hr]) (by rw [hr]) (by rw [hr]) (by rw [hr]) (by decide) rfl rfl rfl rfl rfl (by simp) (by omega) h))
  subst hr
  clear hE hi o1 o2 o3 o4 hrx
  go_enter Tryd.func7, Tryd.ntmps7
  go_wp2_with fail
  refine HQ.out _ _ _ _ _ _ _ _ _ _ _ _ _ _ _ _ _ _ _ _ _ _ _ _ _ _ _ _ _ ?_
  intro v0 v1 v2 v3 v4 RB ts x' ended pan tv ca cn cc w' hb hRB0 hRB hran
  obtain ⟨rfl, rfl, hlt⟩ := HP.out _ _ _ _ hran.run
  obtain ⟨ta, tc, rfl⟩ := strs_len hran.strs
  have k0 := cell_of_heap (i := 0) hRB
  have k3 := cell_of_heap (i := 3) hRB
  have k4 := cell_of_heap (i := 4) hRB
  simp at k0 k3 k4
  have HB := Lib.hid hb
  have hlt2 : decide ((ts.length : Int) < n) = true := by rw [decide_eq_true_eq]; omega
  clear hb hRB0 hRB hran HQ HP
  go_wp2_with fail
  go_ret
  exact ⟨rfl, HB.out⟩

set_option maxHeartbeats 1000000 in
theorem fnFinalNil_walk (br : Bool) (n : Int) (hE : EnvC w.heap.size w E) (hi : Ints w pa pcs pc) (hs : s.size ≤ 140737488355328) (hpn : pcs.length * 8 ≤ 140737488355328) :
    Calls Tryd.prog 9 #[srcL s pa pcs.length pc tog br, .int .i64 n] w (TrueB w) := by
  have hb1 : Below w.heap.size w (w.alloc (.cells #[.string s, .slice pa pcs.length pc, .bool tog, .bool br] 24)) := bel_al (Below.refl _ _) _
  by_cases hs0 : s.size = 0
  · have hse : s.toList.isEmpty = true := toList_nil s hs0
    have HB := Lib.hid hb1
    clear hE hi hb1
    go_enter Tryd.func9, Tryd.ntmps9
    go_wp2_with fail
    go_ret
    exact ⟨rfl, HB.out⟩
  · have hse : s.toList.isEmpty = false := (toList_ne s (by omega)).2
    cases br with
    | true =>
      have HB := Lib.hid hb1
      clear hE hi hb1
      go_enter Tryd.func9, Tryd.ntmps9
      go_wp2_with fail
      go_ret
      exact ⟨rfl, HB.out⟩
    | false =>
      by_cases hn1 : n < 1
      · have hd : decide (n < 1) = true := decide_eq_true hn1
        have HB := Lib.hid hb1
        clear hE hi hb1
        go_enter Tryd.func9, Tryd.ntmps9
        go_wp2_with fail
        go_ret
        exact ⟨rfl, HB.out⟩
      · by_cases hn2 : 1000 < n
        · have hd : decide (n < 1) = false := by rw [decide_eq_false_iff_not]; exact hn1
          have hd2 : decide (1000 < n) = true := decide_eq_true hn2
          have HB := Lib.hid hb1
          clear hE hi hb1
          go_enter Tryd.func9, Tryd.ntmps9
          go_wp2_with fail
          go_ret
          exact ⟨rfl, HB.out⟩
        · exact fnFinalNil_t n hE hi hs hpn (by omega) (by omega) (by omega)
set_option maxHeartbeats 1000000 in
theorem fnFinal_walk (br : Bool) (n : Int) (t : ByteArray) (hE : EnvC w.heap.size w E) (hi : Ints w pa pcs pc) (hs : s.size ≤ 140737488355328) (ht : t.size ≤ 140737488355328) (hpn : pcs.length * 8 ≤ 140737488355328) :
    Calls Tryd.prog 8 #[srcL s pa pcs.length pc tog br, .string t, .int .i64 n] w (TrueB w) := by
  have hb1 : Below w.heap.size w (w.alloc (.cells #[.string s, .slice pa pcs.length pc, .bool tog, .bool br] 24)) := bel_al (Below.refl _ _) _
  by_cases hs0 : s.size = 0
  · have hse : s.toList.isEmpty = true := toList_nil s hs0
    have HB := Lib.hid hb1
    clear hE hi hb1
    go_enter Tryd.func8, Tryd.ntmps8
    go_wp2_with fail
    go_ret
    exact ⟨rfl, HB.out⟩
  · have hse : s.toList.isEmpty = false := (toList_ne s (by omega)).2
    cases br with
    | true =>
      have HB := Lib.hid hb1
      clear hE hi hb1
      go_enter Tryd.func8, Tryd.ntmps8
      go_wp2_with fail
      go_ret
      exact ⟨rfl, HB.out⟩
    | false =>
      by_cases hn1 : n < 1
      · have hd : decide (n < 1) = true := decide_eq_true hn1
        have HB := Lib.hid hb1
        clear hE hi hb1
        go_enter Tryd.func8, Tryd.ntmps8
        go_wp2_with fail
        go_ret
        exact ⟨rfl, HB.out⟩
      · by_cases hn2 : 1000 < n
        · have hd : decide (n < 1) = false := by rw [decide_eq_false_iff_not]; exact hn1
          have hd2 : decide (1000 < n) = true := decide_eq_true hn2
          have HB := Lib.hid hb1
          clear hE hi hb1
          go_enter Tryd.func8, Tryd.ntmps8
          go_wp2_with fail
          go_ret
          exact ⟨rfl, HB.out⟩
        · exact fnFinal_t n t hE hi hs ht hpn (by omega) (by omega) (by omega)
set_option maxHeartbeats 1000000 in
theorem fnEmpty_walk (br : Bool) (n : Int) (hE : EnvC w.heap.size w E) (hi : Ints w pa pcs pc) (hpn : pcs.length * 8 ≤ 140737488355328) :
    Calls Tryd.prog 7 #[srcL s pa pcs.length pc tog br, .int .i64 n] w (TrueB w) := by
  have hb1 : Below w.heap.size w (w.alloc (.cells #[.string s, .slice pa pcs.length pc, .bool tog, .bool br] 24)) := bel_al (Below.refl _ _) _
  by_cases hn1 : n < 1000
  · have hd : decide (n < 1000) = true := decide_eq_true hn1
    have HB := Lib.hid hb1
    clear hE hi hb1
    go_enter Tryd.func7, Tryd.ntmps7
    go_wp2_with fail
    go_ret
    exact ⟨rfl, HB.out⟩
  · by_cases hn2 : 10000 < n
    · have hd : decide (n < 1000) = false := by rw [decide_eq_false_iff_not]; exact hn1
      have hd2 : decide (10000 < n) = true := decide_eq_true hn2
      have HB := Lib.hid hb1
      clear hE hi hb1
      go_enter Tryd.func7, Tryd.ntmps7
      go_wp2_with fail
      go_ret
      exact ⟨rfl, HB.out⟩
    · exact fnEmpty_t br n hE hi hpn (by omega) (by omega)
end
end Go.Proofs.YtkclapimgmnldaaDoor
