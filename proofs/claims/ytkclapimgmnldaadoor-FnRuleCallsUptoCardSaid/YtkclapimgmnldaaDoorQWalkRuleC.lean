/-
  The walk of FnRuleCalls.
-/
import Derived.Test.YtkclapimgmnldaaDoorQWalkRule
namespace Go.Proofs.YtkclapimgmnldaaDoor
set_option linter.unusedVariables false
set_option linter.unusedSimpArgs false
set_option maxRecDepth 20000
open Go.RowKit

theorem step_ans (u : Rl) (d : List UInt8) (eof : Bool) : (stepR u d eof).1 = (ansR u d eof).1 ∧ (stepR u d eof).2.2.2 = (((ansR u d eof).2.2 : Nat) : Int) := by
  unfold stepR ansR
  cases rEv u [] d with
  | fail r => exact ⟨rfl, rfl⟩
  | stop c r => exact ⟨rfl, rfl⟩
  | tok t r => exact ⟨rfl, rfl⟩
  | over c =>
    simp only
    split <;> exact ⟨rfl, rfl⟩
theorem flat_at {α β : Type} {f : α → List β} {m : Nat} (hf : ∀ x, (f x).length = m) : ∀ (l : List α) (k : Nat) (c : α), l[k]? = some c → ∀ j, j < m → (l.flatMap f)[k * m + j]? = (f c)[j]? := by
  intro l
  induction l with
  | nil => intro k c h; simp at h
  | cons a r ih =>
    intro k c h j hj
    rw [List.flatMap_cons]
    cases k with
    | zero =>
      simp only [List.getElem?_cons_zero, Option.some.injEq] at h
      subst h
      rw [Nat.zero_mul, Nat.zero_add, List.getElem?_append_left (by rw [hf]; exact hj)]
    | succ k =>
      rw [List.getElem?_cons_succ] at h
      have e : (k + 1) * m + j = m + (k * m + j) := by rw [Nat.succ_mul]; omega
      rw [e, List.getElem?_append_right (by rw [hf]; omega), hf, Nat.add_sub_cancel_left]
      exact ih k c h j hj
/-- the calls in memory read as they are -/
theorem calls_cells {base : Nat} {w : World} {ca : Option Addr} {cn cc : Nat} {cl : RS} (h : w.ownsRow base 47 2 (.slice ca cn cc) cl.length (cl.flatMap callV)) :
    cn = cl.length ∧ cn ≤ cc ∧ cc ≤ 9223372036854775807 ∧ ∀ k c, cl[k]? = some c → ∃ g, ca = some ⟨g, 0, none⟩ ∧ g < w.heap.size ∧ w.cell? ⟨g, k * 2, none⟩ = some (sv c.1) ∧ w.cell? ⟨g, k * 2 + 1, none⟩ = some (.bool c.2) := by
  have h' := h
  obtain ⟨h1, h2⟩ := h
  rcases h2 with ⟨h2, h3⟩ | ⟨g, cap, cur, e, h3, h4, h5, h6, h7, h8⟩
  · have : cl = [] := List.length_eq_zero_iff.1 h3
    subst this
    simp only [Value.slice.injEq] at h2
    obtain ⟨rfl, rfl, rfl⟩ := h2
    exact ⟨rfl, Nat.le_refl _, by omega, fun k c hk => by simp at hk⟩
  · simp only [Value.slice.injEq] at e
    obtain ⟨rfl, rfl, rfl⟩ := e
    refine ⟨rfl, h5, by unfold maxLen at h6; omega, fun k c hk => ⟨g, rfl, lt_of_heap h4, ?_, ?_⟩⟩
    · have h9 := World.ownsRow.cells h' rfl (k * 2) (sv c.1) (by have := flat_at (f := callV) (m := 2) (fun _ => rfl) cl k c hk 0 (by omega); rw [Nat.add_zero] at this; rw [this]; rfl)
      have hplain : (⟨g, 0, none⟩ : Addr).add (k * 2) = ⟨g, 0 + k * 2, none⟩ := by unfold Addr.add; split <;> simp_all
      rw [hplain, Nat.zero_add] at h9
      exact h9
    · have h9 := World.ownsRow.cells h' rfl (k * 2 + 1) (.bool c.2) (by rw [flat_at (f := callV) (m := 2) (fun _ => rfl) cl k c hk 1 (by omega)]; rfl)
      have hplain : (⟨g, 0, none⟩ : Addr).add (k * 2 + 1) = ⟨g, 0 + (k * 2 + 1), none⟩ := by unfold Addr.add; split <;> simp_all
      rw [hplain, Nat.zero_add] at h9
      exact h9

section
variable {w : World} {E : Nat → Addr} {s : ByteArray} {pa : Option Addr} {pcs : List Int} {pc : Nat} {tog d : Bool} {c m : Int} {u : Rl} {bp : Option Addr} {bc : Nat}
set_option maxRecDepth 100000 in
set_option maxHeartbeats 2000000 in
theorem fnRuleC_f1 (br : Bool) (hbs : BoolsC w bp u.brks bc) (hs : s.size ≤ 4194304) (hsz : sizedB d c m = false) :
    Calls Tryd.prog 4 #[srcL s pa pcs.length pc tog br, roomV d c m, rulV u bp bc] w (TrueB w) := by
  have HC := Lib.hid (fun w' (hb : Below w.heap.size w w') => cut_any (u := u) (bp := bp) (bc := bc) (w := w') (s := s) (hbs.bools.below hb) ⟨hbs.le, hbs.cap⟩ hs)
  clear hbs
  have HSz := Lib.hid (fun w => sized_b hsz w)
  clear hsz
  go_enter Tryd.func4, Tryd.ntmps4
  go_wp2_with fail
  refine (HC.out _ (lawR_below w s pa pcs.length pc tog br d c m u bp bc)).mono ?_
  rintro e w1 ⟨v, rfl, hst, hb1⟩
  have hb1' : Below (w.heap.size + 3) (lawR w s pa pcs.length pc tog br d c m u bp bc) w1 := by simpa using hb1
  have HB1 := Lib.hid hb1'
  obtain ⟨a0, a1, a2, a3, a4, a5, a6, a7⟩ := lawR_cells hb1'
  clear hb1 hb1' hst HC
  generalize toksR u [] s.data.toList = al at *
  generalize moR u 0 0 s.data.toList = mo at *
  obtain ⟨xs, fl⟩ := al
  go_wp2_with fail
  refine (HSz.out _).mono ?_
  rintro e w2 ⟨rfl, hb2⟩
  have HB2 := Lib.hid (lawR_step HB1.out hb2)
  go_wp2_with fail
  go_ret
  exact ⟨rfl, lawR_base HB2.out⟩
set_option maxRecDepth 100000 in
set_option maxHeartbeats 2000000 in
theorem fnRuleC_f2 (br : Bool) (hbs : BoolsC w bp u.brks bc) (hs : s.size ≤ 4194304) (hsz : sizedB d c m = true) (n mo : Nat) (hn : limitN d c m = n) (hmo : moR u 0 0 s.data.toList = mo) (hf : n < 3 ∨ n ≤ mo) :
    Calls Tryd.prog 4 #[srcL s pa pcs.length pc tog br, roomV d c m, rulV u bp bc] w (TrueB w) := by
  have HC := Lib.hid (fun w' (hb : Below w.heap.size w w') => cut_any (u := u) (bp := bp) (bc := bc) (w := w') (s := s) (hbs.bools.below hb) ⟨hbs.le, hbs.cap⟩ hs)
  clear hbs
  have HSz := Lib.hid (fun w => sized_b hsz w)
  have HL := Lib.hid (fun w => limit_b hn w)
  clear hsz hn
  by_cases h3 : n < 3
  · have e3 : decide ((n : Int) < 3) = true := by rw [decide_eq_true_eq]; omega
    go_enter Tryd.func4, Tryd.ntmps4
    go_wp2_with fail
    refine (HC.out _ (lawR_below w s pa pcs.length pc tog br d c m u bp bc)).mono ?_
    rintro e w1 ⟨v, rfl, hst, hb1⟩
    have hb1' : Below (w.heap.size + 3) (lawR w s pa pcs.length pc tog br d c m u bp bc) w1 := by simpa using hb1
    have HB1 := Lib.hid hb1'
    obtain ⟨a0, a1, a2, a3, a4, a5, a6, a7⟩ := lawR_cells hb1'
    clear hb1 hb1' hst HC
    rw [hmo]
    clear hmo
    generalize toksR u [] s.data.toList = al at *
    obtain ⟨xs, fl⟩ := al
    go_wp2_with fail
    refine (HSz.out _).mono ?_
    rintro e w2 ⟨rfl, hb2⟩
    have HB2 := Lib.hid (lawR_step HB1.out hb2)
    clear a0 a1 a2 a3 a4 a5 a6 a7
    obtain ⟨a0, a1, a2, a3, a4, a5, a6, a7⟩ := lawR_cells HB2.out
    clear hb2
    go_wp2_with fail
    refine (HL.out _).mono ?_
    rintro e w3 ⟨rfl, hb3⟩
    have HB3 := Lib.hid (lawR_step HB2.out hb3)
    clear a0 a1 a2 a3 a4 a5 a6 a7
    obtain ⟨a0, a1, a2, a3, a4, a5, a6, a7⟩ := lawR_cells HB3.out
    clear hb3
    go_wp2_with fail
    go_ret
    exact ⟨rfl, lawR_base HB3.out⟩
  · have e3 : decide ((n : Int) < 3) = false := by rw [decide_eq_false_iff_not]; omega
    have e4 : decide ((n : Int) ≤ (mo : Int)) = true := by rw [decide_eq_true_eq]; omega
    go_enter Tryd.func4, Tryd.ntmps4
    go_wp2_with fail
    refine (HC.out _ (lawR_below w s pa pcs.length pc tog br d c m u bp bc)).mono ?_
    rintro e w1 ⟨v, rfl, hst, hb1⟩
    have hb1' : Below (w.heap.size + 3) (lawR w s pa pcs.length pc tog br d c m u bp bc) w1 := by simpa using hb1
    have HB1 := Lib.hid hb1'
    obtain ⟨a0, a1, a2, a3, a4, a5, a6, a7⟩ := lawR_cells hb1'
    clear hb1 hb1' hst HC
    rw [hmo]
    clear hmo
    generalize toksR u [] s.data.toList = al at *
    obtain ⟨xs, fl⟩ := al
    go_wp2_with fail
    refine (HSz.out _).mono ?_
    rintro e w2 ⟨rfl, hb2⟩
    have HB2 := Lib.hid (lawR_step HB1.out hb2)
    clear a0 a1 a2 a3 a4 a5 a6 a7
    obtain ⟨a0, a1, a2, a3, a4, a5, a6, a7⟩ := lawR_cells HB2.out
    clear hb2
    go_wp2_with fail
    refine (HL.out _).mono ?_
    rintro e w3 ⟨rfl, hb3⟩
    have HB3 := Lib.hid (lawR_step HB2.out hb3)
    clear a0 a1 a2 a3 a4 a5 a6 a7
    obtain ⟨a0, a1, a2, a3, a4, a5, a6, a7⟩ := lawR_cells HB3.out
    clear hb3
    go_wp2_with fail
    refine (HL.out _).mono ?_
    rintro e w4 ⟨rfl, hb4⟩
    have HB4 := Lib.hid (lawR_step HB3.out hb4)
    clear a0 a1 a2 a3 a4 a5 a6 a7
    obtain ⟨a0, a1, a2, a3, a4, a5, a6, a7⟩ := lawR_cells HB4.out
    clear hb4
    go_wp2_with fail
    go_ret
    exact ⟨rfl, lawR_base HB4.out⟩
set_option maxRecDepth 100000 in
set_option maxHeartbeats 4000000 in
theorem fnRuleC_t (br : Bool) (hE : EnvC w.heap.size w E) (hi : Ints w pa pcs pc) (hbs : BoolsC w bp u.brks bc) (hs : s.size ≤ 4194304) (hpn : pcs.length ≤ 4194304) (hbn : u.brks.length ≤ 4194304) (hsz : sizedB d c m = true) (n mo : Nat) (hn : limitN d c m = n) (hmo : moR u 0 0 s.data.toList = mo) (h3 : 3 ≤ n) (h4 : mo < n) :
    Calls Tryd.prog 4 #[srcL s pa pcs.length pc tog br, roomV d c m, rulV u bp bc] w (TrueB w) := by
  have HC := Lib.hid (fun w' (hb : Below w.heap.size w w') => cut_any (u := u) (bp := bp) (bc := bc) (w := w') (s := s) (hbs.bools.below hb) ⟨hbs.le, hbs.cap⟩ hs)
  have HStep := Lib.hid (fun w' (t : ByteArray) (eof : Bool) (hb : Below w.heap.size w w') (ht : t.size ≤ 4194304) => step_any (u := u) (bp := bp) (bc := bc) (w := w') (s := t) (eof := eof) (hbs.bools.below hb) ⟨hbs.le, hbs.cap⟩ ht)
  have HSz := Lib.hid (fun w => sized_b hsz w)
  have HL := Lib.hid (fun w => limit_b hn w)
  have hll : s.data.toList.length = s.size := by simp
  have hfit : fitsR u (limitN d c m) [] s.data.toList := moR_fits (by omega) _ _ 0 0 (Nat.le_refl _) rfl (by omega)
  have HA := Lib.hid (fun w' pa' pc' pl' bp' bc' rl' (h1 : EnvC w.heap.size w' E) (h2 : PcsAt w.heap.size w' pa' pcs pc' pl') (h5 : BrksAt w' u.brks bp' rl') (h6 : u.brks.length ≤ bc' ∧ bc' ≤ 9223372036854775807) (h7 : rl'.Nodup) (h8 : ∀ k, k ∈ rl' → w.heap.size ≤ k ∧ k < w'.heap.size ∧ k ∉ pl') =>
    byRule_any (s := s) (tog := tog) (c := c) (m := m) d br h1 h2 hs hsz h5 h6 h7 h8 (REndC u (if br then 5 else 0) (toksR u [] s.data.toList) s.data.toList) (s.data.toList.length + 1) (by omega) (rule_all (tog := tog) (by omega) _ hfit) (fun ts x h => rend_le (by split <;> omega) h))
  have HS := Lib.hid (fun w' (h : Ints w' pa pcs pc) => toSource_any s pa pcs pc tog br w' h (by omega))
  have HR := Lib.hid (fun w' (h : BoolsC w' bp u.brks bc) => toRule_any u bp bc w' h (by omega))
  have HI := Lib.hid hi
  have HBs := Lib.hid hbs
  have HE := Lib.hid hE
  have e3 : decide ((n : Int) < 3) = false := by rw [decide_eq_false_iff_not]; omega
  have e4 : decide ((n : Int) ≤ (mo : Int)) = false := by rw [decide_eq_false_iff_not]; omega
  clear hsz hn hi hbs hE hfit hll
  go_enter Tryd.func4, Tryd.ntmps4
  go_wp2_with fail
  refine (HC.out _ (lawR_below w s pa pcs.length pc tog br d c m u bp bc)).mono ?_
  rintro e w1 ⟨v, rfl, hst, hb1⟩
  have hb1' : Below (w.heap.size + 3) (lawR w s pa pcs.length pc tog br d c m u bp bc) w1 := by simpa using hb1
  have HB1 := Lib.hid hb1'
  obtain ⟨a0, a1, a2, a3, a4, a5, a6, a7⟩ := lawR_cells hb1'
  have HST := Lib.hid hst.strs
  clear hb1 hb1' hst HC
  rw [hmo]
  clear hmo
  generalize toksR u [] s.data.toList = al at *
  obtain ⟨xs, fl⟩ := al
  go_wp2_with fail
  refine (HSz.out _).mono ?_
  rintro e w2 ⟨rfl, hb2⟩
  have HN2 := Lib.hid hb2
  clear a0 a1 a2 a3 a4 a5 a6 a7
  obtain ⟨a0, a1, a2, a3, a4, a5, a6, a7⟩ := lawR_cells (lawR_step HB1.out HN2.out)
  clear hb2
  go_wp2_with fail
  refine (HL.out _).mono ?_
  rintro e w3 ⟨rfl, hb3⟩
  have HN3 := Lib.hid (bel_tr HN2.out hb3)
  clear a0 a1 a2 a3 a4 a5 a6 a7
  obtain ⟨a0, a1, a2, a3, a4, a5, a6, a7⟩ := lawR_cells (lawR_step HB1.out HN3.out)
  clear hb3
  go_wp2_with fail
  refine (HL.out _).mono ?_
  rintro e w4 ⟨rfl, hb4⟩
  have HN4 := Lib.hid (bel_tr HN3.out hb4)
  clear a0 a1 a2 a3 a4 a5 a6 a7
  obtain ⟨a0, a1, a2, a3, a4, a5, a6, a7, a8, a9, a10, a11⟩ := lawR_cells (lawR_step HB1.out HN4.out)
  clear hb4
  go_wp2_with fail
  clear HN2 HN3
  go_region_held3 (fun w' => w'.cell? ⟨w.heap.size, 0, none⟩ = some (.string s) ∧ w'.cell? ⟨w.heap.size, 1, none⟩ = some (.slice pa pcs.length pc) ∧ w'.cell? ⟨w.heap.size, 2, none⟩ = some (.bool tog) ∧ w'.cell? ⟨w.heap.size, 3, none⟩ = some (.bool br) ∧
      w'.cell? ⟨w.heap.size + 1, 0, none⟩ = some (.bool d) ∧ w'.cell? ⟨w.heap.size + 1, 1, none⟩ = some (.int .i64 c) ∧ w'.cell? ⟨w.heap.size + 1, 2, none⟩ = some (.int .i64 m) ∧
      w'.cell? ⟨w.heap.size + 2, 0, none⟩ = some (.slice bp u.brks.length bc) ∧ w'.cell? ⟨w.heap.size + 2, 1, none⟩ = some (.bool u.keep) ∧ w'.cell? ⟨w.heap.size + 2, 2, none⟩ = some (.bool u.skip) ∧ w'.cell? ⟨w.heap.size + 2, 3, none⟩ = some (.int .i64 u.stop) ∧ w'.cell? ⟨w.heap.size + 2, 4, none⟩ = some (.int .i64 u.fail))
    (first
      | exact lawR_cells (lawR_step HB1.out HN8.out)
      | exact lawR_cells (lawR_step HB1.out HN7.out)
      | exact lawR_cells (lawR_step HB1.out HN6.out)
      | exact lawR_cells (lawR_step HB1.out HN5.out)
      | go_keep)
    (first
      | (go_at_call 15; refine (HS.out _ (HI.out.below (lawR_base (lawR_step HB1.out HN4.out.drew)))).mono ?_; rintro e w5 ⟨pa2, pc2, pl2, rfl, hp5, hb5⟩; have HN5 := Lib.hid (bel_tr HN4.out.drew hb5); have HP5 := Lib.hid hp5; clear hp5 hb5)
      | (go_at_call 16; refine (toRoom_any _ _ _ _).mono ?_; rintro e w6 ⟨rfl, hb6⟩; have HN6 := Lib.hid (bel_tr HN5.out hb6); have HP6 := Lib.hid (pcs_later HP5.out hb6); clear hb6)
      | (go_at_call 17; refine (HR.out _ (HBs.out.below (lawR_base (lawR_step HB1.out HN6.out)))).mono ?_; rintro e w7 ⟨bp2, bc2, rl2, rfl, hr1, hr2, hr3, hr4, hb7⟩; have HN7 := Lib.hid (bel_tr HN6.out hb7); have HP7 := Lib.hid (pcs_later HP6.out hb7); have HR7 := Lib.hid (And.intro hr1 (And.intro hr2 (And.intro hr3 hr4))); clear hb7 hr1 hr2 hr3 hr4)
      | (go_at_call 14; refine (HA.out _ _ _ _ _ _ _ (HE.out.later (lawR_base (lawR_step HB1.out HN7.out))) (pcs_frame HP7.out (lawR_base (lawR_step HB1.out HN4.out)).size (fun _ _ => rfl) (Nat.le_refl _)) HR7.out.1 HR7.out.2.1 HR7.out.2.2.1 (fun k hk => ⟨Nat.le_trans (lawR_base (lawR_step HB1.out HN6.out)).size (HR7.out.2.2.2 k hk).1, (HR7.out.2.2.2 k hk).2, fun hm => by have h1 := (HP6.out.hlt k hm).2; have h2 := (HR7.out.2.2.2 k hk).1; omega⟩)).mono ?_; rintro e w8 ⟨ts, x, tv, ca, cn, cc, rfl, hP, hst8, hcalls, hoff⟩; have HN8 := Lib.hid (HN7.out.trans (hoff.below HN7.out.size (fun k hk => by
          rcases List.mem_append.1 hk with hk | hk
          · have h1 := (HP5.out.hlt k hk).1; have h2 := HN4.out.size; simp at h1 h2; omega
          · have h1 := (HR7.out.2.2.2 k hk).1; have h2 := HN6.out.size; omega))); have HCL := Lib.hid (And.intro hP.2 (calls_cells hcalls)); clear hst8 hcalls hoff hP; generalize codeI (errOf x.err) = cd at *))
  obtain ⟨⟨htr, hne⟩, rfl, hcc, hcc2, hcl⟩ := HCL.out
  generalize x.sp = cl at *
  have HTR := Lib.hid htr
  have HCl := Lib.hid hcl
  clear HCL HN4 HN5 HN6 HN7 HP5 HP6 HP7 HR7 HA HS HR HI HBs HE HL HSz htr hcl
  have hlen1 : decide (0 < (cl.length : Int)) = true := by
    have := List.length_pos_iff.2 hne
    rw [decide_eq_true_eq]; omega
  go_wp2_with fail
  go_loopw [13, 66] (fun rv iv wr => ∃ (k : Nat) (rb : ByteArray), iv = .int .i64 (k : Int) ∧ k ≤ cl.length ∧ rv = .string rb ∧ rb.size ≤ s.size ∧ TrackR u rb.data.toList (cl.drop k) ∧ Below w8.heap.size w8 wr) (fun _ iv _ => cl.length - (intOf iv).toNat)
  case atStart => exact ⟨0, s, rfl, Nat.zero_le _, rfl, Nat.le_refl _, HTR.out, Below.refl _ _⟩
  case round =>
    obtain ⟨k, rb, rfl, hk, rfl, hrb, htr, hbw⟩ := hrel
    have HTk := Lib.hid htr
    have HBw := Lib.hid hbw
    clear htr
    by_cases hlt : k < cl.length
    · obtain ⟨g, rfl, hg, hc0, hc1⟩ := HCl.out k cl[k] (List.getElem?_eq_getElem hlt)
      have hdr : cl.drop k = cl[k] :: cl.drop (k + 1) := List.drop_eq_getElem_cons hlt
      obtain ⟨cc0, hce⟩ : ∃ c, cl[k] = c := ⟨_, rfl⟩
      obtain ⟨dl, eof⟩ := cc0
      rw [hce] at hc0 hc1 hdr
      have htk := HTk.out
      rw [hdr] at htk
      obtain ⟨⟨o1, o2, o3, o4⟩, htk2⟩ := htk
      obtain ⟨db, hdb1, hdb2⟩ : ∃ db : ByteArray, sv dl = .string db ∧ db.data.toList = dl := ⟨⟨dl.toArray⟩, rfl, by simp⟩
      subst hdb2
      have hdl : db.data.toList.length = db.size := by simp
      have hrl : rb.data.toList.length = rb.size := by simp
      have o1' : db.data.toList.length ≤ rb.data.toList.length := o1
      have o2' : rb.data.toList.take db.data.toList.length = db.data.toList := o2
      have o3' : eof = true → rb.data.toList.length ≤ db.data.toList.length := o3
      have o4' : eof = false → db.data.toList ≠ [] := o4
      rw [hdl, hrl] at o1' o3'
      rw [hdl] at o2'
      clear o1 o2 o3 o4
      have q0 := (hbw.cell (p := ⟨g, k * 2, none⟩) hg).trans hc0
      have q1 := (hbw.cell (p := ⟨g, k * 2 + 1, none⟩) hg).trans hc1
      rw [hdb1] at q0
      have f1 : decide (rb.size < db.size) = false := by rw [decide_eq_false_iff_not]; omega
      have f2 : ((rb.extract 0 db.size).toList == db.toList) = true := by
        have : rb.extract 0 db.size = db := by
          apply ByteArray.ext
          apply Array.toList_inj.1
          rw [ByteArray.data_extract, Array.toList_extract, List.extract_eq_take_drop, List.drop_zero, Nat.sub_zero]
          exact o2'
        rw [this]; simp
      obtain ⟨a0, a1, a2, a3, a4, a5, a6, a7, a8, a9, a10, a11⟩ := lawR_cells (lawR_step HB1.out (bel_tr HN8.out hbw))
      have HTN := Lib.hid htk2
      have hz0 := (bel_tr HN8.out hbw).size
      have hz1 := HB1.out.size
      simp at hz1
      have hz2 : w.heap.size < wr.heap.size := by omega
      have hz3 : w.heap.size + 1 < wr.heap.size := by omega
      have hz4 : w.heap.size + 1 + 1 < wr.heap.size := by omega
      have hz5 : w.heap.size < wr.heap.size := by omega
      clear hz0 hz1
      clear htk2 hdr hce hc0 hc1 hdb1 o2' HTk hbw
      cases eof with
      | true =>
        have f3 : decide (db.size < rb.size) = false := by have := o3' rfl; rw [decide_eq_false_iff_not]; omega
        clear o3' o4'
        go_wp2_with fail
        go_quiet (fail)
        go_wp2_with fail
        refine (HStep.out _ db true (bel_drewN ((lawR_base (lawR_step HB1.out (bel_tr HN8.out HBw.out))).alloc (Nat.le_of_lt hz5) _) _) (by omega)).mono ?_
        rintro e w9 ⟨rfl, nn, rfl⟩
        obtain ⟨e1, e2⟩ := step_ans u db.data.toList true
        have e3' := ansR_adv (u := u) db.data.toList true
        have htn := HTN.out
        generalize stepR u db.data.toList true = sr at *
        generalize ansR u db.data.toList true = sa at *
        obtain ⟨adv, tk, hv, en⟩ := sr
        obtain ⟨adv', tk', cdd⟩ := sa
        simp only at e1 e2 e3' htn
        subst e1
        rw [hdl] at e3'
        obtain ⟨a, rfl⟩ : ∃ a : Nat, adv = (a : Int) := ⟨adv.toNat, by omega⟩
        have ha : a ≤ rb.size := by omega
        by_cases hcd : cdd = 0
        · subst hcd
          have hen : en = 0 := e2
          subst hen
          rw [if_pos rfl] at htn
          have hsz : (rb.extract a rb.size).size ≤ s.size := by simp; omega
          have hdt : (rb.extract a rb.size).data.toList = rb.data.toList.drop a := by
            rw [ByteArray.data_extract, Array.toList_extract, List.extract_eq_take_drop]
            apply List.take_of_length_le
            rw [List.length_drop]
            omega
          have HTT := Lib.hid (show TrackR u (rb.extract a rb.size).data.toList (cl.drop (k + 1)) from by rw [hdt]; exact htn)
          clear htn hdt e2 e3'
          go_wp2_with fail
          go_roundw
          case rel => exact ⟨k + 1, _, by go_num, by omega, rfl, hsz, HTT.out, bel_drewN (HBw.out.alloc HBw.out.size _) _⟩
          case measure => simp [intOf]; omega
        · have hen : (en == 0) = false := by
            have : en ≠ 0 := by omega
            simpa using this
          rw [if_neg hcd] at htn
          have HTT := Lib.hid htn
          clear htn e2 e3'
          go_wp2_with fail
          go_roundw
          case rel => exact ⟨k + 1, _, by go_num, by omega, rfl, hrb, HTT.out, bel_drewN (HBw.out.alloc HBw.out.size _) _⟩
          case measure => simp [intOf]; omega
      | false =>
        have f4 := (toList_ne db (by have h4 := List.length_pos_iff.2 (o4' rfl); omega)).2
        clear o3' o4'
        go_wp2_with fail
        go_quiet (fail)
        go_wp2_with fail
        refine (HStep.out _ db false (bel_drewN ((lawR_base (lawR_step HB1.out (bel_tr HN8.out HBw.out))).alloc (Nat.le_of_lt hz5) _) _) (by omega)).mono ?_
        rintro e w9 ⟨rfl, nn, rfl⟩
        obtain ⟨e1, e2⟩ := step_ans u db.data.toList false
        have e3' := ansR_adv (u := u) db.data.toList false
        have htn := HTN.out
        generalize stepR u db.data.toList false = sr at *
        generalize ansR u db.data.toList false = sa at *
        obtain ⟨adv, tk, hv, en⟩ := sr
        obtain ⟨adv', tk', cdd⟩ := sa
        simp only at e1 e2 e3' htn
        subst e1
        rw [hdl] at e3'
        obtain ⟨a, rfl⟩ : ∃ a : Nat, adv = (a : Int) := ⟨adv.toNat, by omega⟩
        have ha : a ≤ rb.size := by omega
        by_cases hcd : cdd = 0
        · subst hcd
          have hen : en = 0 := e2
          subst hen
          rw [if_pos rfl] at htn
          have hsz : (rb.extract a rb.size).size ≤ s.size := by simp; omega
          have hdt : (rb.extract a rb.size).data.toList = rb.data.toList.drop a := by
            rw [ByteArray.data_extract, Array.toList_extract, List.extract_eq_take_drop]
            apply List.take_of_length_le
            rw [List.length_drop]
            omega
          have HTT := Lib.hid (show TrackR u (rb.extract a rb.size).data.toList (cl.drop (k + 1)) from by rw [hdt]; exact htn)
          clear htn hdt e2 e3'
          go_wp2_with fail
          go_roundw
          case rel => exact ⟨k + 1, _, by go_num, by omega, rfl, hsz, HTT.out, bel_drewN (HBw.out.alloc HBw.out.size _) _⟩
          case measure => simp [intOf]; omega
        · have hen : (en == 0) = false := by
            have : en ≠ 0 := by omega
            simpa using this
          rw [if_neg hcd] at htn
          have HTT := Lib.hid htn
          clear htn e2 e3'
          go_wp2_with fail
          go_roundw
          case rel => exact ⟨k + 1, _, by go_num, by omega, rfl, hrb, HTT.out, bel_drewN (HBw.out.alloc HBw.out.size _) _⟩
          case measure => simp [intOf]; omega
    · obtain rfl : k = cl.length := by omega
      go_wp2_with fail
      all_goals first
        | (exfalso; have := List.length_pos_iff.2 hne; omega)
        | (go_ret; exact ⟨rfl, lawR_base (lawR_step HB1.out (bel_tr HN8.out HBw.out))⟩)
/-- FnRuleCalls -/
theorem fnRuleC_walk (br : Bool) (hE : EnvC w.heap.size w E) (hi : Ints w pa pcs pc) (hbs : BoolsC w bp u.brks bc) (hs : s.size ≤ 4194304) (hpn : pcs.length ≤ 4194304) (hbn : u.brks.length ≤ 4194304) :
    Calls Tryd.prog 4 #[srcL s pa pcs.length pc tog br, roomV d c m, rulV u bp bc] w (TrueB w) := by
  cases hsz : sizedB d c m with
  | false => exact fnRuleC_f1 br hbs hs hsz
  | true =>
    by_cases h3 : limitN d c m < 3
    · exact fnRuleC_f2 br hbs hs hsz _ _ rfl rfl (.inl h3)
    · by_cases h4 : limitN d c m ≤ moR u 0 0 s.data.toList
      · exact fnRuleC_f2 br hbs hs hsz _ _ rfl rfl (.inr h4)
      · exact fnRuleC_t br hE hi hbs hs hpn hbn hsz _ _ rfl rfl (by omega) (by omega)
end
end Go.Proofs.YtkclapimgmnldaaDoor
