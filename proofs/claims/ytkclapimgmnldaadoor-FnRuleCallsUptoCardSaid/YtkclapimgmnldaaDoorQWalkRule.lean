/-
  The walk of FnRule.
-/
import Derived.Test.YtkclapimgmnldaaDoorQByRule
import Derived.Test.YtkclapimgmnldaaDoorQC
import Derived.Test.YtkclapimgmnldaaDoorQU
import Derived.Test.YtkclapimgmnldaaDoorQO
import Derived.Test.YtkclapimgmnldaaDoorQHelp
namespace Go.Proofs.YtkclapimgmnldaaDoor
set_option linter.unusedVariables false
set_option linter.unusedSimpArgs false
set_option maxRecDepth 20000
open Go.RowKit

theorem BoolsC.bools {w : World} {bs : List Bool} {bp : Option Addr} {bc : Nat} (h : BoolsC w bp bs bc) : Bools w bs bp := fun i b hi => by
  obtain ⟨k, q, e, hc⟩ := h.cells i b hi
  exact ⟨k, q, e, hc⟩
/-- what the error of a run by a rule is -/
theorem rend_code {u : Rl} {all : List (List UInt8) × Bool} {text : List UInt8} {ts : List (List UInt8)} {x : Sm RS} (h : REndC u 0 all text ts x) : ts = all.1 ∧ codeI (errOf x.err) = if all.2 then 4 else 0 := by
  obtain ⟨⟨h1, h2, h3⟩, -, -⟩ := h
  refine ⟨h1, ?_⟩
  rcases h3 rfl with ⟨h4, h5⟩ | ⟨h4, h5 | h5⟩
  · rw [h4, h5]; rfl
  · rw [h4, h5]; rfl
  · rw [h4, h5]; rfl
theorem rend_le {u : Rl} {endE : Nat} (he : endE ≤ 5) {all : List (List UInt8) × Bool} {text : List UInt8} {ts : List (List UInt8)} {x : Sm RS} (h : REndC u endE all text ts x) : ∀ k, x.err = some k → k ≤ 5 := by
  intro k hk
  obtain ⟨⟨h1, h2, h3⟩, -, -⟩ := h
  rw [hk] at h2
  rcases h2 with h2 | h2 | h2
  · cases h2
  · have := Option.some.inj h2; omega
  · have := Option.some.inj h2; omega

section
variable {w : World} {E : Nat → Addr} {s : ByteArray} {pa : Option Addr} {pcs : List Int} {pc : Nat} {tog d : Bool} {c m : Int} {u : Rl} {bp : Option Addr} {bc : Nat}
set_option maxRecDepth 100000 in
set_option maxHeartbeats 1000000 in
theorem fnRule_br (hbs : BoolsC w bp u.brks bc) (hs : s.size ≤ 4194304) :
    Calls Tryd.prog 3 #[srcL s pa pcs.length pc tog true, roomV d c m, rulV u bp bc] w (TrueB w) := by
  have HC := Lib.hid (fun w' (hb : Below w.heap.size w w') => cut_any (u := u) (bp := bp) (bc := bc) (w := w') (s := s) (hbs.bools.below hb) ⟨hbs.le, hbs.cap⟩ hs)
  clear hbs
  go_enter Tryd.func3, Tryd.ntmps3
  go_wp2_with fail
  refine (HC.out _ (lawR_below w s pa pcs.length pc tog true d c m u bp bc)).mono ?_
  rintro e w1 ⟨v, rfl, hst, hb1⟩
  have hb1' : Below (w.heap.size + 3) (lawR w s pa pcs.length pc tog true d c m u bp bc) w1 := by simpa using hb1
  have HB1 := Lib.hid hb1'
  obtain ⟨a0, a1, a2, a3, a4, a5, a6, a7⟩ := lawR_cells hb1'
  clear hb1 hb1' hst HC
  generalize toksR u [] s.data.toList = al at *
  generalize moR u 0 0 s.data.toList = mo at *
  obtain ⟨xs, fl⟩ := al
  go_wp2_with fail
  go_ret
  exact ⟨rfl, lawR_base HB1.out⟩
set_option maxRecDepth 100000 in
set_option maxHeartbeats 2000000 in
theorem fnRule_f1 (hbs : BoolsC w bp u.brks bc) (hs : s.size ≤ 4194304) (hsz : sizedB d c m = false) :
    Calls Tryd.prog 3 #[srcL s pa pcs.length pc tog false, roomV d c m, rulV u bp bc] w (TrueB w) := by
  have HC := Lib.hid (fun w' (hb : Below w.heap.size w w') => cut_any (u := u) (bp := bp) (bc := bc) (w := w') (s := s) (hbs.bools.below hb) ⟨hbs.le, hbs.cap⟩ hs)
  clear hbs
  have HSz := Lib.hid (fun w => sized_b hsz w)
  clear hsz
  go_enter Tryd.func3, Tryd.ntmps3
  go_wp2_with fail
  refine (HC.out _ (lawR_below w s pa pcs.length pc tog false d c m u bp bc)).mono ?_
  rintro e w1 ⟨v, rfl, hst, hb1⟩
  have hb1' : Below (w.heap.size + 3) (lawR w s pa pcs.length pc tog false d c m u bp bc) w1 := by simpa using hb1
  have HB1 := Lib.hid hb1'
  obtain ⟨a0, a1, a2, a3, a4, a5, a6, a7⟩ := lawR_cells hb1'
  clear hb1 hb1' hst HC
  generalize toksR u [] s.data.toList = al at *
  generalize moR u 0 0 s.data.toList = mo at *
  obtain ⟨xs, fl⟩ := al
  go_wp2_with fail
  refine (HSz.out _).mono ?_
  rintro e w2 ⟨rfl, hb2⟩
  have HB2 := Lib.hid (lawR_step HB1.out hb2)
  go_wp2_with fail
  go_ret
  exact ⟨rfl, lawR_base HB2.out⟩
set_option maxRecDepth 100000 in
set_option maxHeartbeats 2000000 in
theorem fnRule_f2 (hbs : BoolsC w bp u.brks bc) (hs : s.size ≤ 4194304) (hsz : sizedB d c m = true) (n mo : Nat) (hn : limitN d c m = n) (hmo : moR u 0 0 s.data.toList = mo) (hf : n < 3 ∨ n ≤ mo) :
    Calls Tryd.prog 3 #[srcL s pa pcs.length pc tog false, roomV d c m, rulV u bp bc] w (TrueB w) := by
  have HC := Lib.hid (fun w' (hb : Below w.heap.size w w') => cut_any (u := u) (bp := bp) (bc := bc) (w := w') (s := s) (hbs.bools.below hb) ⟨hbs.le, hbs.cap⟩ hs)
  clear hbs
  have HSz := Lib.hid (fun w => sized_b hsz w)
  have HL := Lib.hid (fun w => limit_b hn w)
  clear hsz hn
  by_cases h3 : n < 3
  · have e3 : decide ((n : Int) < 3) = true := by rw [decide_eq_true_eq]; omega
    go_enter Tryd.func3, Tryd.ntmps3
    go_wp2_with fail
    refine (HC.out _ (lawR_below w s pa pcs.length pc tog false d c m u bp bc)).mono ?_
    rintro e w1 ⟨v, rfl, hst, hb1⟩
    have hb1' : Below (w.heap.size + 3) (lawR w s pa pcs.length pc tog false d c m u bp bc) w1 := by simpa using hb1
    have HB1 := Lib.hid hb1'
    obtain ⟨a0, a1, a2, a3, a4, a5, a6, a7⟩ := lawR_cells hb1'
    clear hb1 hb1' hst HC
    rw [hmo]
    clear hmo
    generalize toksR u [] s.data.toList = al at *
    obtain ⟨xs, fl⟩ := al
    go_wp2_with fail
    refine (HSz.out _).mono ?_
    rintro e w2 ⟨rfl, hb2⟩
    have HB2 := Lib.hid (lawR_step HB1.out hb2)
    clear a0 a1 a2 a3 a4 a5 a6 a7
    obtain ⟨a0, a1, a2, a3, a4, a5, a6, a7⟩ := lawR_cells HB2.out
    clear hb2
    go_wp2_with fail
    refine (HL.out _).mono ?_
    rintro e w3 ⟨rfl, hb3⟩
    have HB3 := Lib.hid (lawR_step HB2.out hb3)
    clear a0 a1 a2 a3 a4 a5 a6 a7
    obtain ⟨a0, a1, a2, a3, a4, a5, a6, a7⟩ := lawR_cells HB3.out
    clear hb3
    go_wp2_with fail
    go_ret
    exact ⟨rfl, lawR_base HB3.out⟩
  · have e3 : decide ((n : Int) < 3) = false := by rw [decide_eq_false_iff_not]; omega
    have e4 : decide ((n : Int) ≤ (mo : Int)) = true := by rw [decide_eq_true_eq]; omega
    go_enter Tryd.func3, Tryd.ntmps3
    go_wp2_with fail
    refine (HC.out _ (lawR_below w s pa pcs.length pc tog false d c m u bp bc)).mono ?_
    rintro e w1 ⟨v, rfl, hst, hb1⟩
    have hb1' : Below (w.heap.size + 3) (lawR w s pa pcs.length pc tog false d c m u bp bc) w1 := by simpa using hb1
    have HB1 := Lib.hid hb1'
    obtain ⟨a0, a1, a2, a3, a4, a5, a6, a7⟩ := lawR_cells hb1'
    clear hb1 hb1' hst HC
    rw [hmo]
    clear hmo
    generalize toksR u [] s.data.toList = al at *
    obtain ⟨xs, fl⟩ := al
    go_wp2_with fail
    refine (HSz.out _).mono ?_
    rintro e w2 ⟨rfl, hb2⟩
    have HB2 := Lib.hid (lawR_step HB1.out hb2)
    clear a0 a1 a2 a3 a4 a5 a6 a7
    obtain ⟨a0, a1, a2, a3, a4, a5, a6, a7⟩ := lawR_cells HB2.out
    clear hb2
    go_wp2_with fail
    refine (HL.out _).mono ?_
    rintro e w3 ⟨rfl, hb3⟩
    have HB3 := Lib.hid (lawR_step HB2.out hb3)
    clear a0 a1 a2 a3 a4 a5 a6 a7
    obtain ⟨a0, a1, a2, a3, a4, a5, a6, a7⟩ := lawR_cells HB3.out
    clear hb3
    go_wp2_with fail
    refine (HL.out _).mono ?_
    rintro e w4 ⟨rfl, hb4⟩
    have HB4 := Lib.hid (lawR_step HB3.out hb4)
    clear a0 a1 a2 a3 a4 a5 a6 a7
    obtain ⟨a0, a1, a2, a3, a4, a5, a6, a7⟩ := lawR_cells HB4.out
    clear hb4
    go_wp2_with fail
    go_ret
    exact ⟨rfl, lawR_base HB4.out⟩
set_option maxRecDepth 100000 in
set_option maxHeartbeats 4000000 in
theorem fnRule_t (hE : EnvC w.heap.size w E) (hi : Ints w pa pcs pc) (hbs : BoolsC w bp u.brks bc) (hs : s.size ≤ 4194304) (hpn : pcs.length ≤ 4194304) (hbn : u.brks.length ≤ 4194304) (hsz : sizedB d c m = true) (n mo : Nat) (hn : limitN d c m = n) (hmo : moR u 0 0 s.data.toList = mo) (h3 : 3 ≤ n) (h4 : mo < n) :
    Calls Tryd.prog 3 #[srcL s pa pcs.length pc tog false, roomV d c m, rulV u bp bc] w (TrueB w) := by
  have HC := Lib.hid (fun w' (hb : Below w.heap.size w w') => cut_any (u := u) (bp := bp) (bc := bc) (w := w') (s := s) (hbs.bools.below hb) ⟨hbs.le, hbs.cap⟩ hs)
  have HSz := Lib.hid (fun w => sized_b hsz w)
  have HL := Lib.hid (fun w => limit_b hn w)
  have hll : s.data.toList.length = s.size := by simp
  have hfit : fitsR u (limitN d c m) [] s.data.toList := moR_fits (by omega) _ _ 0 0 (Nat.le_refl _) rfl (by omega)
  have HA := Lib.hid (fun w' pa' pc' pl' bp' bc' rl' (h1 : EnvC w.heap.size w' E) (h2 : PcsAt w.heap.size w' pa' pcs pc' pl') (h5 : BrksAt w' u.brks bp' rl') (h6 : u.brks.length ≤ bc' ∧ bc' ≤ 9223372036854775807) (h7 : rl'.Nodup) (h8 : ∀ k, k ∈ rl' → w.heap.size ≤ k ∧ k < w'.heap.size ∧ k ∉ pl') =>
    byRule_any (s := s) (tog := tog) (c := c) (m := m) d false h1 h2 hs hsz h5 h6 h7 h8 (REndC u 0 (toksR u [] s.data.toList) s.data.toList) (s.data.toList.length + 1) (by omega) (rule_all (tog := tog) (by omega) _ hfit) (fun ts x h => rend_le (by omega) h))
  have HS := Lib.hid (fun w' (h : Ints w' pa pcs pc) => toSource_any s pa pcs pc tog false w' h (by omega))
  have HR := Lib.hid (fun w' (h : BoolsC w' bp u.brks bc) => toRule_any u bp bc w' h (by omega))
  have HI := Lib.hid hi
  have HBs := Lib.hid hbs
  have HE := Lib.hid hE
  have e3 : decide ((n : Int) < 3) = false := by rw [decide_eq_false_iff_not]; omega
  have e4 : decide ((n : Int) ≤ (mo : Int)) = false := by rw [decide_eq_false_iff_not]; omega
  clear hsz hn hi hbs hE hfit hll
  go_enter Tryd.func3, Tryd.ntmps3
  go_wp2_with fail
  refine (HC.out _ (lawR_below w s pa pcs.length pc tog false d c m u bp bc)).mono ?_
  rintro e w1 ⟨v, rfl, hst, hb1⟩
  have hb1' : Below (w.heap.size + 3) (lawR w s pa pcs.length pc tog false d c m u bp bc) w1 := by simpa using hb1
  have HB1 := Lib.hid hb1'
  obtain ⟨a0, a1, a2, a3, a4, a5, a6, a7⟩ := lawR_cells hb1'
  have HST := Lib.hid hst.strs
  clear hb1 hb1' hst HC
  rw [hmo]
  clear hmo
  generalize toksR u [] s.data.toList = al at *
  obtain ⟨xs, fl⟩ := al
  go_wp2_with fail
  refine (HSz.out _).mono ?_
  rintro e w2 ⟨rfl, hb2⟩
  have HN2 := Lib.hid hb2
  clear a0 a1 a2 a3 a4 a5 a6 a7
  obtain ⟨a0, a1, a2, a3, a4, a5, a6, a7⟩ := lawR_cells (lawR_step HB1.out HN2.out)
  clear hb2
  go_wp2_with fail
  refine (HL.out _).mono ?_
  rintro e w3 ⟨rfl, hb3⟩
  have HN3 := Lib.hid (bel_tr HN2.out hb3)
  clear a0 a1 a2 a3 a4 a5 a6 a7
  obtain ⟨a0, a1, a2, a3, a4, a5, a6, a7⟩ := lawR_cells (lawR_step HB1.out HN3.out)
  clear hb3
  go_wp2_with fail
  refine (HL.out _).mono ?_
  rintro e w4 ⟨rfl, hb4⟩
  have HN4 := Lib.hid (bel_tr HN3.out hb4)
  clear a0 a1 a2 a3 a4 a5 a6 a7
  obtain ⟨a0, a1, a2, a3, a4, a5, a6, a7, a8, a9, a10, a11⟩ := lawR_cells (lawR_step HB1.out HN4.out)
  clear hb4
  go_wp2_with fail
  clear HN2 HN3
  go_region_held3 (fun w' => w'.cell? ⟨w.heap.size, 0, none⟩ = some (.string s) ∧ w'.cell? ⟨w.heap.size, 1, none⟩ = some (.slice pa pcs.length pc) ∧ w'.cell? ⟨w.heap.size, 2, none⟩ = some (.bool tog) ∧ w'.cell? ⟨w.heap.size, 3, none⟩ = some (.bool false) ∧
      w'.cell? ⟨w.heap.size + 1, 0, none⟩ = some (.bool d) ∧ w'.cell? ⟨w.heap.size + 1, 1, none⟩ = some (.int .i64 c) ∧ w'.cell? ⟨w.heap.size + 1, 2, none⟩ = some (.int .i64 m) ∧
      w'.cell? ⟨w.heap.size + 2, 0, none⟩ = some (.slice bp u.brks.length bc) ∧ w'.cell? ⟨w.heap.size + 2, 1, none⟩ = some (.bool u.keep) ∧ w'.cell? ⟨w.heap.size + 2, 2, none⟩ = some (.bool u.skip) ∧ w'.cell? ⟨w.heap.size + 2, 3, none⟩ = some (.int .i64 u.stop) ∧ w'.cell? ⟨w.heap.size + 2, 4, none⟩ = some (.int .i64 u.fail))
    (first
      | exact lawR_cells (lawR_step HB1.out HN8.out)
      | exact lawR_cells (lawR_step HB1.out HN7.out)
      | exact lawR_cells (lawR_step HB1.out HN6.out)
      | exact lawR_cells (lawR_step HB1.out HN5.out)
      | go_keep)
    (first
      | (go_at_call 15; refine (HS.out _ (HI.out.below (lawR_base (lawR_step HB1.out HN4.out.drew)))).mono ?_; rintro e w5 ⟨pa2, pc2, pl2, rfl, hp5, hb5⟩; have HN5 := Lib.hid (bel_tr HN4.out.drew hb5); have HP5 := Lib.hid hp5; clear hp5 hb5)
      | (go_at_call 16; refine (toRoom_any _ _ _ _).mono ?_; rintro e w6 ⟨rfl, hb6⟩; have HN6 := Lib.hid (bel_tr HN5.out hb6); have HP6 := Lib.hid (pcs_later HP5.out hb6); clear hb6)
      | (go_at_call 17; refine (HR.out _ (HBs.out.below (lawR_base (lawR_step HB1.out HN6.out)))).mono ?_; rintro e w7 ⟨bp2, bc2, rl2, rfl, hr1, hr2, hr3, hr4, hb7⟩; have HN7 := Lib.hid (bel_tr HN6.out hb7); have HP7 := Lib.hid (pcs_later HP6.out hb7); have HR7 := Lib.hid (And.intro hr1 (And.intro hr2 (And.intro hr3 hr4))); clear hb7 hr1 hr2 hr3 hr4)
      | (go_at_call 14; refine (HA.out _ _ _ _ _ _ _ (HE.out.later (lawR_base (lawR_step HB1.out HN7.out))) (pcs_frame HP7.out (lawR_base (lawR_step HB1.out HN4.out)).size (fun _ _ => rfl) (Nat.le_refl _)) HR7.out.1 HR7.out.2.1 HR7.out.2.2.1 (fun k hk => ⟨Nat.le_trans (lawR_base (lawR_step HB1.out HN6.out)).size (HR7.out.2.2.2 k hk).1, (HR7.out.2.2.2 k hk).2, fun hm => by have h1 := (HP6.out.hlt k hm).2; have h2 := (HR7.out.2.2.2 k hk).1; omega⟩)).mono ?_; rintro e w8 ⟨ts, x, tv, ca, cn, cc, rfl, hP, hst8, hcalls, hoff⟩; have HN8 := Lib.hid (HN7.out.trans (hoff.below HN7.out.size (fun k hk => by
          rcases List.mem_append.1 hk with hk | hk
          · have h1 := (HP5.out.hlt k hk).1; have h2 := HN4.out.size; simp at h1 h2; omega
          · have h1 := (HR7.out.2.2.2 k hk).1; have h2 := HN6.out.size; omega))); have HCD := Lib.hid (rend_code hP); have HF := Lib.hid hst8.strs; clear hst8 hcalls hoff hP; generalize codeI (errOf x.err) = cd at *))
  obtain ⟨hts, hcd⟩ := HCD.out
  have hts' : ts = xs := hts
  subst hts'
  have HBB := Lib.hid (lawR_base (lawR_step HB1.out HN8.out))
  have HST8 := Lib.hid (HST.out.below HN8.out)
  clear HCD hts HB1 HN4 HN5 HN6 HN7 HN8 HP5 HP6 HP7 HR7 HA HS HR HI HBs HE HL HSz a0 a1 a2 a3 a4 a5 a6 a7 a8 a9 a10 a11
  cases fl with
  | true =>
    have hcd' : cd = 4 := hcd
    clear hcd
    subst hcd'
    go_wp2_with fail
    refine (same_yes _ _ _ _ HF.out HST8.out).mono ?_
    rintro e w9 ⟨rfl, nn, rfl⟩
    go_wp2_with fail
    go_ret
    exact ⟨rfl, below_drewN HBB.out nn⟩
  | false =>
    have hcd' : cd = 0 := hcd
    clear hcd
    subst hcd'
    go_wp2_with fail
    refine (same_yes _ _ _ _ HF.out HST8.out).mono ?_
    rintro e w9 ⟨rfl, nn, rfl⟩
    go_wp2_with fail
    go_ret
    exact ⟨rfl, below_drewN HBB.out nn⟩
/-- FnRule -/
theorem fnRule_walk (br : Bool) (hE : EnvC w.heap.size w E) (hi : Ints w pa pcs pc) (hbs : BoolsC w bp u.brks bc) (hs : s.size ≤ 4194304) (hpn : pcs.length ≤ 4194304) (hbn : u.brks.length ≤ 4194304) :
    Calls Tryd.prog 3 #[srcL s pa pcs.length pc tog br, roomV d c m, rulV u bp bc] w (TrueB w) := by
  cases br with
  | true => exact fnRule_br hbs hs
  | false =>
    cases hsz : sizedB d c m with
    | false => exact fnRule_f1 hbs hs hsz
    | true =>
      by_cases h3 : limitN d c m < 3
      · exact fnRule_f2 hbs hs hsz _ _ rfl rfl (.inl h3)
      · by_cases h4 : limitN d c m ≤ moR u 0 0 s.data.toList
        · exact fnRule_f2 hbs hs hsz _ _ rfl rfl (.inr h4)
        · exact fnRule_t hE hi hbs hs hpn hbn hsz _ _ rfl rfl (by omega) (by omega)
end
end Go.Proofs.YtkclapimgmnldaaDoor
