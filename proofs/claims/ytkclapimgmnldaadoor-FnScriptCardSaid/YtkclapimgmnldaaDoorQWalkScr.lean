/-
  The walk of FnScript.
-/
import Derived.Test.YtkclapimgmnldaaDoorQScrL
import Derived.Test.YtkclapimgmnldaaDoorQScrP
import Derived.Deep.DeepCutAuto
namespace Go.Proofs.YtkclapimgmnldaaDoor
set_option linter.unusedVariables false
set_option linter.unusedSimpArgs false
set_option maxRecDepth 20000
open Go.RowKit

theorem strs_formS {base : Nat} {w : World} {v : Value} {xs : List (List UInt8)} (h : StrsAt base w v xs) : ∃ a c, v = .slice a xs.length c := by
  rcases h.2 with ⟨h9, h0⟩ | ⟨g, cap, cur, h9, _⟩
  · exact ⟨none, 0, by rw [h9, h0]⟩
  · exact ⟨_, _, h9⟩
theorem limit_small {d : Bool} {c m : Int} (h : sizedB d c m = true) : limitN d c m ≤ 1000000 := by
  rcases sizedB_cases h with rfl | ⟨rfl, h1, h2⟩
  · simp [limitN]
  · simp [limitN]; omega
theorem lawX_five {w w' : World} {s : ByteArray} {pa : Option Addr} {pn pc : Nat} {tog br d : Bool} {c m : Int} {xp : Option Addr} {xn xc : Nat} {rep : Bool} (hb : Below (w.heap.size + 3) (lawX w s pa pn pc tog br d c m xp xn xc rep) w') :
    w'.cell? ⟨w.heap.size, 0, none⟩ = some (.string s) ∧ w'.cell? ⟨w.heap.size, 3, none⟩ = some (.bool br) ∧ w'.cell? ⟨w.heap.size + 1, 0, none⟩ = some (.bool d) ∧ w'.cell? ⟨w.heap.size + 1, 1, none⟩ = some (.int .i64 c) ∧ w'.cell? ⟨w.heap.size + 1, 2, none⟩ = some (.int .i64 m) := by
  obtain ⟨k0, k1, k2, k3, k4, k5, k6, k7, k8⟩ := lawX_cells hb
  exact ⟨k0, k3, k4, k5, k6⟩
theorem scr_box {w : World} {RB : Nat} {tv cv : Value} {e : Int} {ended pan : Bool} (h : w.heap[RB]? = some (.cells (runCells tv cv e ended pan) 61 (0, 0))) :
    w.cell? ⟨RB, 0, none⟩ = some tv ∧ w.cell? ⟨RB, 1, none⟩ = some cv ∧ w.cell? ⟨RB, 2, none⟩ = some (.int .i64 e) ∧ w.cell? ⟨RB, 3, none⟩ = some (.bool ended) ∧ w.cell? ⟨RB, 4, none⟩ = some (.bool pan) :=
  ⟨cell_of_heap h, cell_of_heap h, cell_of_heap h, cell_of_heap h, cell_of_heap h⟩
theorem fuTape_stepS (rs : List Rep) (rep : Bool) (x : TS) (d : List UInt8) (b : Bool) : fuTape x ≤ fuTape (splitTape rs rep x d b).sp + 1 := by
  unfold splitTape fuTape
  split <;> (simp; omega)
theorem EnvC.up {base base' : Nat} {w : World} {E : Nat → Addr} (h : EnvC base w E) (hb : base ≤ base') (hle : base' ≤ w.heap.size) : EnvC base' w E :=
  ⟨⟨⟨⟨h.e.g.errs.inj, fun c hc => ⟨Nat.lt_of_lt_of_le (h.e.g.errs.lies c hc).1 hb, (h.e.g.errs.lies c hc).2⟩⟩, h.e.g.eof, h.e.g.tooLong, h.e.g.neg, h.e.g.far, h.e.g.fin, Nat.lt_of_lt_of_le h.e.g.lt.1 hb, Nat.lt_of_lt_of_le h.e.g.lt.2.1 hb, Nat.lt_of_lt_of_le h.e.g.lt.2.2.1 hb, Nat.lt_of_lt_of_le h.e.g.lt.2.2.2.1 hb, Nat.lt_of_lt_of_le h.e.g.lt.2.2.2.2 hb⟩, h.e.rd, Nat.lt_of_lt_of_le h.e.lt hb, hle⟩, h.sp, Nat.lt_of_lt_of_le h.lts hb⟩
section
variable {w : World} {E : Nat → Addr} {s : ByteArray} {pa : Option Addr} {pcs : List Int} {pc : Nat} {tog d rep : Bool} {c m n : Int} {xp : Option Addr} {xc : Nat} {rs : List Rep}
set_option maxRecDepth 100000 in
set_option maxHeartbeats 8000000 in
theorem fnScript_t (br : Bool) (hE : EnvC w.heap.size w E) (hi : Ints w pa pcs pc) (hpn : pcs.length * 8 ≤ 140737488355328) (hx : RepsC w xp rs xc) (hfit : RepsFit rs) (hn : 0 ≤ n ∧ n ≤ 300) (hsz : sizedB d c m = true) (lim : Nat) (hl : limitN d c m = lim) (h4 : s.size + 1 < lim) (h5 : 3 ≤ lim)
    (hRep : ∀ (w' : World) (ca : Option Addr) (cc : Nat) (cl : List (List UInt8 × Bool)) (tk : List (List UInt8)) (e : Nat) (fin : Bool), RepsC w' xp rs xc → CallsC w' ca cl cc → tk.length ≤ 100000 → Track rs rep s.data.toList 0 [] cl (tk, e, fin) →
      Calls Tryd.prog 32 #[.string s, .agg #[.slice xp rs.length xc, .bool rep], .slice ca cl.length cc, .bool false] w' (RepPost tk e fin w')) :
    Calls Tryd.prog 10 #[srcL s pa pcs.length pc tog br, roomV d c m, .agg #[.slice xp rs.length xc, .bool rep], .int .i64 n] w (TrueB w) := by
  have hlim := limit_small hsz
  rw [hl] at hlim
  have hss : s.size ≤ 4194304 := by omega
  have HSz := Lib.hid (fun w => sized_bx hsz w)
  have HL := Lib.hid (fun w => limit_bx hl w)
  have hwr : IntKind.i64.wrap ((s.size : Int) + 1) = (s.size : Int) + 1 := by rw [IntKind.wrap_i64]; omega
  have d1 : decide (n < 0) = false := decide_eq_false (by omega)
  have d2 : decide (300 < n) = false := decide_eq_false (by omega)
  have d3 : decide ((lim : Int) ≤ (s.size : Int) + 1) = false := decide_eq_false (by omega)
  have d3n : decide (lim ≤ s.size + 1) = false := decide_eq_false (by omega)
  have d4 : decide ((lim : Int) < 3) = false := decide_eq_false (by omega)
  have d4n : decide (lim < 3) = false := decide_eq_false (by omega)
  have HX0 := Lib.hid (bel_dr (lawX_refl w s pa pcs.length pc tog br d c m xp rs.length xc rep))
  have HQ := Lib.hid (And.intro hE (And.intro hi (And.intro hx (And.intro hfit hsz))))
  have HRep := Lib.hid hRep
  have HLim := Lib.hid hl
  clear hE hi hx hfit hsz hl hRep
  go_enter Tryd.func10, Tryd.ntmps10
  go_upto_region 1 with fail
  go_cut [42] from 14 to 42 (fun s42 wx => s42 = .bool br ∧ Hid (Below (w.heap.size + 3) (lawX w s pa pcs.length pc tog br d c m xp rs.length xc rep) wx))
  case first =>
    go_region_held3 (fun w' => w'.cell? ⟨w.heap.size, 0, none⟩ = some (.string s) ∧ w'.cell? ⟨w.heap.size, 3, none⟩ = some (.bool br) ∧ w'.cell? ⟨w.heap.size + 1, 0, none⟩ = some (.bool d) ∧ w'.cell? ⟨w.heap.size + 1, 1, none⟩ = some (.int .i64 c) ∧ w'.cell? ⟨w.heap.size + 1, 2, none⟩ = some (.int .i64 m))
      (first
        | exact lawX_five HX3.out
        | exact lawX_five HX2.out
        | exact lawX_five HX1.out
        | go_keep)
      (first
        | (go_at_call 12; refine (HSz.out _).mono ?_; rintro e w1 ⟨rfl, hb1⟩; have HX1 := Lib.hid (lawX_step HX0.out hb1); clear hb1)
        | (go_at_call 13; refine (HL.out _).mono ?_; rintro e w3 ⟨rfl, hb3⟩; have HX3 := Lib.hid (lawX_step HX2.out hb3); clear hb3)
        | (go_at_call 13; refine (HL.out _).mono ?_; rintro e w2 ⟨rfl, hb2⟩; have HX2 := Lib.hid (lawX_step HX1.out hb2); clear hb2))
    go_wp2_with fail
    go_meet
    exact ⟨rfl, HX3⟩
  case rest =>
    obtain ⟨rfl, hcx⟩ := hcut
    clear d3 d3n d4 d4n hwr HL HSz
    cases br with
    | true =>
      go_wp2_with fail
      go_ret
      exact ⟨rfl, lawX_base hcx.out⟩
    | false =>
      go_wp2_with fail
      refine regionScript (w := wc) (W := wc) (Below.refl _ _) ((HQ.out.1.later (lawX_base hcx.out)).up (lawX_base hcx.out).size (Nat.le_refl _)) (HQ.out.2.1.below (lawX_base hcx.out)) hpn (HQ.out.2.2.1.below (lawX_base hcx.out)) HQ.out.2.2.2.1.1 (lawX_heap hcx.out).1 (lawX_heap hcx.out).2.1 (lawX_heap hcx.out).2.2
        (fun {w' pa2 pc2 pl2 rp rc rl} h1 h2 h3 h4' h5' h6 => byScript_any (fu := fuTape) (s := s) (tog := tog) d false n h1 h2 (by omega) HQ.out.2.2.2.2 h3 h4' h5' h6 (by omega) (by omega) (fun i r hr => HQ.out.2.2.2.1.2 r (List.mem_of_getElem? hr)) (fun x hx => by unfold fuTape at hx; omega) (fun x d b => .inr (.inr (fuTape_stepS _ _ x d b))) (by simp [fuTape]; omega)) _ ?_
      intro v43 v44 v45 v46 v47 v48 v49 RB ts x' ended pan tv ca cn cc w' hb hRB0 hWs hRB hran
      have HB := Lib.hid (lawX_step hcx.out hb)
      have hcl := CallsC.of hran.calls
      obtain ⟨rfl, hcc⟩ := hcl
      have HST := Lib.hid hran.strs
      obtain ⟨ta, tc, rfl⟩ := strs_formS hran.strs
      rw [code_errN] at hRB
      have HRB := Lib.hid hRB
      have HRun := Lib.hid hran.run
      have HCC := Lib.hid hcc
      clear hb hRB hran hcc hRB0 hWs
      dsimp only
      obtain ⟨a0, a1, a2, a3, a4, a5, a6, a7, a8⟩ := lawX_cells HB.out
      obtain ⟨k0, k1, k2, k3, k4⟩ := scr_box HRB.out
      by_cases hn0 : n = 0
      · subst hn0
        obtain ⟨rfl, rfl, rfl, rfl⟩ := runs_zero HRun.out
        have HC := Lib.hid (HRep.out w' ca cc [] [] 0 false (HQ.out.2.2.1.below (lawX_base HB.out)) HCC.out (by simp) rfl)
        clear HRep HRun HCC HQ hcx hn
        go_wp2_with fail
        refine HC.out.mono ?_
        rintro e w3 ⟨v, rfl, hst, hb3⟩
        obtain ⟨va, vc, rfl⟩ := strs_formS hst
        clear a0 a1 a2 a3 a4 a5 a6 a7 a8 k0 k1 k2 k3 k4
        obtain ⟨a0, a1, a2, a3, a4, a5, a6, a7, a8⟩ := lawX_cells (lawX_step HB.out hb3)
        obtain ⟨k0, k1, k2, k3, k4⟩ := scr_box ((Below.block hb3 RB (lt_of_heap HRB.out)).trans HRB.out)
        have k2' : w3.cell? ⟨RB, 2, none⟩ = some (.int .i64 0) := k2
        have HB3 := Lib.hid (lawX_base (lawX_step HB.out hb3))
        clear k2 hst hb3 HRB HC
        go_wp2_with fail
        go_ret
        exact ⟨rfl, HB3.out⟩
      · have hlen : s.data.toList.length < limitN d c m := by
          have h1 : s.data.toList.length = s.size := by simp
          have h2 := HLim.out
          omega
        obtain ⟨tk, e, fin, hT, hpan, hnop⟩ := script_run (text := s.data.toList) (lim := limitN d c m) rfl rfl rfl rfl rfl hlen HRun.out
        have HT := Lib.hid hT
        have g2 : (n == 0) = false := by simp [hn0]
        clear hT hlen hcx
        cases pan with
        | true =>
          obtain ⟨hEm, he0, hlt, hend, t1, rfl⟩ := hpan rfl
          subst hend
          have hcount : (ts ++ [t1]).length ≤ 100000 := by simp; omega
          have HC := Lib.hid (HRep.out w' ca cc x'.sp.calls (ts ++ [t1]) e fin (HQ.out.2.2.1.below (lawX_base HB.out)) HCC.out hcount HT.out)
          have HEm := Lib.hid (fun wr (hb : Below w.heap.size w wr) => empties_yes rs xp xc rep wr (HQ.out.2.2.1.below hb) hEm)
          have g1 : decide (n < (((ts ++ [t1]).length : Nat) : Int)) = false := by rw [decide_eq_false_iff_not]; simp; omega
          clear hpan hnop hEm he0 HRep HRun HCC HQ HT hcount
          generalize hlx : (ts ++ [t1]).length = lx at g1
          generalize x'.sp.calls.length = cn at *
          go_wp2_with fail
          refine HC.out.mono ?_
          rintro e3 w3 ⟨v, rfl, hst, hb3⟩
          obtain ⟨va, vc, rfl⟩ := strs_formS hst
          rw [hlx]
          clear a0 a1 a2 a3 a4 a5 a6 a7 a8 k0 k1 k2 k3 k4
          obtain ⟨a0, a1, a2, a3, a4, a5, a6, a7, a8⟩ := lawX_cells (lawX_step HB.out hb3)
          obtain ⟨k0, k1, k2, k3, k4⟩ := scr_box ((Below.block hb3 RB (lt_of_heap HRB.out)).trans HRB.out)
          have HB3 := Lib.hid hb3
          have HS3 := Lib.hid hst.strs
          clear hst hb3 HC
          go_wp2_with fail
          refine (HEm.out _ (lawX_base (lawX_step HB.out HB3.out))).mono ?_
          rintro e4 w4 ⟨rfl, hb4⟩
          clear a0 a1 a2 a3 a4 a5 a6 a7 a8 k0 k1 k2 k3 k4
          obtain ⟨a0, a1, a2, a3, a4, a5, a6, a7, a8⟩ := lawX_cells (lawX_step HB.out (bel_tr HB3.out hb4))
          obtain ⟨k0, k1, k2, k3, k4⟩ := scr_box ((Below.block (bel_tr HB3.out hb4) RB (lt_of_heap HRB.out)).trans HRB.out)
          have HB4 := Lib.hid (bel_tr HB3.out hb4)
          have HS4 := Lib.hid (HS3.out.below hb4)
          have HT4 := Lib.hid (HST.out.strs.below (bel_tr HB3.out hb4))
          clear hb4 HEm HS3 HB3
          rw [hlx] at HS4
          go_wp2_with fail
          refine (begins_yes ta tc ts [t1] _ w4 HT4.out HS4.out).mono ?_
          rintro e5 w5 ⟨rfl, hb5⟩
          go_wp2_with fail
          go_ret
          exact ⟨rfl, bel_tr (lawX_base (lawX_step HB.out HB4.out)) hb5⟩
        | false =>
          obtain ⟨rfl, hle, h1, h2⟩ := hnop rfl
          have HC := Lib.hid (HRep.out w' ca cc x'.sp.calls tk e fin (HQ.out.2.2.1.below (lawX_base HB.out)) HCC.out (by omega) HT.out)
          have hln : (tk.length : Int) ≤ n := by omega
          have g1 : decide (n < (tk.length : Int)) = false := by rw [decide_eq_false_iff_not]; omega
          clear hpan HRep HRun HCC HQ HT
          generalize x'.sp.calls.length = cn at *
          cases ended with
          | true =>
            obtain ⟨rfl, hlt, hee⟩ := h1 rfl
            rw [← hee] at HRB k2
            have g3 : decide ((tk.length : Int) < n) = true := by rw [decide_eq_true_eq]; omega
            clear h1 h2 hee hle hln hlt hnop
            obtain ⟨lx, hlx⟩ : ∃ lx, tk.length = lx := ⟨_, rfl⟩
            rw [hlx] at k0 g1 g3 HRB ⊢
            go_wp2_with fail
            refine HC.out.mono ?_
            rintro e3 w3 ⟨v, rfl, hst, hb3⟩
            obtain ⟨va, vc, rfl⟩ := strs_formS hst
            rw [hlx]
            clear a0 a1 a2 a3 a4 a5 a6 a7 a8 k0 k1 k2 k3 k4
            obtain ⟨a0, a1, a2, a3, a4, a5, a6, a7, a8⟩ := lawX_cells (lawX_step HB.out hb3)
            obtain ⟨k0, k1, k2, k3, k4⟩ := scr_box ((Below.block hb3 RB (lt_of_heap HRB.out)).trans HRB.out)
            have HB3 := Lib.hid hb3
            have HS3 := Lib.hid hst.strs
            have HT3 := Lib.hid (HST.out.strs.below hb3)
            clear hst hb3 HC HST
            rw [hlx] at HS3 HT3
            go_wp2_with fail
            refine (same_yes _ _ _ _ HT3.out HS3.out).mono ?_
            rintro e4 w4 ⟨rfl, nn, rfl⟩
            go_wp2_with fail
            go_ret
            exact ⟨rfl, bel_drewR (lawX_base (lawX_step HB.out HB3.out)) nn⟩
          | false =>
            obtain ⟨hl2, hz⟩ := h2 rfl
            obtain ⟨lx, hlx⟩ : ∃ lx, tk.length = lx := ⟨_, rfl⟩
            obtain rfl : n = (lx : Int) := by omega
            rw [hz] at HRB k2
            rw [hlx] at k0 g1 HRB ⊢
            have k2' : w'.cell? ⟨RB, 2, none⟩ = some (.int .i64 0) := k2
            clear h1 h2 hz hle hln hl2 hnop k2
            go_wp2_with fail
            refine HC.out.mono ?_
            rintro e3 w3 ⟨v, rfl, hst, hb3⟩
            clear k2'
            obtain ⟨va, vc, rfl⟩ := strs_formS hst
            rw [hlx]
            clear a0 a1 a2 a3 a4 a5 a6 a7 a8 k0 k1 k3 k4
            obtain ⟨a0, a1, a2, a3, a4, a5, a6, a7, a8⟩ := lawX_cells (lawX_step HB.out hb3)
            obtain ⟨k0, k1, k2, k3, k4⟩ := scr_box ((Below.block hb3 RB (lt_of_heap HRB.out)).trans HRB.out)
            have HB3 := Lib.hid hb3
            have HS3 := Lib.hid hst.strs
            have HT3 := Lib.hid (HST.out.strs.below hb3)
            clear hst hb3 HC HST
            rw [hlx] at HS3 HT3
            have k2' : w3.cell? ⟨RB, 2, none⟩ = some (.int .i64 0) := k2
            clear k2
            cases fin
            all_goals
              go_wp2_with fail
              refine (same_yes _ _ _ _ HT3.out HS3.out).mono ?_
              rintro e4 w4 ⟨rfl, nn, rfl⟩
              go_wp2_with fail
              go_ret
              exact ⟨rfl, bel_drewR (lawX_base (lawX_step HB.out HB3.out)) nn⟩
end
end Go.Proofs.YtkclapimgmnldaaDoor
