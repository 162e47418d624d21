/-
  laws.replay: the calls of a script followed again. (The round is printed by gen_rep.py.)
-/
import Derived.Test.YtkclapimgmnldaaDoorQRepD
import Derived.Deep.DeepCutAuto
namespace Go.Proofs.YtkclapimgmnldaaDoor
set_option linter.unusedVariables false
set_option linter.unusedSimpArgs false
set_option maxRecDepth 20000
open Go.RowKit

section
variable {rs : List Rep} {rep : Bool} {xp ca : Option Addr} {xc cc : Nat} {cl : List (List UInt8 × Bool)} {s : ByteArray} {w : World} {tk : List (List UInt8)} {e : Nat} {fin : Bool}
set_option maxRecDepth 100000 in
set_option maxHeartbeats 40000000 in
theorem replay_any (br : Bool) (hx : RepsC w xp rs xc) (hc : CallsC w ca cl cc) (hs : s.size ≤ 4194304) (htk : tk.length ≤ 100000) (hT : Track rs rep s.data.toList 0 [] cl (tk, e, fin)) :
    Calls Tryd.prog 32 #[.string s, .agg #[.slice xp rs.length xc, .bool rep], .slice ca cl.length cc, .bool br] w (RepPost tk e fin w) := by
  obtain ⟨i0, hi, hz0, hz1, hz2⟩ := info_parts info_str
  have HX := Lib.hid (fun wr (hb : Below w.heap.size w wr) => hx.below hb)
  have HC := Lib.hid hc.cells
  have HT := Lib.hid hT
  have HTk := Lib.hid htk
  have hb0 := Lib.hid (bel_al (Below.refl w.heap.size w) (.cells #[.slice xp rs.length xc, .bool rep] 67))
  have hbx := Lib.hid (heap_new w (.cells #[.slice xp rs.length xc, .bool rep] 67))
  have hxc := hx.cap
  have hxl := hx.le
  have hcc := hc.cap
  have hcl := hc.le
  clear hx hc hT htk
  obtain ⟨PP, hPP⟩ : ∃ PP, PP = RepPost tk e fin w := ⟨_, rfl⟩
  rw [← hPP]
  have HPP := Lib.hid hPP
  clear hPP
  go_enter Tryd.func32, Tryd.ntmps32
  go_wp2_with fail
  go_loopw [12, 13, 14, 25] (fun tv rv av iv wr => ∃ (k p : Nat) (rb : ByteArray) (tk0 : List (List UInt8)), iv = .int .i64 (k : Int) ∧ k ≤ cl.length ∧ rv = .string rb ∧ rb.size ≤ s.size ∧ av = .int .i64 (p : Int) ∧ p ≤ rs.length ∧ Hid (StrsAt (scrB w xp rs.length xc rep).heap.size wr tv tk0) ∧ Hid (Below (scrB w xp rs.length xc rep).heap.size (scrB w xp rs.length xc rep) wr) ∧ Hid (Track rs rep rb.data.toList p tk0 (cl.drop k) (tk, e, fin))) (fun _ _ _ iv _ => cl.length - (intOf iv).toNat)
  case atStart => exact ⟨0, 0, s, [], rfl, Nat.zero_le _, rfl, Nat.le_refl _, rfl, Nat.zero_le _, Lib.hid (scrB_row w xp rs.length xc rep), Lib.hid ((Below.refl _ _).alloc (Nat.le_refl _) _), HT⟩
  case round =>
    obtain ⟨k, p, rb, tk0, rfl, hk, rfl, hrb, rfl, hp, hst, hbw, htr⟩ := hrel
    have HB := Lib.hid (bel_scr hbw.out)
    by_cases hlt : k < cl.length
    · obtain ⟨g, rfl, hg, hc0, hc1⟩ := HC.out k cl[k] (List.getElem?_eq_getElem hlt)
      have hdr : cl.drop k = cl[k] :: cl.drop (k + 1) := List.drop_eq_getElem_cons hlt
      obtain ⟨cc0, hce⟩ : ∃ c, cl[k] = c := ⟨_, rfl⟩
      obtain ⟨dl, eof⟩ := cc0
      rw [hce] at hc0 hc1 hdr
      have htk := htr.out
      rw [hdr] at htk
      obtain ⟨⟨o1, o2, o3, o4⟩, htk2⟩ := htk
      obtain ⟨db, hdb1, hdb2⟩ : ∃ db : ByteArray, sv dl = .string db ∧ db.data.toList = dl := ⟨⟨dl.toArray⟩, rfl, by simp⟩
      subst hdb2
      have hdl : db.data.toList.length = db.size := by simp
      have hrl : rb.data.toList.length = rb.size := by simp
      have o1' : db.data.toList.length ≤ rb.data.toList.length := o1
      have o2' : rb.data.toList.take db.data.toList.length = db.data.toList := o2
      have o3' : eof = true → rb.data.toList.length ≤ db.data.toList.length := o3
      have o4' : eof = false → db.data.toList ≠ [] := o4
      rw [hdl, hrl] at o1' o3'
      rw [hdl] at o2'
      clear o1 o2 o3 o4
      have q0 := (HB.out.cell (p := ⟨g, k * 2, none⟩) hg).trans hc0
      have q1 := (HB.out.cell (p := ⟨g, k * 2 + 1, none⟩) hg).trans hc1
      rw [hdb1] at q0
      have f1 : decide (rb.size < db.size) = false := by rw [decide_eq_false_iff_not]; omega
      have f2 : ((rb.extract 0 db.size).toList == db.toList) = true := by
        have : rb.extract 0 db.size = db := by
          apply ByteArray.ext
          apply Array.toList_inj.1
          rw [ByteArray.data_extract, Array.toList_extract, List.extract_eq_take_drop, List.drop_zero, Nat.sub_zero]
          exact o2'
        rw [this]; simp
      obtain ⟨b0, b1, hzs⟩ := scrB_cells hbw.out
      have HTR := Lib.hid htk2
      have hlen0 : tk0.length ≤ 100000 := Nat.le_trans (track_grow _ _ _ _ _ htr.out) HTk.out
      have hds : db.size ≤ 4194304 := by omega
      clear htk2 hdr hce hc0 hc1 hdb1 o2' htr
      go_upto_region 5 with fail
      go_cut [25, 67] (fun s25 s67 wx => s25 = .int .i64 (k : Int) ∧ s67 = .bool false ∧ ∃ nq, wx = (wr.alloc (.cells #[.string db, .bool eof] 47)).drewN nq)
      case first =>
        cases eof with
        | true =>
          have f3 : decide (db.size < rb.size) = false := by have := o3' rfl; rw [decide_eq_false_iff_not]; omega
          clear o3' o4'
          go_quiet (fail)
          go_wp2_with fail
          go_meet
          exact ⟨rfl, rfl, _, rfl⟩
        | false =>
          have f3 := (toList_ne db (by have h4 := List.length_pos_iff.2 (o4' rfl); omega)).2
          clear o3' o4'
          go_quiet (fail)
          go_wp2_with fail
          go_meet
          exact ⟨rfl, rfl, _, rfl⟩
      case rest =>
        obtain ⟨rfl, rfl, nq, rfl⟩ := hcut
        clear f1 f2 o3' o4'
        obtain ⟨bw, hbw0⟩ : ∃ bw : Bool, bw = (decide (p = rs.length) && rep) := ⟨_, rfl⟩
        have HBW0 := Lib.hid hbw0
        clear hbw0
        go_upto_region 7 with fail
        go_cut [25, 76] (fun s25 s76 wx => s25 = .int .i64 (k : Int) ∧ s76 = .bool bw ∧ wx = (wr.alloc (.cells #[.string db, .bool eof] 47)).drewN nq)
        case first =>
          by_cases hpl : p < rs.length
          · have e1 : ((p : Int) == (rs.length : Int)) = false := by simp; omega
            have e2 : bw = false := by rw [HBW0.out]; simp; omega
            subst e2
            go_wp2_with fail
            go_meet
            exact ⟨rfl, rfl, rfl⟩
          · have hpe : p = rs.length := by omega
            have e2 : bw = rep := by rw [HBW0.out]; simp [hpe]
            subst e2
            have e1 : ((p : Int) == (rs.length : Int)) = true := by simp [hpe]
            clear hpe
            go_wp2_with fail
            go_meet
            exact ⟨rfl, rfl, rfl⟩
        case rest =>
          obtain ⟨rfl, rfl, rfl⟩ := hcut
          obtain ⟨pp, hpp⟩ : ∃ pp, pp = tpos rs rep p := ⟨_, rfl⟩
          have HPT := Lib.hid hpp
          have hppl : pp ≤ rs.length := by rw [hpp]; exact tpos_le hp
          have hpw : (bw = true → pp = 0) ∧ (bw = false → pp = p) := by
            rw [hpp, HBW0.out]; unfold tpos
            constructor
            · intro h; simp at h; rw [if_pos h]
            · intro h; rw [if_neg]; intro h2; rw [h2.1, h2.2] at h; simp at h
          have HPW := Lib.hid hpw
          clear hpw hpp HBW0
          go_upto_if 76 with (fail)
          go_cut [14, 25] (fun s14 s25 wx => s14 = .int .i64 (pp : Int) ∧ s25 = .int .i64 (k : Int) ∧ wx = (wr.alloc (.cells #[.string db, .bool eof] 47)).drewN nq)
          case first =>
            cases bw with
            | true =>
              obtain rfl := HPW.out.1 rfl
              go_wp2_with fail
              go_meet
              exact ⟨rfl, rfl, rfl⟩
            | false =>
              obtain rfl := HPW.out.2 rfl
              go_wp2_with fail
              go_meet
              exact ⟨rfl, rfl, rfl⟩
          case rest =>
            obtain ⟨rfl, rfl, rfl⟩ := hcut
            clear HPW
            by_cases hpl : pp < rs.length
            · have e1 : ((pp : Int) == (rs.length : Int)) = false := by simp; omega
              have hpr : rs[pp]? = some rs[pp] := List.getElem?_eq_getElem (by omega)
              obtain ⟨b, q, rfl, hcr⟩ := (HX.out wr HB.out).cells pp rs[pp] hpr
              have HPp := Lib.hid (show tpos rs rep p + 1 = pp + 1 from by rw [← HPT.out])
              have hr : rs[tpos rs rep p]? = some rs[pp] := by rw [← HPT.out]; exact hpr
              clear hpr
              obtain ⟨rr, hrr⟩ : ∃ rr, rr = rs[pp] := ⟨_, rfl⟩
              rw [← hrr] at hcr hr
              clear hrr
              have HR := Lib.hid hr
              clear hr
              obtain ⟨adv, al, tok, frm, til, txt, er⟩ := rr
              have z0 := hcr 0 _ rfl
              have z1 := hcr 1 _ rfl
              have z2 := hcr 2 _ rfl
              have z3 := hcr 3 _ rfl
              have z4 := hcr 4 _ rfl
              have z5 := hcr 5 _ rfl
              have z6 := hcr 6 _ rfl
              rw [Nat.add_zero] at z0
              have hzb := World.block_lt_of_cell? _ _ z0
              have hzb' : b < wr.heap.size := hzb
              clear hcr hzb
              have HA := Lib.hid (fun w' => answer_any ⟨adv, al, tok, frm, til, txt, er⟩ db w' hds)
              go_wp2_with fail
              refine (HA.out _).mono ?_
              rintro e0 w2 ⟨rfl, hb2⟩
              obtain ⟨r0, r1, r6, c0, c1, hst2, hbw2, hzz⟩ := rep_cells hst.out hbw.out hb2
              have HST := Lib.hid hst2
              have HBW := Lib.hid hbw2
              clear hb2 hst2 hbw2 z0 z1 z2 z3 z4 z5 z6 b0 b1 q0 q1 HA
              obtain ⟨tq, htq⟩ : ∃ tq, tokR ⟨adv, al, tok, frm, til, txt, er⟩ db.data.toList = tq := ⟨_, rfl⟩
              have HTq := Lib.hid htq
              rw [htq]
              clear htq
              cases al with
              | true =>
                by_cases h2 : er = 2
                · subst h2
                  have HEn := Lib.hid (tr_end HTR.out hlt (rs_fail HR.out rfl))
                  clear HTR
                  have hk1 := HEn.out.1
                  have hk2 : ((k : Int) + 1 == (cl.length : Int)) = true := by simp; omega
                  clear HR hlt
                  have HQ := Lib.hid (show PP (.returned (.tuple #[_, .int .i64 ((4 : Nat) : Int), .bool true, .bool true])) _ from by rw [HPP.out]; exact rep_end HEn.out.2 HST.out HBW.out)
                  have hkk := HEn.out.1
                  go_wp2_with fail
                  exact rep_ret rfl rfl rfl rfl HQ.out
                · by_cases h3 : er = 1
                  · subst h3
                    cases tq with
                    | some tt =>
                      have HEn := Lib.hid (tr_end HTR.out hlt (rs_final HR.out rfl HTq.out))
                      clear HTR
                      have hk1 := HEn.out.1
                      have hk2 : ((k : Int) + 1 == (cl.length : Int)) = true := by simp; omega
                      clear HR hlt h2
                      go_wp2_with (first
                        | (at_builtin; refine wpList_append_own _ rfl _ _ 30 rfl _ 9 i0 (.string ⟨#[]⟩) 1 16 (by kernel_rfl) hi hz0 hz1 hz2 rfl (by decide) _ _ _ rfl (World.ownsRow.alloc (w := w2) HST.out _) ⟨w2.heap.size, 0, none⟩ 1 1 [sv tt] rfl rfl ?d11 ?d12 ?d13 ?d14 ?d15 ?_)
                        | go_in)
                      case d11 => exact cell_one_new _ _ _
                      case d12 => intro u hu; simp at hu; subst hu; rfl
                      case d13 => unfold maxLen; omega
                      case d14 => omega
                      case d15 => have := HBW.out.size; simp at this ⊢; omega
                      · intro v' w3 hrow hgrow _
                        have HB3 := Lib.hid (lines_below HBW.out HST.out hgrow)
                        have HS3 := Lib.hid (strs_scr HB3.out (strs_push hrow rfl))
                        clear hrow hgrow
                        have HQ := Lib.hid (show PP (.returned (.tuple #[_, .int .i64 ((0 : Nat) : Int), .bool true, .bool true])) _ from by rw [HPP.out]; exact rep_end HEn.out.2 HS3.out HB3.out)
                        have hkk := HEn.out.1
                        go_wp2_with fail
                        exact rep_ret rfl rfl rfl rfl HQ.out
                    | none =>
                      have HEn := Lib.hid (tr_end HTR.out hlt (rs_final0 HR.out rfl HTq.out))
                      clear HTR
                      have hk1 := HEn.out.1
                      have hk2 : ((k : Int) + 1 == (cl.length : Int)) = true := by simp; omega
                      clear HR hlt h2
                      have HQ := Lib.hid (show PP (.returned (.tuple #[_, .int .i64 ((0 : Nat) : Int), .bool true, .bool true])) _ from by rw [HPP.out]; exact rep_end HEn.out.2 HST.out HBW.out)
                      have hkk := HEn.out.1
                      go_wp2_with fail
                      exact rep_ret rfl rfl rfl rfl HQ.out
                  · have e2 : (er == 2) = false := by simp [h2]
                    have e3 : (er == 1) = false := by simp [h3]
                    have hle := o1'
                    have hax : db.size ≤ rb.size := by omega
                    have hsz : (rb.extract db.size rb.size).size ≤ s.size := by simp; omega
                    have hdt : (rb.extract db.size rb.size).data.toList = rb.data.toList.drop db.size := ext_drop hax
                    cases tq with
                    | some tt =>
                      have HTN := Lib.hid (show Track rs rep (rb.extract db.size rb.size).data.toList (pp + 1) (tk0 ++ [tt]) (cl.drop (k + 1)) (tk, e, fin) from by rw [hdt]; exact tr_go HTR.out (rs_tok HR.out h2 h3 HTq.out (show ((db.data.toList.length : Nat) : Int) = ((db.size : Nat) : Int) from by rw [hdl]) (by rw [hdl]; omega) HPp.out))
                      clear HTR HR HTq h2 h3 hdt HPp
                      go_wp2_with (first
                        | (at_builtin; refine wpList_append_own _ rfl _ _ 30 rfl _ 9 i0 (.string ⟨#[]⟩) 1 16 (by kernel_rfl) hi hz0 hz1 hz2 rfl (by decide) _ _ _ rfl (World.ownsRow.alloc (w := w2) HST.out _) ⟨w2.heap.size, 0, none⟩ 1 1 [sv tt] rfl rfl ?d21 ?d22 ?d23 ?d24 ?d25 ?_)
                        | go_in)
                      case d21 => exact cell_one_new _ _ _
                      case d22 => intro u hu; simp at hu; subst hu; rfl
                      case d23 => unfold maxLen; omega
                      case d24 => omega
                      case d25 => have := HBW.out.size; simp at this ⊢; omega
                      · intro v' w3 hrow hgrow _
                        have HB3 := Lib.hid (lines_below HBW.out HST.out hgrow)
                        have HS3 := Lib.hid (strs_scr HB3.out (strs_push hrow rfl))
                        clear hrow hgrow
                        go_wp2_with fail
                        go_roundw
                        case rel => exact ⟨k + 1, pp + 1, _, _, by go_num, by omega, rfl, hsz, by go_num, by omega, HS3, HB3, HTN⟩
                        case measure => simp [intOf]; omega
                    | none =>
                      cases eof with
                      | true =>
                        have HEn := Lib.hid (tr_end HTR.out hlt (rs_nil1 HR.out h2 h3 HTq.out (show ((db.data.toList.length : Nat) : Int) = ((db.size : Nat) : Int) from by rw [hdl]) (by rw [hdl]; omega)))
                        clear HTR
                        have hk1 := HEn.out.1
                        have hk2 : ((k : Int) + 1 == (cl.length : Int)) = true := by simp; omega
                        clear HR HTq h2 h3 hlt HPp hdt
                        have HQ := Lib.hid (show PP (.returned (.tuple #[_, .int .i64 ((0 : Nat) : Int), .bool true, .bool true])) _ from by rw [HPP.out]; exact rep_end HEn.out.2 HST.out HBW.out)
                        have hkk := HEn.out.1
                        go_wp2_with fail
                        exact rep_ret rfl rfl rfl rfl HQ.out
                      | false =>
                        have HTN := Lib.hid (show Track rs rep (rb.extract db.size rb.size).data.toList (pp + 1) tk0 (cl.drop (k + 1)) (tk, e, fin) from by rw [hdt]; exact tr_go HTR.out (rs_nil0 HR.out h2 h3 HTq.out (show ((db.data.toList.length : Nat) : Int) = ((db.size : Nat) : Int) from by rw [hdl]) (by rw [hdl]; omega) HPp.out))
                        clear HTR HR HTq h2 h3 hdt HPp
                        go_wp2_with fail
                        go_roundw
                        case rel => exact ⟨k + 1, pp + 1, _, _, by go_num, by omega, rfl, hsz, by go_num, by omega, HST, HBW, HTN⟩
                        case measure => simp [intOf]; omega
              | false =>
                by_cases h2 : er = 2
                · subst h2
                  have HEn := Lib.hid (tr_end HTR.out hlt (rs_fail HR.out rfl))
                  clear HTR
                  have hk1 := HEn.out.1
                  have hk2 : ((k : Int) + 1 == (cl.length : Int)) = true := by simp; omega
                  clear HR hlt
                  have HQ := Lib.hid (show PP (.returned (.tuple #[_, .int .i64 ((4 : Nat) : Int), .bool true, .bool true])) _ from by rw [HPP.out]; exact rep_end HEn.out.2 HST.out HBW.out)
                  have hkk := HEn.out.1
                  go_wp2_with fail
                  exact rep_ret rfl rfl rfl rfl HQ.out
                · by_cases h3 : er = 1
                  · subst h3
                    cases tq with
                    | some tt =>
                      have HEn := Lib.hid (tr_end HTR.out hlt (rs_final HR.out rfl HTq.out))
                      clear HTR
                      have hk1 := HEn.out.1
                      have hk2 : ((k : Int) + 1 == (cl.length : Int)) = true := by simp; omega
                      clear HR hlt h2
                      go_wp2_with (first
                        | (at_builtin; refine wpList_append_own _ rfl _ _ 30 rfl _ 9 i0 (.string ⟨#[]⟩) 1 16 (by kernel_rfl) hi hz0 hz1 hz2 rfl (by decide) _ _ _ rfl (World.ownsRow.alloc (w := w2) HST.out _) ⟨w2.heap.size, 0, none⟩ 1 1 [sv tt] rfl rfl ?d31 ?d32 ?d33 ?d34 ?d35 ?_)
                        | go_in)
                      case d31 => exact cell_one_new _ _ _
                      case d32 => intro u hu; simp at hu; subst hu; rfl
                      case d33 => unfold maxLen; omega
                      case d34 => omega
                      case d35 => have := HBW.out.size; simp at this ⊢; omega
                      · intro v' w3 hrow hgrow _
                        have HB3 := Lib.hid (lines_below HBW.out HST.out hgrow)
                        have HS3 := Lib.hid (strs_scr HB3.out (strs_push hrow rfl))
                        clear hrow hgrow
                        have HQ := Lib.hid (show PP (.returned (.tuple #[_, .int .i64 ((0 : Nat) : Int), .bool true, .bool true])) _ from by rw [HPP.out]; exact rep_end HEn.out.2 HS3.out HB3.out)
                        have hkk := HEn.out.1
                        go_wp2_with fail
                        exact rep_ret rfl rfl rfl rfl HQ.out
                    | none =>
                      have HEn := Lib.hid (tr_end HTR.out hlt (rs_final0 HR.out rfl HTq.out))
                      clear HTR
                      have hk1 := HEn.out.1
                      have hk2 : ((k : Int) + 1 == (cl.length : Int)) = true := by simp; omega
                      clear HR hlt h2
                      have HQ := Lib.hid (show PP (.returned (.tuple #[_, .int .i64 ((0 : Nat) : Int), .bool true, .bool true])) _ from by rw [HPP.out]; exact rep_end HEn.out.2 HST.out HBW.out)
                      have hkk := HEn.out.1
                      go_wp2_with fail
                      exact rep_ret rfl rfl rfl rfl HQ.out
                  · have e2 : (er == 2) = false := by simp [h2]
                    have e3 : (er == 1) = false := by simp [h3]
                    by_cases h4 : adv < 0
                    · have e4 : decide (adv < 0) = true := decide_eq_true h4
                      have HEn := Lib.hid (tr_end HTR.out hlt (rs_neg HR.out h2 h3 h4))
                      clear HTR
                      have hk1 := HEn.out.1
                      have hk2 : ((k : Int) + 1 == (cl.length : Int)) = true := by simp; omega
                      clear HR hlt h2 h3
                      have HQ := Lib.hid (show PP (.returned (.tuple #[_, .int .i64 ((2 : Nat) : Int), .bool true, .bool true])) _ from by rw [HPP.out]; exact rep_end HEn.out.2 HST.out HBW.out)
                      have hkk := HEn.out.1
                      go_wp2_with fail
                      exact rep_ret rfl rfl rfl rfl HQ.out
                    · have e4 : decide (adv < 0) = false := decide_eq_false h4
                      obtain ⟨a, rfl⟩ : ∃ a : Nat, adv = (a : Int) := ⟨adv.toNat, by omega⟩
                      by_cases h5 : db.size < a
                      · have e5 : decide (db.size < a) = true := decide_eq_true h5
                        clear e4 h4
                        have HEn := Lib.hid (tr_end HTR.out hlt (rs_far HR.out h2 h3 rfl (by rw [hdl]; omega)))
                        clear HTR
                        have hk1 := HEn.out.1
                        have hk2 : ((k : Int) + 1 == (cl.length : Int)) = true := by simp; omega
                        clear HR hlt h2 h3
                        have HQ := Lib.hid (show PP (.returned (.tuple #[_, .int .i64 ((3 : Nat) : Int), .bool true, .bool true])) _ from by rw [HPP.out]; exact rep_end HEn.out.2 HST.out HBW.out)
                        have hkk := HEn.out.1
                        go_wp2_with fail
                        exact rep_ret rfl rfl rfl rfl HQ.out
                      · have e5 : decide (db.size < a) = false := decide_eq_false h5
                        clear e4 h4
                        have hax : a ≤ rb.size := by omega
                        have hsz : (rb.extract a rb.size).size ≤ s.size := by simp; omega
                        have hdt : (rb.extract a rb.size).data.toList = rb.data.toList.drop a := ext_drop hax
                        cases tq with
                        | some tt =>
                          have HTN := Lib.hid (show Track rs rep (rb.extract a rb.size).data.toList (pp + 1) (tk0 ++ [tt]) (cl.drop (k + 1)) (tk, e, fin) from by rw [hdt]; exact tr_go HTR.out (rs_tok HR.out h2 h3 HTq.out rfl (by rw [hdl]; omega) HPp.out))
                          clear HTR HR HTq h2 h3 hdt HPp
                          go_wp2_with (first
                            | (at_builtin; refine wpList_append_own _ rfl _ _ 30 rfl _ 9 i0 (.string ⟨#[]⟩) 1 16 (by kernel_rfl) hi hz0 hz1 hz2 rfl (by decide) _ _ _ rfl (World.ownsRow.alloc (w := w2) HST.out _) ⟨w2.heap.size, 0, none⟩ 1 1 [sv tt] rfl rfl ?d41 ?d42 ?d43 ?d44 ?d45 ?_)
                            | go_in)
                          case d41 => exact cell_one_new _ _ _
                          case d42 => intro u hu; simp at hu; subst hu; rfl
                          case d43 => unfold maxLen; omega
                          case d44 => omega
                          case d45 => have := HBW.out.size; simp at this ⊢; omega
                          · intro v' w3 hrow hgrow _
                            have HB3 := Lib.hid (lines_below HBW.out HST.out hgrow)
                            have HS3 := Lib.hid (strs_scr HB3.out (strs_push hrow rfl))
                            clear hrow hgrow
                            go_wp2_with fail
                            go_roundw
                            case rel => exact ⟨k + 1, pp + 1, _, _, by go_num, by omega, rfl, hsz, by go_num, by omega, HS3, HB3, HTN⟩
                            case measure => simp [intOf]; omega
                        | none =>
                          cases eof with
                          | true =>
                            have HEn := Lib.hid (tr_end HTR.out hlt (rs_nil1 HR.out h2 h3 HTq.out rfl (by rw [hdl]; omega)))
                            clear HTR
                            have hk1 := HEn.out.1
                            have hk2 : ((k : Int) + 1 == (cl.length : Int)) = true := by simp; omega
                            clear HR HTq h2 h3 hlt HPp hdt
                            have HQ := Lib.hid (show PP (.returned (.tuple #[_, .int .i64 ((0 : Nat) : Int), .bool true, .bool true])) _ from by rw [HPP.out]; exact rep_end HEn.out.2 HST.out HBW.out)
                            have hkk := HEn.out.1
                            go_wp2_with fail
                            exact rep_ret rfl rfl rfl rfl HQ.out
                          | false =>
                            have HTN := Lib.hid (show Track rs rep (rb.extract a rb.size).data.toList (pp + 1) tk0 (cl.drop (k + 1)) (tk, e, fin) from by rw [hdt]; exact tr_go HTR.out (rs_nil0 HR.out h2 h3 HTq.out rfl (by rw [hdl]; omega) HPp.out))
                            clear HTR HR HTq h2 h3 hdt HPp
                            go_wp2_with fail
                            go_roundw
                            case rel => exact ⟨k + 1, pp + 1, _, _, by go_num, by omega, rfl, hsz, by go_num, by omega, HST, HBW, HTN⟩
                            case measure => simp [intOf]; omega
            · have e1 : ((pp : Int) == (rs.length : Int)) = true := by simp; omega
              have HEn := Lib.hid (tr_end HTR.out hlt (rs_none (by rw [← HPT.out]; exact List.getElem?_eq_none (by omega))))
              clear HTR
              have hk1 := HEn.out.1
              have hk2 : ((k : Int) + 1 == (cl.length : Int)) = true := by simp; omega
              clear hlt hpl
              have HST := Lib.hid (strs_quiet (o := .cells #[.string db, .bool eof] 47) (n := nq) hst.out)
              have HBW := Lib.hid (bel_quiet (o := .cells #[.string db, .bool eof] 47) (n := nq) hbw.out)
              have HQ := Lib.hid (show PP (.returned (.tuple #[_, .int .i64 ((0 : Nat) : Int), .bool true, .bool true])) _ from by rw [HPP.out]; exact rep_end HEn.out.2 HST.out HBW.out)
              have hkk := HEn.out.1
              go_wp2_with fail
              exact rep_ret rfl rfl rfl rfl HQ.out
    · obtain rfl : k = cl.length := by omega
      have htk := htr.out
      rw [List.drop_length] at htk
      have HQ := Lib.hid (show PP (.returned (.tuple #[_, .int .i64 ((0 : Nat) : Int), .bool false, .bool true])) _ from by
        rw [HPP.out]
        exact rep_over htk hst.out hbw.out)
      clear htk htr hlt
      go_wp2_with fail
      exact rep_ret rfl rfl rfl rfl HQ.out
end
end Go.Proofs.YtkclapimgmnldaaDoor
