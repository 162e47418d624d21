/-
  The walk of FnWordsBroken.
-/
import Derived.Test.YtkafojdjadnfaaaDoorLaw
import Derived.Test.YtkafojdjadnfaaaDoorTrueW
import Derived.Test.YtkafojdjadnfaaaDoorLawB
namespace Go.Proofs.YtkafojdjadnfaaaDoor
set_option linter.unusedVariables false
set_option linter.unusedSimpArgs false
set_option maxRecDepth 20000
open Go.RowKit

section
variable {w : World} {E : Nat → Addr} {s : ByteArray} {pa : Option Addr} {pcs : List Int} {pc : Nat} {tog d : Bool} {c m : Int}

set_option maxRecDepth 100000 in
set_option maxHeartbeats 2000000 in
theorem fnWordsBroken_t (br : Bool) (hE : EnvW w.heap.size w E) (hi : Ints w pa pcs pc) (hs : s.size ≤ 4194304) (hpn : pcs.length ≤ 4194304) (hl : wordedB s.data.toList d c m = true) :
    Calls Tryd.prog 13 #[srcL s pa pcs.length pc tog br, roomV d c m] w (TrueB w) := by
  have HL := Lib.hid (fun w' => worded_r d c m w' hs true hl)
  have hf := wordedF_of hl
  have HA := Lib.hid (fun w' pa' pc' pl' (h1 : EnvW w.heap.size w' E) (h2 : PcsAt w.heap.size w' pa' pcs pc' pl') => wordsFrom_fit (tog := tog) d true h1.c h1.t h2 hs hf)
  have HS := Lib.hid (fun w' (h : Ints w' pa pcs pc) => toSource_any s pa pcs pc tog true w' h (by omega))
  have HSp := Lib.hid (fun w' => specWordsG s w' hs)
  have HI := Lib.hid hi
  have HE := Lib.hid hE
  clear hl hf hi hE
  go_enter Tryd.func13, Tryd.ntmps13
  go_wp2_with fail
  refine (HL.out _).mono ?_
  rintro e w1 ⟨rfl, hb1⟩
  have hb0 : Below (w.heap.size + 2) (lawW w s pa pcs.length pc tog br d c m) w1 := by simpa using hb1
  have hb1' := law_store hb0
  obtain ⟨z0, z1, z2, z3, z4, z5, z6⟩ := law_cells hb0
  have hfz := law_frozen hb0
  obtain ⟨a0, a1, a2, a3, a4, a5, a6⟩ := law_cells hb1'
  have HB1 := Lib.hid hb1'
  clear hb1 hb1' hb0
  go_wp2_with fail
  clear z0 z1 z2 z3 z4 z5 z6 hfz
  generalize w1.setCell ⟨w.heap.size, 3, none⟩ (.bool true) = w1 at *
  go_region_held3 (fun w' => w'.cell? ⟨w.heap.size, 0, none⟩ = some (.string s) ∧ w'.cell? ⟨w.heap.size, 1, none⟩ = some (.slice pa pcs.length pc) ∧ w'.cell? ⟨w.heap.size, 2, none⟩ = some (.bool tog) ∧ w'.cell? ⟨w.heap.size, 3, none⟩ = some (.bool true) ∧
      w'.cell? ⟨w.heap.size + 1, 0, none⟩ = some (.bool d) ∧ w'.cell? ⟨w.heap.size + 1, 1, none⟩ = some (.int .i64 c) ∧ w'.cell? ⟨w.heap.size + 1, 2, none⟩ = some (.int .i64 m))
    (first
      | exact law_cells HB4.out
      | exact law_cells HB3.out
      | exact law_cells HB2.out
      | go_keep)
    (first
      | (go_at_call 34; refine (HS.out _ (HI.out.below (law_base HB1.out.drew))).mono ?_; rintro e w2 ⟨pa2, pc2, pl2, rfl, hp2, hb2⟩; have HB2 := Lib.hid (law_step HB1.out.drew hb2); have HP2 := Lib.hid hp2; clear hp2 hb2)
      | (go_at_call 28; refine (toRoom_any _ _ _ _).mono ?_; rintro e w3 ⟨rfl, hb3⟩; have HB3 := Lib.hid (law_step HB2.out hb3); have HP3 := Lib.hid (pcs_later HP2.out hb3); clear hb3)
      | (go_at_call 30; refine (HA.out _ _ _ _ (HE.out.later (law_base HB3.out)) (pcs_frame HP3.out (law_base HB1.out).size (fun _ _ => rfl) (Nat.le_refl _))).mono ?_; rintro e w4 ⟨v, rfl, hst, hoff⟩; have HB4 := Lib.hid (HB3.out.trans (hoff.below (by have := HB3.out.size; simp at this; omega) (fun k hk => by have h1 := (HP2.out.hlt k hk).1; have h2 := HB1.out.size; simp at h1 h2; omega))); have HF := Lib.hid hst.strs; clear hst hoff))
  have HBB := Lib.hid (law_base HB4.out)
  obtain ⟨b0, b1, b2, b3, b4, b5, b6⟩ := law_cells HB4.out
  clear HB1 HB2 HB3 HB4 HP2 HP3 HA HS HI HL HE a0 a1 a2 a3 a4 a5 a6
  go_wp2_with fail
  refine (HSp.out _).mono ?_
  rintro e w5 ⟨v5, rfl, hst, hb⟩
  have HB5 := Lib.hid (below_step HBB.out hb)
  have HF5 := Lib.hid (HF.out.below hb)
  have HG5 := Lib.hid hst.strs
  clear hst hb b0 b1 b2 b3 b4 b5 b6 HBB HF
  go_wp2_with fail
  refine (begins_yes _ _ _ _ HF5.out HG5.out).mono ?_
  rintro e w6 ⟨rfl, n, rfl⟩
  go_wp2_with fail
  go_ret
  exact ⟨rfl, bel_drew HB5.out n⟩

set_option maxHeartbeats 1000000 in
theorem fnWordsBroken_walk (br : Bool) (hE : EnvW w.heap.size w E) (hi : Ints w pa pcs pc) (hs : s.size ≤ 4194304) (hpn : pcs.length ≤ 4194304) :
    Calls Tryd.prog 13 #[srcL s pa pcs.length pc tog br, roomV d c m] w (TrueB w) := by
  cases hl : wordedB s.data.toList d c m with
  | false =>
    have HL := Lib.hid (fun w' => worded_r d c m w' hs false hl)
    clear hE hi hl
    go_enter Tryd.func13, Tryd.ntmps13
    go_wp2_with fail
    refine (HL.out _).mono ?_
    rintro e w1 ⟨rfl, hb1⟩
    go_wp2_with fail
    go_ret
    exact ⟨rfl, below_step (lawW_below w s pa pcs.length pc tog br d c m) hb1⟩
  | true => exact fnWordsBroken_t br hE hi hs hpn hl
end
end Go.Proofs.YtkafojdjadnfaaaDoor
