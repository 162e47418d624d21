/-
  The walk of FnWordsPieces.
-/
import Derived.Test.YtkafojdjadnfaaaDoorLaw
import Derived.Test.YtkafojdjadnfaaaDoorTrueW
import Derived.Test.YtkafojdjadnfaaaDoorTwoRooms
namespace Go.Proofs.YtkafojdjadnfaaaDoor
set_option linter.unusedVariables false
set_option linter.unusedSimpArgs false
set_option maxRecDepth 20000
open Go.RowKit

section
variable {w : World} {E : Nat → Addr} {s : ByteArray} {pa pb : Option Addr} {ps qs : List Int} {pc qc : Nat} {tog d d2 : Bool} {c m c2 m2 : Int}

set_option maxRecDepth 100000 in
set_option maxHeartbeats 4000000 in
theorem fnWordsPieces_t (hE : EnvW w.heap.size w E) (hi : Ints w pa ps pc) (hj : Ints w pb qs qc) (hs : s.size ≤ 4194304) (hpn : ps.length ≤ 4194304) (hqn : qs.length ≤ 4194304) (hl : wordedB s.data.toList d c m = true) (hl2 : wordedB s.data.toList d2 c2 m2 = true) :
    Calls Tryd.prog 9 #[.string s, .slice pa ps.length pc, .slice pb qs.length qc, roomV d c m, roomV d2 c2 m2, .bool tog] w (TrueB w) := by
  have HL := Lib.hid (fun w' => worded_r d c m w' hs true hl)
  have HL2 := Lib.hid (fun w' => worded_r d2 c2 m2 w' hs true hl2)
  have hf := wordedF_of hl
  have hf2 := wordedF_of hl2
  have HA := Lib.hid (fun w' pa' pc' pl' (h1 : EnvW w.heap.size w' E) (h2 : PcsAt w.heap.size w' pa' ps pc' pl') => wordsFrom_fit (tog := tog) d false h1.c h1.t h2 hs hf)
  have HA2 := Lib.hid (fun w' pa' pc' pl' (h1 : EnvW w.heap.size w' E) (h2 : PcsAt w.heap.size w' pa' qs pc' pl') => wordsFrom_fit (tog := false) d2 false h1.c h1.t h2 hs hf2)
  have HSp := Lib.hid (fun w' => specWordsG s w' hs)
  have HI := Lib.hid hi
  have HJ := Lib.hid hj
  have HE := Lib.hid hE
  have hpn8 : ps.length * 8 ≤ 140737488355328 := by omega
  have hqn8 : qs.length * 8 ≤ 140737488355328 := by omega
  clear hl hf hi hE hl2 hf2 hj
  generalize words s.data.toList = ls at *
  have hlen2 : ((ls.length : Int) == (ls.length : Int)) = true := by simp
  go_enter Tryd.func9, Tryd.ntmps9
  go_wp2_with fail
  refine (HL.out _).mono ?_
  rintro e w1 ⟨rfl, hb1⟩
  have hb1' : Below (w.heap.size + 2) (twoW w d c m d2 c2 m2) w1 := by simpa using hb1
  have HB1 := Lib.hid hb1'
  obtain ⟨a0, a1, a2, a3, a4, a5⟩ := two_cells hb1'
  clear hb1 hb1'
  go_wp2_with fail
  refine (HL2.out _).mono ?_
  rintro e w2 ⟨rfl, hb2⟩
  have hb2' := two_step HB1.out hb2
  have HB2 := Lib.hid hb2'
  clear a0 a1 a2 a3 a4 a5
  obtain ⟨a0, a1, a2, a3, a4, a5⟩ := two_cells hb2'
  clear hb2 hb2' HB1 HL HL2
  go_wp2_with fail
  go_region_held3 (fun w' => w'.cell? ⟨w.heap.size, 0, none⟩ = some (.bool d) ∧ w'.cell? ⟨w.heap.size, 1, none⟩ = some (.int .i64 c) ∧ w'.cell? ⟨w.heap.size, 2, none⟩ = some (.int .i64 m) ∧
      w'.cell? ⟨w.heap.size + 1, 0, none⟩ = some (.bool d2) ∧ w'.cell? ⟨w.heap.size + 1, 1, none⟩ = some (.int .i64 c2) ∧ w'.cell? ⟨w.heap.size + 1, 2, none⟩ = some (.int .i64 m2))
    (first
      | exact two_cells HB5.out
      | exact two_cells HB4.out
      | exact two_cells HB3.out
      | go_keep)
    (first
      | (refine step_append_ints (by rfl) (.const (.slice none 0 0)) (.tmp 29) (by rfl) pa ps pc (by rfl) (by rfl) (HI.out.below (two_base HB2.out.drew)) hpn8 ?_; intro pa1 pc1 w3 hown1 hgrow; have HB3 := Lib.hid (two_grown HB2.out.drew hgrow); have HR1 := Lib.hid hown1; obtain ⟨k0, k1, k2, k3, k4, k5⟩ := two_cells HB3.out; clear hown1 hgrow)
      | (go_at_call 28; refine (toRoom_any _ _ _ _).mono ?_; rintro e w4 ⟨rfl, hb4⟩; have HB4 := Lib.hid (two_step HB3.out hb4); have HG4 := Lib.hid hb4; clear hb4)
      | (go_at_call 30; obtain ⟨pl1, HP4, hlow⟩ := two_pcs HB2.out.drew HR1.out HG4.out; refine (HA.out _ _ _ _ (HE.out.later (two_base HB4.out)) HP4.out).mono ?_; rintro e w5 ⟨v1, rfl, hst, hoff⟩; have HB5 := Lib.hid (HB4.out.trans (hoff.below (by have := HB4.out.size; simp at this; omega) (fun k hk => by have h1 := hlow k hk; have h2 := HB2.out.size; simp at h1 h2; omega))); have HF := Lib.hid hst.strs; clear hst hoff hlow))
  clear HB2 HB3 HB4 HR1 HG4 HP4 HA HI a0 a1 a2 a3 a4 a5
  obtain ⟨a0, a1, a2, a3, a4, a5⟩ := two_cells HB5.out
  go_wp2_with fail
  go_region_held3 (fun w' => w'.cell? ⟨w.heap.size, 0, none⟩ = some (.bool d) ∧ w'.cell? ⟨w.heap.size, 1, none⟩ = some (.int .i64 c) ∧ w'.cell? ⟨w.heap.size, 2, none⟩ = some (.int .i64 m) ∧
      w'.cell? ⟨w.heap.size + 1, 0, none⟩ = some (.bool d2) ∧ w'.cell? ⟨w.heap.size + 1, 1, none⟩ = some (.int .i64 c2) ∧ w'.cell? ⟨w.heap.size + 1, 2, none⟩ = some (.int .i64 m2))
    (first
      | exact two_cells HB8.out
      | exact two_cells HB7.out
      | exact two_cells HB6.out
      | go_keep)
    (first
      | (refine step_append_ints (by rfl) (.const (.slice none 0 0)) (.tmp 40) (by rfl) pb qs qc (by rfl) (by rfl) (HJ.out.below (two_base HB5.out.drew)) hqn8 ?_; intro pa6 pc6 w6 hown1 hgrow; have HB6 := Lib.hid (two_grown HB5.out.drew hgrow); have HC6 : Hid (Below w5.heap.size w5 w6) := (Below.refl _ _).drew.trans (grown_below0 hgrow); have HR6 := Lib.hid hown1; obtain ⟨j0, j1, j2, j3, j4, j5⟩ := two_cells HB6.out; clear hown1 hgrow)
      | (go_at_call 28; refine (toRoom_any _ _ _ _).mono ?_; rintro e w7 ⟨rfl, hb7⟩; have HB7 := Lib.hid (two_step HB6.out hb7); have HC7 := Lib.hid (below_step HC6.out hb7); have HG7 := Lib.hid hb7; clear hb7)
      | (go_at_call 30; obtain ⟨pl2, HP7, hlow⟩ := two_pcs HB5.out.drew HR6.out HG7.out; refine (HA2.out _ _ _ _ (HE.out.later (two_base HB7.out)) HP7.out).mono ?_; rintro e w8 ⟨v8, rfl, hst, hoff⟩; have HB8 := Lib.hid (HB7.out.trans (hoff.below (by have := HB7.out.size; simp at this; omega) (fun k hk => by have h1 := hlow k hk; have h2 := HB5.out.size; simp at h1 h2; omega))); have HC8 := Lib.hid (HC7.out.trans (hoff.below HC7.out.size (fun k hk => hlow k hk))); have HG := Lib.hid hst.strs; clear hst hoff hlow))
  have HBB := Lib.hid (two_base HB8.out)
  have hF8 := HF.out.below HC8.out
  have HF8 := Lib.hid hF8
  obtain ⟨x1, cap1, rfl, hx1, hx2, hx3⟩ := hF8
  clear HB5 HB6 HB7 HB8 HC6 HC7 HC8 HR6 HG7 HP7 HA2 HJ HF hx3 a0 a1 a2 a3 a4 a5 j0 j1 j2 j3 j4 j5 k0 k1 k2 k3 k4 k5 HE
  go_wp2_with fail
  refine (same_yes _ _ _ _ HF8.out HG.out).mono ?_
  rintro e w9 ⟨rfl, n, rfl⟩
  have HBD := Lib.hid (two_drew HBB.out n)
  clear HF8 HG HBB
  generalize w8.drewN n = w9 at *
  go_wp2_with fail
  refine (HSp.out _).mono ?_
  rintro e w10 ⟨v10, rfl, hst, hb⟩
  obtain ⟨x2, cap2, rfl, hy1, hy2, hy3⟩ := hst.strs
  clear hst hy3
  go_wp2_with fail
  go_ret
  exact ⟨rfl, below_step HBD.out hb⟩

set_option maxRecDepth 100000 in
set_option maxHeartbeats 1000000 in
theorem fnWordsPieces_walk (hE : EnvW w.heap.size w E) (hi : Ints w pa ps pc) (hj : Ints w pb qs qc) (hs : s.size ≤ 4194304) (hpn : ps.length ≤ 4194304) (hqn : qs.length ≤ 4194304) :
    Calls Tryd.prog 9 #[.string s, .slice pa ps.length pc, .slice pb qs.length qc, roomV d c m, roomV d2 c2 m2, .bool tog] w (TrueB w) := by
  cases hl : wordedB s.data.toList d c m with
  | false =>
    have HL := Lib.hid (fun w' => worded_r d c m w' hs false hl)
    clear hE hi hj hl
    go_enter Tryd.func9, Tryd.ntmps9
    go_wp2_with fail
    refine (HL.out _).mono ?_
    rintro e w1 ⟨rfl, hb1⟩
    go_wp2_with fail
    go_ret
    exact ⟨rfl, below_step (twoW_below w d c m d2 c2 m2) hb1⟩
  | true =>
    cases hl2 : wordedB s.data.toList d2 c2 m2 with
    | false =>
      have HL := Lib.hid (fun w' => worded_r d c m w' hs true hl)
      have HL2 := Lib.hid (fun w' => worded_r d2 c2 m2 w' hs false hl2)
      clear hE hi hj hl hl2
      go_enter Tryd.func9, Tryd.ntmps9
      go_wp2_with fail
      refine (HL.out _).mono ?_
      rintro e w1 ⟨rfl, hb1⟩
      have hb1' : Below (w.heap.size + 2) (twoW w d c m d2 c2 m2) w1 := by simpa using hb1
      have HB1 := Lib.hid hb1'
      obtain ⟨a0, a1, a2, a3, a4, a5⟩ := two_cells hb1'
      clear hb1 hb1'
      go_wp2_with fail
      refine (HL2.out _).mono ?_
      rintro e w2 ⟨rfl, hb2⟩
      go_wp2_with fail
      go_ret
      exact ⟨rfl, two_base (two_step HB1.out hb2)⟩
    | true => exact fnWordsPieces_t hE hi hj hs hpn hqn hl hl2
end
end Go.Proofs.YtkafojdjadnfaaaDoor
