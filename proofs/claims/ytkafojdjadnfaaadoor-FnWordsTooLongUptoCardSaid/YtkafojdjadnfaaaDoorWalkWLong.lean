/-
  The walk of FnWordsTooLong.
-/
import Derived.Test.YtkafojdjadnfaaaDoorLaw
import Derived.Test.YtkafojdjadnfaaaDoorTrueW
import Derived.Test.YtkafojdjadnfaaaDoorFirst
namespace Go.Proofs.YtkafojdjadnfaaaDoor
set_option linter.unusedVariables false
set_option linter.unusedSimpArgs false
set_option maxRecDepth 20000
open Go.RowKit

theorem belowB_take4 {xs : List (List UInt8)} {n : Nat} (h : belowB xs 4 n = true) : ∀ l ∈ xs, l.length + 4 < n := by
  intro l hl
  have := List.all_eq_true.1 h l hl
  simp at this
  omega

section
variable {w : World} {E : Nat → Addr} {s : ByteArray} {pa : Option Addr} {pcs : List Int} {pc : Nat} {tog d : Bool} {c m : Int}

set_option maxRecDepth 100000 in
set_option maxHeartbeats 2000000 in
theorem fnWordsTooLong_f (hs : s.size ≤ 4194304) (h : sizedB d c m = false ∨ (sizedB d c m = true ∧ limitN d c m < 5)) :
    Calls Tryd.prog 10 #[srcL s pa pcs.length pc tog false, roomV d c m] w (TrueB w) := by
  rcases h with h | ⟨h, h2⟩
  · have HZ := Lib.hid (fun w => sized_any d c m w)
    rw [h] at HZ
    clear h
    go_enter Tryd.func10, Tryd.ntmps10
    go_wp2_with fail
    refine (HZ.out _).mono ?_
    rintro e w1 ⟨rfl, rfl⟩
    go_wp2_with fail
    go_ret
    exact ⟨rfl, (lawW_below w s pa pcs.length pc tog false d c m).alloc (by simp; omega) _⟩
  · have HZ := Lib.hid (fun w => sized_any d c m w)
    rw [h] at HZ
    have HLm := Lib.hid (fun w => limit_any d c m w)
    have hlt : ((limitN d c m : Nat) : Int) < 5 := by omega
    clear h h2
    generalize ((limitN d c m : Nat) : Int) = n at *
    go_enter Tryd.func10, Tryd.ntmps10
    go_wp2_with fail
    refine (HZ.out _).mono ?_
    rintro e w1 ⟨rfl, rfl⟩
    go_wp2_with fail
    refine (HLm.out _).mono ?_
    rintro e w1 ⟨rfl, rfl⟩
    go_wp2_with fail
    go_ret
    exact ⟨rfl, ((lawW_below w s pa pcs.length pc tog false d c m).alloc (by simp; omega) _).alloc (by simp; omega) _⟩

set_option maxRecDepth 100000 in
set_option maxHeartbeats 2000000 in
theorem fnWordsTooLong_t (hE : EnvW w.heap.size w E) (hi : Ints w pa pcs pc) (hs : s.size ≤ 4194304) (hpn : pcs.length ≤ 4194304) (hsz : sizedB d c m = true) (h3 : 5 ≤ limitN d c m) :
    Calls Tryd.prog 10 #[srcL s pa pcs.length pc tog false, roomV d c m] w (TrueB w) := by
  have HZ := Lib.hid (fun w => sized_any d c m w)
  rw [hsz] at HZ
  have HLm := Lib.hid (fun w => limit_any d c m w)
  have HSp := Lib.hid (fun w' => specWordsG s w' hs)
  have hlen : s.data.toList.length = s.size := by simp
  have hX := fun x hx => Nat.le_trans (words_small _ s.data.toList (Nat.le_refl _) x hx) (by omega : s.data.toList.length ≤ 9000000000000000000)
  have HFi := Lib.hid (fun v w' (h : Strs w' v (words s.data.toList)) => first_any v _ ((limitN d c m : Nat) + 1 : Int) w' h hX)
  have hlim := limitN_le hsz
  have hlt : decide (((limitN d c m : Nat) : Int) < 5) = false := by rw [decide_eq_false_iff_not]; omega
  have hlb : ((limitN d c m : Nat) : Int) ≤ 1000000 := by omega
  have hlb3 : (5 : Int) ≤ ((limitN d c m : Nat) : Int) := by omega
  have hkl := firstI_le (words s.data.toList) ((limitN d c m : Nat) + 1 : Int)
  have hll := words_len _ s.data.toList (Nat.le_refl _)
  rw [hlen] at hll
  have HX := Lib.hid hX
  have HS := Lib.hid (fun w' (h : Ints w' pa pcs pc) => toSource_any s pa pcs pc tog false w' h (by omega))
  have HI := Lib.hid hi
  have HE := Lib.hid hE
  clear hlen hX hi hE
  have HB0 := Lib.hid (((Below.refl (w.heap.size + 2) (lawW w s pa pcs.length pc tog false d c m)).alloc (by simp) (roomO d c m)).alloc (by simp) (roomO d c m))
  by_cases hk : firstI (words s.data.toList) ((limitN d c m : Nat) + 1 : Int) = (words s.data.toList).length
  · rw [hk] at HFi
    clear hk hkl HS HI HE HX h3 hlim hsz
    generalize ((limitN d c m : Nat) : Int) = n at *
    generalize words s.data.toList = ls at *
    have hbb : ((ls.length : Int) == (ls.length : Int)) = true := by simp
    go_enter Tryd.func10, Tryd.ntmps10
    go_wp2_with fail
    refine (HZ.out _).mono ?_
    rintro e w1 ⟨rfl, rfl⟩
    go_wp2_with fail
    refine (HLm.out _).mono ?_
    rintro e w1 ⟨rfl, rfl⟩
    go_wp2_with fail
    refine (HSp.out _).mono ?_
    rintro e w1 ⟨v, rfl, hst, hb⟩
    have HB1 := Lib.hid (law_step HB0.out hb)
    obtain ⟨a0, a1, a2, a3, a4, a5, a6⟩ := law_cells HB1.out
    have hst1 := hst.strs
    obtain ⟨x1, cap, rfl, hx1, hx2, hx3⟩ := hst1
    have HST := Lib.hid hst.strs
    clear hst hb HB0 hx3
    go_wp2_with fail
    refine (HLm.out _).mono ?_
    rintro e w2 ⟨rfl, rfl⟩
    have HB2 := Lib.hid (law_step HB1.out ((Below.refl _ _).alloc (Nat.le_refl _) (roomO d c m)))
    have HST2 := Lib.hid (HST.out.alloc (roomO d c m))
    clear a0 a1 a2 a3 a4 a5 a6 HST HB1
    generalize hw2 : w1.alloc (.cells #[.bool d, .int .i64 c, .int .i64 m] 24) = w2 at *
    clear hw2
    obtain ⟨a0, a1, a2, a3, a4, a5, a6⟩ := law_cells HB2.out
    go_wp2_with fail
    refine (HFi.out _ _ HST2.out).mono ?_
    rintro e w3 ⟨rfl, rfl⟩
    go_wp2_with fail
    clear HSp HFi HZ HLm a0 a1 a2 a3 a4 a5 a6
    go_quiet (fail)
    go_wp2_with fail
    go_ret
    exact ⟨rfl, bel_drew (law_base HB2.out) _⟩
  · have hkb : ((firstI (words s.data.toList) ((limitN d c m : Nat) + 1 : Int) : Int) == ((words s.data.toList).length : Int)) = false := by rw [beq_eq_false_iff_ne]; omega
    have hkl2 : firstI (words s.data.toList) ((limitN d c m : Nat) + 1 : Int) < (words s.data.toList).length := by omega
    have hat := firstI_at hkl2
    have hbt : belowB ((words s.data.toList).take (firstI (words s.data.toList) ((limitN d c m : Nat) + 1 : Int))) 4 (limitN d c m : Nat) = true → LongAtW (limitN d c m) tog (firstI (words s.data.toList) ((limitN d c m : Nat) + 1 : Int)) s.data.toList := fun hb =>
      longAtW_of _ tog (by omega) _ _ hkl2 (belowB_take4 hb) (.inl (by omega))
    have HBt := Lib.hid hbt
    have HA := Lib.hid (fun (hL : LongAtW (limitN d c m) tog (firstI (words s.data.toList) ((limitN d c m : Nat) + 1 : Int)) s.data.toList) w' pa' pc' pl' (h1 : EnvW w.heap.size w' E) (h2 : PcsAt w.heap.size w' pa' pcs pc' pl') => wordsFrom_long (tog := tog) d false h1.c h1.t h2 hs hsz (by omega) _ (by omega) hL)
    clear hk hbt hat
    generalize hkk : firstI (words s.data.toList) ((limitN d c m : Nat) + 1 : Int) = k at *
    have HBw := Lib.hid (fun v w' (h : Strs w' v ((words s.data.toList).take k)) => below_any v _ 4 (limitN d c m : Nat) w' h (by omega) (by omega) (fun x hx => HX.out x (List.mem_of_mem_take hx)))
    clear hkk hkl HX h3 hlim hsz
    have HNN := Lib.hid (show ((limitN d c m : Nat) : Int) = ((limitN d c m : Nat) : Int) from rfl)
    cases hbb : belowB ((words s.data.toList).take k) 4 (limitN d c m : Nat) with
    | false =>
      rw [hbb] at HBw
      clear hbb HBt HA HNN HS HI HE
      generalize ((limitN d c m : Nat) : Int) = n at *
      generalize words s.data.toList = ls at *
      go_enter Tryd.func10, Tryd.ntmps10
      go_wp2_with fail
      refine (HZ.out _).mono ?_
      rintro e w1 ⟨rfl, rfl⟩
      go_wp2_with fail
      refine (HLm.out _).mono ?_
      rintro e w1 ⟨rfl, rfl⟩
      go_wp2_with fail
      refine (HSp.out _).mono ?_
      rintro e w1 ⟨v, rfl, hst, hb⟩
      have HB1 := Lib.hid (law_step HB0.out hb)
      obtain ⟨a0, a1, a2, a3, a4, a5, a6⟩ := law_cells HB1.out
      have hst1 := hst.strs
      obtain ⟨x1, cap, rfl, hx1, hx2, hx3⟩ := hst1
      have HST := Lib.hid hst.strs
      clear hst hb HB0 hx3
      go_wp2_with fail
      refine (HLm.out _).mono ?_
      rintro e w2 ⟨rfl, rfl⟩
      have HB2 := Lib.hid (law_step HB1.out ((Below.refl _ _).alloc (Nat.le_refl _) (roomO d c m)))
      have HST2 := Lib.hid (HST.out.alloc (roomO d c m))
      clear a0 a1 a2 a3 a4 a5 a6 HST HB1
      generalize hw2 : w1.alloc (.cells #[.bool d, .int .i64 c, .int .i64 m] 24) = w2 at *
      clear hw2
      obtain ⟨a0, a1, a2, a3, a4, a5, a6⟩ := law_cells HB2.out
      go_wp2_with fail
      refine (HFi.out _ _ HST2.out).mono ?_
      rintro e w3 ⟨rfl, rfl⟩
      go_wp2_with fail
      have hk0 : (0 : Int) ≤ (k : Int) := by omega
      have hk1 : (k : Int) ≤ (cap : Int) := by omega
      have hk2 : k ≤ cap := by omega
      have HST3 := Lib.hid (HST2.out.take k (by omega))
      clear HSp HFi HZ a0 a1 a2 a3 HST2
      go_region_held3 (fun w' => w'.cell? ⟨w.heap.size + 1, 0, none⟩ = some (.bool d) ∧ w'.cell? ⟨w.heap.size + 1, 1, none⟩ = some (.int .i64 c) ∧ w'.cell? ⟨w.heap.size + 1, 2, none⟩ = some (.int .i64 m))
        (first
          | exact (law_cells HB3.out).2.2.2.2
          | go_keep)
        (first
          | (go_at_call 33; refine (HLm.out _).mono ?_; rintro e w3 ⟨rfl, rfl⟩; have HB3 := Lib.hid (law_step HB2.out.drew ((Below.refl _ _).alloc (Nat.le_refl _) (roomO d c m))))
          | (go_at_call 22; refine (HBw.out _ _ ?_).mono ?_; exact (HST3.out.drew.alloc _); rintro e w4 ⟨rfl, rfl⟩))
      go_wp2_with fail
      go_ret
      exact ⟨rfl, law_base HB3.out⟩
    | true =>
      rw [hbb] at HBw
      have HAL := Lib.hid (HA.out (HBt.out hbb))
      clear hbb HBt HA HNN
      generalize ((limitN d c m : Nat) : Int) = n at *
      generalize words s.data.toList = ls at *
      go_enter Tryd.func10, Tryd.ntmps10
      go_wp2_with fail
      refine (HZ.out _).mono ?_
      rintro e w1 ⟨rfl, rfl⟩
      go_wp2_with fail
      refine (HLm.out _).mono ?_
      rintro e w1 ⟨rfl, rfl⟩
      go_wp2_with fail
      refine (HSp.out _).mono ?_
      rintro e w1 ⟨v, rfl, hst, hb⟩
      have HB1 := Lib.hid (law_step HB0.out hb)
      obtain ⟨a0, a1, a2, a3, a4, a5, a6⟩ := law_cells HB1.out
      have hst1 := hst.strs
      obtain ⟨x1, cap, rfl, hx1, hx2, hx3⟩ := hst1
      have HST := Lib.hid hst.strs
      clear hst hb HB0 hx3
      go_wp2_with fail
      refine (HLm.out _).mono ?_
      rintro e w2 ⟨rfl, rfl⟩
      have HB2 := Lib.hid (law_step HB1.out ((Below.refl _ _).alloc (Nat.le_refl _) (roomO d c m)))
      have HST2 := Lib.hid (HST.out.alloc (roomO d c m))
      clear a0 a1 a2 a3 a4 a5 a6 HST HB1
      generalize hw2 : w1.alloc (.cells #[.bool d, .int .i64 c, .int .i64 m] 24) = w2 at *
      clear hw2
      obtain ⟨a0, a1, a2, a3, a4, a5, a6⟩ := law_cells HB2.out
      go_wp2_with fail
      refine (HFi.out _ _ HST2.out).mono ?_
      rintro e w3 ⟨rfl, rfl⟩
      go_wp2_with fail
      have hk0 : (0 : Int) ≤ (k : Int) := by omega
      have hk1 : (k : Int) ≤ (cap : Int) := by omega
      have hk2 : k ≤ cap := by omega
      have HST3 := Lib.hid (HST2.out.take k (by omega))
      clear HSp HFi HZ a0 a1 a2 a3 HST2
      go_region_held3 (fun w' => w'.cell? ⟨w.heap.size + 1, 0, none⟩ = some (.bool d) ∧ w'.cell? ⟨w.heap.size + 1, 1, none⟩ = some (.int .i64 c) ∧ w'.cell? ⟨w.heap.size + 1, 2, none⟩ = some (.int .i64 m))
        (first
          | exact (law_cells HB3.out).2.2.2.2
          | go_keep)
        (first
          | (go_at_call 33; refine (HLm.out _).mono ?_; rintro e w3 ⟨rfl, rfl⟩; have HB3 := Lib.hid (law_step HB2.out.drew ((Below.refl _ _).alloc (Nat.le_refl _) (roomO d c m))))
          | (go_at_call 22; refine (HBw.out _ _ ?_).mono ?_; exact (HST3.out.drew.alloc _); rintro e w4 ⟨rfl, rfl⟩))
      have HBa : Hid (Below (w.heap.size + 2) (lawW w s pa pcs.length pc tog false d c m) ((w2.alloc (roomO d c m)).drew)) := HB3.out
      have HSTa : Hid (Strs ((w2.alloc (roomO d c m)).drew) (.slice x1 k cap) (ls.take k)) := (HST3.out.alloc (roomO d c m)).drew
      clear HB3 HB2 HST3 HBw HLm a4 a5 a6
      generalize ((w2.alloc (roomO d c m)).drew) = wa at *
      obtain ⟨a0, a1, a2, a3, a4, a5, a6⟩ := law_cells HBa.out
      go_wp2_with fail
      go_region_held3 (fun w' => w'.cell? ⟨w.heap.size, 0, none⟩ = some (.string s) ∧ w'.cell? ⟨w.heap.size, 1, none⟩ = some (.slice pa pcs.length pc) ∧ w'.cell? ⟨w.heap.size, 2, none⟩ = some (.bool tog) ∧ w'.cell? ⟨w.heap.size, 3, none⟩ = some (.bool false) ∧
          w'.cell? ⟨w.heap.size + 1, 0, none⟩ = some (.bool d) ∧ w'.cell? ⟨w.heap.size + 1, 1, none⟩ = some (.int .i64 c) ∧ w'.cell? ⟨w.heap.size + 1, 2, none⟩ = some (.int .i64 m))
        (first
          | exact law_cells HBd.out
          | exact law_cells HBc.out
          | exact law_cells HBb.out
          | go_keep)
        (first
          | (go_at_call 34; refine (HS.out _ (HI.out.below (law_base HBa.out.drew))).mono ?_; rintro e w2 ⟨pa2, pc2, pl2, rfl, hp2, hb2⟩; have HBb := Lib.hid (law_step HBa.out.drew hb2); have HCb : Hid (Below wa.heap.size wa w2) := (Below.refl _ _).drew.trans hb2; have HP2 := Lib.hid hp2; clear hp2 hb2)
          | (go_at_call 28; refine (toRoom_any _ _ _ _).mono ?_; rintro e w3 ⟨rfl, hb3⟩; have HBc := Lib.hid (law_step HBb.out hb3); have HCc := Lib.hid (below_step HCb.out hb3); have HP3 := Lib.hid (pcs_later HP2.out hb3); clear hb3)
          | (go_at_call 30; refine (HAL.out _ _ _ _ (HE.out.later (law_base HBc.out)) (pcs_frame HP3.out (law_base HBa.out).size (fun _ _ => rfl) (Nat.le_refl _))).mono ?_; rintro e w4 ⟨v, rfl, hst, hoff⟩; have HBd := Lib.hid (HBc.out.trans (hoff.below (by have := HBc.out.size; simp at this; omega) (fun k hk => by have h1 := (HP2.out.hlt k hk).1; have h2 := HBa.out.size; simp at h1 h2; omega))); have HCd := Lib.hid (HCc.out.trans (hoff.below HCc.out.size (fun k hk => (HP2.out.hlt k hk).1))); have HF := Lib.hid hst.strs; clear hst hoff))
      have HBB := Lib.hid (law_base HBd.out)
      have hGd : Strs w4 (.slice x1 k cap) (ls.take k) := Strs.below HSTa.out HCd.out
      have HGd := Lib.hid hGd
      clear hGd HBa HBb HBc HBd HCb HCc HCd HP2 HP3 HAL HS HI HE a0 a1 a2 a3 a4 a5 a6 HSTa
      go_wp2_with fail
      refine (same_yes _ _ _ _ HF.out HGd.out).mono ?_
      rintro e w6 ⟨rfl, q, rfl⟩
      go_wp2_with fail
      go_ret
      exact ⟨rfl, bel_drew HBB.out q⟩

set_option maxHeartbeats 1000000 in
theorem fnWordsTooLong_walk (br : Bool) (hE : EnvW w.heap.size w E) (hi : Ints w pa pcs pc) (hs : s.size ≤ 4194304) (hpn : pcs.length ≤ 4194304) :
    Calls Tryd.prog 10 #[srcL s pa pcs.length pc tog br, roomV d c m] w (TrueB w) := by
  cases br with
  | true =>
    clear hE hi
    go_enter Tryd.func10, Tryd.ntmps10
    go_wp2_with fail
    go_ret
    exact ⟨rfl, lawW_below w s pa pcs.length pc tog true d c m⟩
  | false =>
    cases h1 : sizedB d c m with
    | false => exact fnWordsTooLong_f hs (.inl h1)
    | true =>
      by_cases h2 : limitN d c m < 5
      · exact fnWordsTooLong_f hs (.inr ⟨h1, h2⟩)
      · exact fnWordsTooLong_t hE hi hs hpn h1 (by omega)
end
end Go.Proofs.YtkafojdjadnfaaaDoor
