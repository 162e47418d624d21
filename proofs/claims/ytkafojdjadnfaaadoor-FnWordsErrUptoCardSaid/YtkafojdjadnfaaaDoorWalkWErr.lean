/-
  The walk of FnWordsErr.
-/
import Derived.Test.YtkafojdjadnfaaaDoorTrue
import Derived.Test.YtkafojdjadnfaaaDoorErrsW
import Derived.Test.YtkafojdjadnfaaaDoorTrueW
import Derived.Test.YtkafojdjadnfaaaDoorFirst
namespace Go.Proofs.YtkafojdjadnfaaaDoor
set_option linter.unusedVariables false
set_option linter.unusedSimpArgs false
set_option maxRecDepth 20000
open Go.RowKit

section
variable {w : World} {E : Nat → Addr} {s : ByteArray}

theorem wordsErr_fit {w' : World} (h : EnvW w.heap.size w' E) (hs : s.size ≤ 4194304) (hl : WordedF s.data.toList true 0 0) : Calls Tryd.prog 36 #[.string s] w' (GivesI 0 w') :=
  wordsErr_gen h.c h.t hs (EndsW 0 s.data.toList) s.size (words_all (lim := 65536) false 0 s hl.roomy) 0 (.inl rfl) (fun ts x h => h.2.2.2.2)
theorem wordsErr_long {w' : World} (h : EnvW w.heap.size w' E) (hs : s.size ≤ 4194304) (k : Nat) (hL : LongAtW 65536 false k s.data.toList) : Calls Tryd.prog 36 #[.string s] w' (GivesI 1 w') := by
  have hr := longW_runs 65536 false 0 (by omega) k (newSm s) [] ⟨⟨rfl, rfl, .inl rfl⟩, by simp, by simp⟩ hL
  exact wordsErr_gen h.c h.t hs _ k hr 1 (.inr ⟨by omega, by omega⟩) (fun ts x h => h.2)

set_option maxHeartbeats 2000000 in
theorem fnWordsErr_walk (hE : EnvW w.heap.size w E) (hs : s.size ≤ 4194304) : Calls Tryd.prog 12 #[.string s] w (TrueB w) := by
  cases hl : wordedB s.data.toList true 0 0 with
  | true =>
    have HL := Lib.hid (fun w' => worded_t w' hs true hl)
    have HI := Lib.hid (fun w' (h : EnvW w.heap.size w' E) => wordsErr_fit h hs (wordedF_of hl))
    have HE := Lib.hid hE
    clear hl hE
    go_enter Tryd.func12, Tryd.ntmps12
    go_wp2_with fail
    refine (HL.out _).mono ?_
    rintro e w1 ⟨rfl, hb⟩
    have HB1 := Lib.hid hb
    clear hb
    go_wp2_with fail
    refine (HI.out _ (HE.out.later HB1.out)).mono ?_
    rintro e w2 ⟨rfl, hb⟩
    go_wp2_with fail
    go_ret
    exact ⟨rfl, below_step HB1.out hb⟩
  | false =>
    have HL := Lib.hid (fun w' => worded_t w' hs false hl)
    have HSp := Lib.hid (fun w' => specWordsG s w' hs)
    have hlen : s.data.toList.length = s.size := by simp
    have hX := fun x hx => Nat.le_trans (words_small _ s.data.toList (Nat.le_refl _) x hx) (by omega : s.data.toList.length ≤ 9000000000000000000)
    have HFi := Lib.hid (fun v w' (h : Strs w' v (words s.data.toList)) => first_any v _ 65536 w' h hX)
    have hkl := firstI_le (words s.data.toList) 65536
    have hll := words_len _ s.data.toList (Nat.le_refl _)
    rw [hlen] at hll
    have HX := Lib.hid hX
    have HE := Lib.hid hE
    clear hl hlen hX hE
    by_cases hk : firstI (words s.data.toList) 65536 = (words s.data.toList).length
    · rw [hk] at HFi
      clear hk hkl HE HX
      generalize words s.data.toList = ls at *
      have hbb : ((ls.length : Int) == (ls.length : Int)) = true := by simp
      go_enter Tryd.func12, Tryd.ntmps12
      go_wp2_with fail
      refine (HL.out _).mono ?_
      rintro e w1 ⟨rfl, hb⟩
      have HB1 := Lib.hid hb
      clear hb
      go_wp2_with fail
      refine (HSp.out _).mono ?_
      rintro e w2 ⟨v, rfl, hst, hb⟩
      have HB2 := Lib.hid (below_step HB1.out hb)
      have hst1 := hst.strs
      obtain ⟨x1, cap, rfl, hx1, hx2, hx3⟩ := hst1
      have HST := Lib.hid hst.strs
      clear hst hb hx3 HB1
      go_wp2_with fail
      refine (HFi.out _ _ HST.out).mono ?_
      rintro e w3 ⟨rfl, rfl⟩
      go_wp2_with fail
      go_ret
      exact ⟨rfl, HB2.out⟩
    · have hkb : ((firstI (words s.data.toList) 65536 : Int) == ((words s.data.toList).length : Int)) = false := by rw [beq_eq_false_iff_ne]; omega
      have hkl2 : firstI (words s.data.toList) 65536 < (words s.data.toList).length := by omega
      have hat := firstI_at hkl2
      have HBt := Lib.hid (fun (hb : ∀ l ∈ (words s.data.toList).take (firstI (words s.data.toList) 65536), l.length + 4 < 65536) => longAtW_of 65536 false (by omega) _ _ hkl2 hb (.inr ⟨rfl, by omega⟩))
      clear hk hat
      generalize hkk : firstI (words s.data.toList) 65536 = k at *
      have HBw := Lib.hid (fun v w' (h : Strs w' v ((words s.data.toList).take k)) => below_any v _ 4 65536 w' h (by omega) (by omega) (fun x hx => HX.out x (List.mem_of_mem_take hx)))
      have HLg := Lib.hid (fun (hL : LongAtW 65536 false k s.data.toList) w' (h : EnvW w.heap.size w' E) => wordsErr_long h hs k hL)
      clear hkk hkl HX
      have hk0 : (0 : Int) ≤ (k : Int) := by omega
      cases hbb : belowB ((words s.data.toList).take k) 4 65536 with
      | false =>
        rw [hbb] at HBw
        clear hbb HBt HLg HE
        generalize words s.data.toList = ls at *
        go_enter Tryd.func12, Tryd.ntmps12
        go_wp2_with fail
        refine (HL.out _).mono ?_
        rintro e w1 ⟨rfl, hb⟩
        have HB1 := Lib.hid hb
        clear hb
        go_wp2_with fail
        refine (HSp.out _).mono ?_
        rintro e w2 ⟨v, rfl, hst, hb⟩
        have HB2 := Lib.hid (below_step HB1.out hb)
        have hst1 := hst.strs
        obtain ⟨x1, cap, rfl, hx1, hx2, hx3⟩ := hst1
        have HST := Lib.hid hst.strs
        clear hst hb hx3 HB1
        go_wp2_with fail
        refine (HFi.out _ _ HST.out).mono ?_
        rintro e w3 ⟨rfl, rfl⟩
        have hk1 : (k : Int) ≤ (cap : Int) := by omega
        have hk2 : k ≤ cap := by omega
        have HST3 := Lib.hid (HST.out.take k (by omega))
        go_wp2_with fail
        refine (HBw.out _ _ HST3.out).mono ?_
        rintro e w4 ⟨rfl, rfl⟩
        go_wp2_with fail
        go_ret
        exact ⟨rfl, HB2.out⟩
      | true =>
        rw [hbb] at HBw
        have HLL := Lib.hid (HLg.out (HBt.out (fun l hl => by
          have := List.all_eq_true.1 hbb l hl
          simp at this
          omega)))
        clear hbb HBt HLg
        generalize words s.data.toList = ls at *
        go_enter Tryd.func12, Tryd.ntmps12
        go_wp2_with fail
        refine (HL.out _).mono ?_
        rintro e w1 ⟨rfl, hb⟩
        have HB1 := Lib.hid hb
        clear hb
        go_wp2_with fail
        refine (HSp.out _).mono ?_
        rintro e w2 ⟨v, rfl, hst, hb⟩
        have HB2 := Lib.hid (below_step HB1.out hb)
        have hst1 := hst.strs
        obtain ⟨x1, cap, rfl, hx1, hx2, hx3⟩ := hst1
        have HST := Lib.hid hst.strs
        clear hst hb hx3 HB1
        go_wp2_with fail
        refine (HFi.out _ _ HST.out).mono ?_
        rintro e w3 ⟨rfl, rfl⟩
        have hk1 : (k : Int) ≤ (cap : Int) := by omega
        have hk2 : k ≤ cap := by omega
        have HST3 := Lib.hid (HST.out.take k (by omega))
        go_wp2_with fail
        refine (HBw.out _ _ HST3.out).mono ?_
        rintro e w4 ⟨rfl, rfl⟩
        go_wp2_with fail
        refine (HLL.out _ (HE.out.later HB2.out)).mono ?_
        rintro e w5 ⟨rfl, hb⟩
        go_wp2_with fail
        go_ret
        exact ⟨rfl, below_step HB2.out hb⟩
end
end Go.Proofs.YtkafojdjadnfaaaDoor
