/-
  impl.WordsErr: the error's number behind the end.
-/
import Derived.Test.YtkafojdjadnfaaaDoorErrs
import Derived.Test.YtkafojdjadnfaaaDoorFromW
namespace Go.Proofs.YtkafojdjadnfaaaDoor
set_option linter.unusedVariables false
set_option linter.unusedSimpArgs false
set_option maxRecDepth 20000
open Go.RowKit

theorem EnvC.drew3 {base : Nat} {w : World} {E : Nat → Addr} (h : EnvC base w E) (n : Nat) : EnvC base (w.drewN n) E := h.below (bel_drew (Below.refl _ _) n)

section
variable {base : Nat} {w : World} {E : Nat → Addr} {s : ByteArray}
set_option maxHeartbeats 1000000 in
theorem wordsErr_gen (hE : EnvC base w E) (hTb : TabsB base w) (hs : s.size ≤ 4194304) (P : List (List UInt8) → Sm Unit → Prop) (n : Nat) (hr : Runs splitWords 65536 false 0 P n (newSm s) []) (ce : Nat) (hce : ce = 0 ∨ (1 ≤ ce ∧ ce ≤ 5)) (hP : ∀ ts x, P ts x → x.err = some ce) :
    Calls Tryd.prog 36 #[.string s] w (GivesI (codeI (errOf (some ce))) w) := by
  have HS := Lib.hid (scanner_any (s := s) (pa := none) (pcs := []) (pc := 0) (tog := false) (c := 0) (m := 0) true false hE.e (PcsAt.none base w) (by omega) rfl)
  have HR := Lib.hid hr
  have HP := Lib.hid hP
  have HE := Lib.hid hE
  have HTb := Lib.hid (fun w' (hb : Below w.heap.size w w') => hTb.later hE.e.le hb)
  have hcc : ∀ k, errOf (some ce) = some k → 1 ≤ k ∧ k ≤ 5 := by
    intro k hk
    rcases hce with rfl | h
    · cases hk
    · cases ce with
      | zero => omega
      | succ j => simp [errOf] at hk; omega
  have HCC := Lib.hid hcc
  clear hE hr hP hce hcc hTb
  go_enter Tryd.func36, Tryd.ntmps36
  go_wp2_with fail
  refine HS.out.mono ?_
  rintro e w1 ⟨ba, L, own, rfl, hok, hb, hown⟩
  obtain ⟨h9, hf, h1⟩ := hok.forSplit
  have hok2 := hok.splitW (HTb.out w1 hb)
  have hso := words_ok { newCf E base w.heap.size false false true 0 0 with f := 47, first := #[], cap := #[] } rfl rfl rfl
  have HSO := Lib.hid hso
  have HT := Lib.hid (drain_start hok2 (by simp) (by simp) (P := P) HR.out)
  have HSp := Lib.hid (split_any (w.heap.size + 4) (.func 47) #[] #[] w1 h9 hf h1)
  have HO1 := Lib.hid ((Off.refl own w1).setCell (p := ⟨w.heap.size + 4, 1, none⟩) hok.memB (.func (.func 47) #[] #[]))
  have HB := Lib.hid hb
  have HO := Lib.hid hown
  clear hok hb hown HS HR hso hok2 h9 hf h1 HTb
  have e1 : (newCf E base w.heap.size false false true 0 0).B = w.heap.size + 4 := rfl
  rw [e1] at HT
  generalize hcf : ({ newCf E base w.heap.size false false true 0 0 with f := 47, first := #[], cap := #[] } : Cfg) = cf at *
  have hcB : cf.B = w.heap.size + 4 := by rw [← hcf]
  have hcE : cf.E = E := by rw [← hcf]
  have hcb : (newCf E base w.heap.size false false true 0 0).base = cf.base := by rw [← hcf]
  rw [hcb] at HT
  have HCB := Lib.hid hcB
  have HCE := Lib.hid hcE
  clear hcf hcB hcE hcb e1
  go_wp2_with fail
  refine HSp.out.mono ?_
  rintro e w2 ⟨rfl, rfl⟩
  generalize w1.setCell ⟨w.heap.size + 4, 1, none⟩ (.func (.func 47) #[] #[]) = wS at *
  go_wp2_with fail
  go_loopg [10] n (fun k _ wr => DrainI cf (tabMem cf.base) splitWords P own wS k wr)
  case atStart => exact HT.out
  case round =>
    have hC := drain_scan HSO.out hrel
    rw [HCB.out] at hC
    have HC := Lib.hid hC
    clear hrel hC HT
    go_wp2_with fail
    refine HC.out.mono ?_
    rintro en w2 (⟨rfl, hd⟩ | ⟨k, rfl, rfl, hd⟩)
    · obtain ⟨x, tokv, ba2, L2, own2, ts, hok, hemp, ho, hf, hPP⟩ := hd
      have hErr := err_any hok
      rw [HP.out _ _ hPP, HCB.out, HCE.out] at hErr
      have HErr := Lib.hid hErr
      have hbw : Below w.heap.size w w2 := off_nil (off_new HB.out HO.out (HO1.out.trans ho (Fresh.refl _ _)))
      have HBW := Lib.hid hbw
      have HCd := Lib.hid (fun n => code_any ((HE.out.later hbw).drew3 n) (errOf (some ce)) HCC.out)
      clear hok hemp ho hf hPP hErr hbw HC HP HB HO HE HCC HO1 HSp
      generalize codeI (errOf (some ce)) = cd at *
      generalize errOf (some ce) = oe at *
      go_wp2_with fail
      refine HErr.out.mono ?_
      rintro e w3 ⟨rfl, nn, rfl⟩
      go_wp2_with fail
      refine (HCd.out nn).mono ?_
      rintro e w3 ⟨rfl, rfl⟩
      go_wp2_with fail
      go_ret
      exact ⟨rfl, bel_drew HBW.out nn⟩
    · have HD := Lib.hid hd
      clear hd HC
      go_wp2_with fail
      go_roundg k
      case rel => exact HD.out
      case measure => omega
end
end Go.Proofs.YtkafojdjadnfaaaDoor
