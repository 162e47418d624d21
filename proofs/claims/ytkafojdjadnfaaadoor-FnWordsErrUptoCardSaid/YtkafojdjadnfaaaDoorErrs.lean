/-
  impl.LinesErr: the error's number behind the end.
-/
import Derived.Test.YtkafojdjadnfaaaDoorDrain
import Derived.Test.YtkafojdjadnfaaaDoorCode
import Derived.Test.YtkafojdjadnfaaaDoorLong
namespace Go.Proofs.YtkafojdjadnfaaaDoor
set_option linter.unusedVariables false
set_option linter.unusedSimpArgs false
set_option maxRecDepth 20000
open Go.RowKit

/-- a call that answers with a number -/
def GivesI (n : Int) (w : World) (e : Ending) (w' : World) : Prop := e = .returned (.int .i64 n) ∧ Below w.heap.size w w'

section
variable {base : Nat} {w : World} {E : Nat → Addr} {s : ByteArray}
set_option maxHeartbeats 1000000 in
theorem linesErr_gen (hE : EnvC base w E) (hs : s.size ≤ 4194304) (P : List (List UInt8) → Sm Unit → Prop) (n : Nat) (hr : Runs splitLines 65536 false 0 P n (newSm s) []) (ce : Nat) (hce : ce = 0 ∨ (1 ≤ ce ∧ ce ≤ 5)) (hP : ∀ ts x, P ts x → x.err = some ce) :
    Calls Tryd.prog 20 #[.string s] w (GivesI (codeI (errOf (some ce))) w) := by
  have HS := Lib.hid (scanner_any (s := s) (pa := none) (pcs := []) (pc := 0) (tog := false) (c := 0) (m := 0) true false hE.e (PcsAt.none base w) (by omega) rfl)
  have HR := Lib.hid hr
  have HP := Lib.hid hP
  have HE := Lib.hid hE
  have hcc : ∀ k, errOf (some ce) = some k → 1 ≤ k ∧ k ≤ 5 := by
    intro k hk
    rcases hce with rfl | h
    · cases hk
    · cases ce with
      | zero => omega
      | succ j => simp [errOf] at hk; omega
  have HCC := Lib.hid hcc
  clear hE hr hP hce hcc
  go_enter Tryd.func20, Tryd.ntmps20
  go_wp2_with fail
  refine HS.out.mono ?_
  rintro e w1 ⟨ba, L, own, rfl, hok, hb, hown⟩
  have hso : SplitOK (newCf E base w.heap.size false false true 0 0) noMem splitLines true := lines_ok _ rfl rfl rfl
  have HSO := Lib.hid hso
  have HT := Lib.hid (drain_start hok (by simp) (by simp) (P := P) HR.out)
  have HB := Lib.hid hb
  have HO := Lib.hid hown
  clear hok hb hown HS HR hso
  generalize hcf : newCf E base w.heap.size false false true 0 0 = cf at *
  have hcB : cf.B = w.heap.size + 4 := by rw [← hcf]
  have hcE : cf.E = E := by rw [← hcf]
  have HCB := Lib.hid hcB
  have HCE := Lib.hid hcE
  clear hcf hcB hcE
  go_wp2_with fail
  go_loopg [8] n (fun k _ wr => DrainI cf noMem splitLines P own w1 k wr)
  case atStart => exact HT.out
  case round =>
    have hC := drain_scan HSO.out hrel
    rw [HCB.out] at hC
    have HC := Lib.hid hC
    clear hrel hC HT
    go_wp2_with fail
    refine HC.out.mono ?_
    rintro en w2 (⟨rfl, hd⟩ | ⟨k, rfl, rfl, hd⟩)
    · obtain ⟨x, tokv, ba2, L2, own2, ts, hok, hemp, ho, hf, hPP⟩ := hd
      have hErr := err_any hok
      rw [HP.out _ _ hPP, HCB.out, HCE.out] at hErr
      have HErr := Lib.hid hErr
      have hbw : Below w.heap.size w w2 := off_nil (off_new HB.out HO.out ho)
      have HBW := Lib.hid hbw
      have HCd := Lib.hid (fun n => code_any ((HE.out.later hbw).drewN n) (errOf (some ce)) HCC.out)
      clear hok hemp ho hf hPP hErr hbw HC HP HB HO HE HCC
      generalize codeI (errOf (some ce)) = cd at *
      generalize errOf (some ce) = oe at *
      go_wp2_with fail
      refine HErr.out.mono ?_
      rintro e w3 ⟨rfl, nn, rfl⟩
      go_wp2_with fail
      refine (HCd.out nn).mono ?_
      rintro e w3 ⟨rfl, rfl⟩
      go_wp2_with fail
      go_ret
      exact ⟨rfl, below_drewN HBW.out nn⟩
    · have HD := Lib.hid hd
      clear hd HC
      go_wp2_with fail
      go_roundg k
      case rel => exact HD.out
      case measure => omega
end
end Go.Proofs.YtkafojdjadnfaaaDoor
