/-
  impl.LinesFrom: the tokens and the error's number, whatever the source and the room.
-/
import Derived.Test.YtkafojdjadnfaaaDoorCode
import Derived.Test.YtkafojdjadnfaaaDoorGive
import Derived.Test.YtkafojdjadnfaaaDoorLong
namespace Go.Proofs.YtkafojdjadnfaaaDoor
set_option linter.unusedVariables false
set_option linter.unusedSimpArgs false
set_option maxRecDepth 20000
open Go.RowKit

/-- the two boxes of the arguments -/
abbrev boxV (w : World) (s : ByteArray) (pa : Option Addr) (pn pc : Nat) (tog broken d : Bool) (c m : Int) : World :=
  (w.alloc (.cells #[.string s, .slice pa pn pc, .bool tog, .bool broken] 44)).alloc (.cells #[.bool d, .int .i64 c, .int .i64 m] 45)
theorem boxV_below (w : World) (s : ByteArray) (pa : Option Addr) (pn pc : Nat) (tog broken d : Bool) (c m : Int) : Below w.heap.size w (boxV w s pa pn pc tog broken d c m) := ((Below.refl _ _).alloc (Nat.le_refl _) _).alloc (by simp) _
theorem pcs_on {base : Nat} {w w' : World} {pa : Option Addr} {pcs : List Int} {pc : Nat} {pl : List Nat} (h : PcsAt base w pa pcs pc pl) (hb : Below w.heap.size w w') : PcsAt base w' pa pcs pc pl :=
  ⟨fun i x hx => by
    obtain ⟨b, o, e, hm, hc⟩ := h.hp i x hx
    exact ⟨b, o, e, hm, (hb.cell (p := ⟨b, o + i, Option.none⟩) (h.hlt b hm).2).trans hc⟩, h.hpc, h.hnd, fun k hk => ⟨(h.hlt k hk).1, Nat.lt_of_lt_of_le (h.hlt k hk).2 hb.size⟩⟩
theorem off_box {pl : List Nat} {w w1 w2 : World} (hb : Below w.heap.size w w1) (h : Off pl w1 w2) : Off pl w w2 :=
  ⟨h.os.trans hb.os, h.tape.trans hb.tape, h.output.trans hb.output, Nat.le_trans hb.size h.size, fun k hk hn => (h.block k (Nat.lt_of_lt_of_le hk hb.size) hn).trans (hb.block k hk)⟩

/-- what LinesFrom gives -/
def FromPost (xs : List (List UInt8)) (cd : Int) (pl : List Nat) (w : World) (e : Ending) (w' : World) : Prop := ∃ v, e = .returned (.tuple #[v, .int .i64 cd]) ∧ StrsAt w.heap.size w' v xs ∧ Off pl w w'

section
variable {base : Nat} {w : World} {E : Nat → Addr} {s : ByteArray} {pa : Option Addr} {pcs : List Int} {pc : Nat} {pl : List Nat} {tog : Bool} {c m : Int}

set_option maxRecDepth 100000 in
set_option maxHeartbeats 1000000 in
theorem linesFrom_gen (d broken : Bool) (hE : EnvC base w E) (hp : PcsAt base w pa pcs pc pl) (hs : s.size ≤ 4194304) (hsz : sizedB d c m = true) (P : List (List UInt8) → Sm Unit → Prop) (n : Nat) (hn : n ≤ 4194304)
    (hr : Runs splitLines (limitN d c m) tog (if broken then 5 else 0) P n (newSm s) []) (xs : List (List UInt8)) (ce : Nat) (hce : ce = 0 ∨ (1 ≤ ce ∧ ce ≤ 5)) (hP : ∀ ts x, P ts x → ts = xs ∧ x.err = some ce) :
    Calls Tryd.prog 27 #[srcV s pa pcs.length pc tog broken, roomV d c m] w (FromPost xs (codeI (errOf (some ce))) pl w) := by
  have hbx := boxV_below w s pa pcs.length pc tog broken d c m
  have HS := Lib.hid (scanner_any (s := s) (tog := tog) d broken (hE.e.later hbx) (pcs_on hp hbx) (by omega) hsz)
  have HR := Lib.hid hr
  have HP := Lib.hid hP
  have HE := Lib.hid hE
  have HBX := Lib.hid hbx
  have hcc : ∀ k, errOf (some ce) = some k → 1 ≤ k ∧ k ≤ 5 := by
    intro k hk
    rcases hce with rfl | h
    · cases hk
    · cases ce with
      | zero => omega
      | succ j => simp [errOf] at hk; omega
  have HCC := Lib.hid hcc
  have HPc := Lib.hid (fun k hk => (hp.hlt k hk).1)
  have hsz1 : w.heap.size ≤ w.heap.size + 2 := by omega
  clear hE hp hr hP hbx hce hcc
  go_enter Tryd.func27, Tryd.ntmps27
  go_wp2_with fail
  refine HS.out.mono ?_
  rintro e w1 ⟨ba, L, own, rfl, hok, hb, hown⟩
  have hT := texts_any (lines_ok (newCf E base (boxV w s pa pcs.length pc tog broken d c m).heap.size tog broken d c m) rfl rfl rfl) own hok (by simp) (by simp) P n HR.out (by omega)
  have HB := Lib.hid hb
  have HO := Lib.hid hown
  clear hok hb hown HS HR
  generalize hcf : newCf E base (boxV w s pa pcs.length pc tog broken d c m).heap.size tog broken d c m = cf at *
  have hcB : cf.B = w.heap.size + 6 := by rw [← hcf]; simp
  have hcE : cf.E = E := by rw [← hcf]
  rw [hcB] at hT
  have HT := Lib.hid hT
  have HCB := Lib.hid hcB
  have HCE := Lib.hid hcE
  clear hcf hcB hcE hT
  go_wp2_with fail
  refine HT.out.mono ?_
  rintro e w2 ⟨v, x, tokv, ba', L', own', ts, rfl, hPP, hok, ho, hf, hg⟩
  obtain ⟨rfl, hxe⟩ := HP.out _ _ hPP
  have hErr := err_any hok
  rw [hxe, HCB.out, HCE.out] at hErr
  have HErr := Lib.hid hErr
  have hoff : Off pl w w2 := off_box HBX.out (off_new HB.out HO.out ho)
  have hbase : Below base w w2 := hoff.below HE.out.e.le (fun k hk => (HPc.out k hk))
  have HCd := Lib.hid (fun n => code_any ((HE.out.below hbase).drewN n) (errOf (some ce)) HCC.out)
  have hsz2 : w.heap.size ≤ w1.heap.size := Nat.le_trans HBX.out.size HB.out.size
  have HQ := Lib.hid (fun n => (show FromPost ts (codeI (errOf (some ce))) pl w (.returned (.tuple #[v, .int .i64 (codeI (errOf (some ce)))])) (w2.drewN n) from ⟨v, rfl, hg.1.mono hsz2, hoff.drewN n⟩))
  clear hok hErr hoff hbase ho hf hg hPP hxe HT HP HB HO HBX HE HPc HCC hsz2
  generalize FromPost ts (codeI (errOf (some ce))) pl w = PP at *
  generalize codeI (errOf (some ce)) = cd at *
  generalize errOf (some ce) = oe at *
  go_wp2_with fail
  refine HErr.out.mono ?_
  rintro e w3 ⟨rfl, nn, rfl⟩
  go_wp2_with fail
  refine (HCd.out nn).mono ?_
  rintro e w3 ⟨rfl, rfl⟩
  go_wp2_with fail
  exact HQ.out nn

/-- all lines have room -/
theorem linesFrom_fit (d broken : Bool) (hE : EnvC base w E) (hp : PcsAt base w pa pcs pc pl) (hs : s.size ≤ 4194304) (hl : LinedF s.data.toList d c m) :
    Calls Tryd.prog 27 #[srcV s pa pcs.length pc tog broken, roomV d c m] w (FromPost (lines s.data.toList) (if broken then 5 else 0) pl w) := by
  have h := linesFrom_gen (s := s) (tog := tog) d broken hE hp hs hl.sized (EndsL (if broken then 5 else 0) s.data.toList) s.size (by omega) (lines_all tog _ s (by have := hl.three; omega) hl.roomy) (tokens s.data.toList) (if broken then 5 else 0) (by cases broken <;> simp) (fun ts x h => ⟨h.1, h.2.2.2.2⟩)
  rw [hl.tokens] at h
  cases broken <;> exact h

/-- a line is too long -/
theorem linesFrom_long (d broken : Bool) (hE : EnvC base w E) (hp : PcsAt base w pa pcs pc pl) (hs : s.size ≤ 4194304) (hsz : sizedB d c m = true) (hlim : 0 < limitN d c m) (k : Nat) (hk : k ≤ 4194304) (hL : LongAt (limitN d c m) tog k s.data.toList) :
    Calls Tryd.prog 27 #[srcV s pa pcs.length pc tog broken, roomV d c m] w (FromPost ((lines s.data.toList).take k) 1 pl w) := by
  have hr := long_runs (limitN d c m) tog (if broken then 5 else 0) hlim k (newSm s) [] ⟨⟨rfl, rfl, .inl rfl⟩, by simp, by simp⟩ hL
  have e : (newSm s).pend ++ (newSm s).rest = s.data.toList := rfl
  rw [e] at hr
  exact linesFrom_gen (s := s) (tog := tog) d broken hE hp hs hsz _ k hk hr ((lines s.data.toList).take k) 1 (.inr ⟨by omega, by omega⟩) (fun ts x h => ⟨by simpa using h.1, h.2⟩)
end
end Go.Proofs.YtkafojdjadnfaaaDoor
