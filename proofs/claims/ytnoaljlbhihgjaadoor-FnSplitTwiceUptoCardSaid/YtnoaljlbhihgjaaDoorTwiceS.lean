/-
  impl.SplitTwice: the split function that is given last is used.
-/
import Derived.Test.YtnoaljlbhihgjaaDoorFromW
namespace Go.Proofs.YtnoaljlbhihgjaaDoor
set_option linter.unusedVariables false
set_option linter.unusedSimpArgs false
set_option maxRecDepth 20000
open Go.RowKit

/-- a scanner of words, given ScanLines -/
theorem SOk.splitBack {cf : Cfg} {b : Nat} {x : Sm Unit} {tokv : Value} {called : Bool} {ba : Option Addr} {L : Nat} {own : List Nat} {w : World} (h : SOk cf (tabMem b) x tokv called ba L own w) :
    SOk { cf with f := 45, first := #[], cap := #[] } noMem x tokv called ba L own (w.setCell ⟨cf.B, 1, none⟩ (.func (.func 45) #[] #[])) := by
  have := h.split 45 #[] #[] noMem () [] (fun s e bytes pa pcs pc pl bl osp hI _ => hI.r.hsp.1) rfl List.nodup_nil (fun k hk => by cases hk)
  rw [List.append_nil] at this
  exact this

section
variable {base : Nat} {w : World} {E : Nat → Addr} {s : ByteArray}
set_option maxHeartbeats 400000 in
theorem implSplitTwice_t (hE : Env base w E) (hTb : TabsB base w) (hs : s.size ≤ 4194304) (hr : RoomyW 65536 s.data.toList) :
    Calls Tryd.prog 26 #[.string s, .bool true] w (GivesL (words s.data.toList) w) := by
  have HS := Lib.hid (scanner_any (s := s) (pa := none) (pcs := []) (pc := 0) (tog := false) (c := 0) (m := 0) true false hE (PcsAt.none base w) (by omega) rfl)
  have HR := Lib.hid (words_all (lim := 65536) false 0 s hr)
  have HTb := Lib.hid (fun w' (hb : Below w.heap.size w w') => hTb.later hE.le hb)
  clear hE hr hTb
  go_enter Tryd.func26, Tryd.ntmps26
  go_wp2_with fail
  refine HS.out.mono ?_
  rintro e w1 ⟨ba, L, own, rfl, hok, hb, hown⟩
  obtain ⟨h9, hf, h1⟩ := hok.forSplit
  have hokA := hok.splitN 45
  have hOA := (Off.refl own w1).setCell (p := ⟨w.heap.size + 4, 1, none⟩) hok.memB (.func (.func 45) #[] #[])
  obtain ⟨k9, kf, k1⟩ := hokA.forSplit
  have hokB := hokA.splitW (HTb.out _ (off_nil (off_new hb hown hOA)))
  have hOB := (Off.refl own (w1.setCell ⟨w.heap.size + 4, 1, none⟩ (.func (.func 45) #[] #[]))).setCell (p := ⟨w.heap.size + 4, 1, none⟩) hok.memB (.func (.func 38) #[] #[])
  have HT := Lib.hid (texts_any (words_ok _ rfl rfl rfl) own hokB (by simp) (by simp) (EndsW 0 s.data.toList) s.size HR.out (by omega))
  have HSp := Lib.hid (split_any (w.heap.size + 4) (.func 45) #[] #[] w1 h9 hf h1)
  have HSq := Lib.hid (split_any (w.heap.size + 4) (.func 38) #[] #[] _ k9 kf k1)
  have HO1 := Lib.hid (hOA.trans hOB (Fresh.refl _ _))
  have HB := Lib.hid hb
  have HO := Lib.hid hown
  clear hok hb hown HS HR hokA hokB h9 hf h1 k9 kf k1 hOA hOB HTb
  go_wp2_with fail
  refine HSp.out.mono ?_
  rintro e w2 ⟨rfl, rfl⟩
  go_wp2_with fail
  refine HSq.out.mono ?_
  rintro e w2 ⟨rfl, rfl⟩
  go_wp2_with fail
  refine HT.out.mono ?_
  rintro e w2 ⟨v, x, tokv, ba', L', own', ts, rfl, ⟨rfl, -⟩, -, ho, -, hg⟩
  have HP : GivesL (words s.data.toList) w (.returned v) w2 := ⟨v, rfl, hg.1.mono (Nat.le_trans HB.out.size HO1.out.size), off_nil (off_new HB.out HO.out (HO1.out.trans ho (Fresh.refl _ _)))⟩
  have HP := Lib.hid HP
  clear ho hg HT HB HO HSp HSq HO1
  generalize GivesL (words s.data.toList) w = PP at *
  go_wp2_with fail
  exact HP.out

set_option maxHeartbeats 400000 in
theorem implSplitTwice_f (hE : Env base w E) (hTb : TabsB base w) (hs : s.size ≤ 4194304) (hr : Roomy 65536 s.data.toList) :
    Calls Tryd.prog 26 #[.string s, .bool false] w (GivesL (tokens s.data.toList) w) := by
  have HS := Lib.hid (scanner_any (s := s) (pa := none) (pcs := []) (pc := 0) (tog := false) (c := 0) (m := 0) true false hE (PcsAt.none base w) (by omega) rfl)
  have HR := Lib.hid (lines_all (lim := 65536) false 0 s (by omega) hr)
  have HTb := Lib.hid (fun w' (hb : Below w.heap.size w w') => hTb.later hE.le hb)
  clear hE hr hTb
  go_enter Tryd.func26, Tryd.ntmps26
  go_wp2_with fail
  refine HS.out.mono ?_
  rintro e w1 ⟨ba, L, own, rfl, hok, hb, hown⟩
  obtain ⟨h9, hf, h1⟩ := hok.forSplit
  have hokA := hok.splitW (HTb.out w1 hb)
  have hOA := (Off.refl own w1).setCell (p := ⟨w.heap.size + 4, 1, none⟩) hok.memB (.func (.func 38) #[] #[])
  obtain ⟨k9, kf, k1⟩ := hokA.forSplit
  have hokB := hokA.splitBack
  have hOB := (Off.refl own (w1.setCell ⟨w.heap.size + 4, 1, none⟩ (.func (.func 38) #[] #[]))).setCell (p := ⟨w.heap.size + 4, 1, none⟩) hok.memB (.func (.func 45) #[] #[])
  have HT := Lib.hid (texts_any (lines_ok _ rfl rfl rfl) own hokB (by simp) (by simp) (EndsL 0 s.data.toList) s.size HR.out (by omega))
  have HSp := Lib.hid (split_any (w.heap.size + 4) (.func 38) #[] #[] w1 h9 hf h1)
  have HSq := Lib.hid (split_any (w.heap.size + 4) (.func 45) #[] #[] _ k9 kf k1)
  have HO1 := Lib.hid (hOA.trans hOB (Fresh.refl _ _))
  have HB := Lib.hid hb
  have HO := Lib.hid hown
  clear hok hb hown HS HR hokA hokB h9 hf h1 k9 kf k1 hOA hOB HTb
  go_wp2_with fail
  refine HSp.out.mono ?_
  rintro e w2 ⟨rfl, rfl⟩
  go_wp2_with fail
  refine HSq.out.mono ?_
  rintro e w2 ⟨rfl, rfl⟩
  go_wp2_with fail
  refine HT.out.mono ?_
  rintro e w2 ⟨v, x, tokv, ba', L', own', ts, rfl, ⟨rfl, -⟩, -, ho, -, hg⟩
  have HP : GivesL (tokens s.data.toList) w (.returned v) w2 := ⟨v, rfl, hg.1.mono (Nat.le_trans HB.out.size HO1.out.size), off_nil (off_new HB.out HO.out (HO1.out.trans ho (Fresh.refl _ _)))⟩
  have HP := Lib.hid HP
  clear ho hg HT HB HO HSp HSq HO1
  generalize GivesL (tokens s.data.toList) w = PP at *
  go_wp2_with fail
  exact HP.out
end
end Go.Proofs.YtnoaljlbhihgjaaDoor
