/-
  What a scanner of words gives in all: impl.Words, impl.WordsFrom.
-/
import Derived.Test.YtkclapimgmnldaaDoorQV
import Derived.Test.YtkclapimgmnldaaDoorQScanW
import Derived.Test.YtkclapimgmnldaaDoorQWordRuns
import Derived.Test.YtkclapimgmnldaaDoorQO
namespace Go.Proofs.YtkclapimgmnldaaDoor
set_option linter.unusedVariables false
set_option linter.unusedSimpArgs false
set_option maxRecDepth 20000
open Go.RowKit

/-- the two tables, below -/
structure TabsB (base : Nat) (w : World) : Prop where
  t : Tabs w
  l1 : 9 < base
  l2 : 10 < base
theorem TabsB.below {base : Nat} {w w' : World} (h : TabsB base w) (hb : Below base w w') : TabsB base w' := ⟨tabs_on h.t h.l1 h.l2 hb, h.l1, h.l2⟩
theorem TabsB.later {base : Nat} {w w' : World} (h : TabsB base w) (hl : base ≤ w.heap.size) (hb : Below w.heap.size w w') : TabsB base w' := h.below (hb.mono hl)

/-- a new scanner, given ScanWords -/
theorem SOk.splitW {cf : Cfg} {x : Sm Unit} {tokv : Value} {called : Bool} {ba : Option Addr} {L : Nat} {own : List Nat} {w : World} (h : SOk cf noMem x tokv called ba L own w) (hT : TabsB cf.base w) :
    SOk { cf with f := 42, first := #[], cap := #[] } (tabMem cf.base) x tokv called ba L own (w.setCell ⟨cf.B, 1, none⟩ (.func (.func 42) #[] #[])) := by
  have hb : Below cf.base w (w.setCell ⟨cf.B, 1, none⟩ (.func (.func 42) #[] #[])) := (Below.refl _ _).setCell (h.lt cf.B h.memB).1 _
  have hT2 := hT.below hb
  have := h.split 42 #[] #[] (tabMem cf.base) () [] (fun s e bytes pa pcs pc pl bl osp hI _ => hI.r.hsp) ⟨rfl, hT2.t, hT2.l1, hT2.l2⟩ List.nodup_nil (fun k hk => by cases hk)
  rw [List.append_nil] at this
  exact this

/-- what all runs of a scanner of words come to -/
def EndsW (endE : Nat) (t : List UInt8) (ts : List (List UInt8)) (x : Sm Unit) : Prop := ts = words t ∧ Fine endE x ∧ x.pend = [] ∧ x.rest = [] ∧ x.err = some endE
theorem words_all {lim : Nat} (tog : Bool) (endE : Nat) (s : ByteArray) (hr : RoomyW lim s.data.toList) : Runs splitWords lim tog endE (EndsW endE s.data.toList) s.size (newSm s) [] := by
  have := words_runs lim tog endE s.size (newSm s) [] (by simp) ⟨rfl, rfl, .inl rfl⟩ (by simpa using hr)
  have e : (newSm s).pend ++ (newSm s).rest = s.data.toList := rfl
  rw [e] at this
  exact this

section
variable {base : Nat} {w : World} {E : Nat → Addr} {s : ByteArray}
set_option maxHeartbeats 400000 in
theorem implWords_any (hE : Env base w E) (hTb : TabsB base w) (hs : s.size ≤ 4194304) (hr : RoomyW 65536 s.data.toList) :
    Calls Tryd.prog 28 #[.string s] w (GivesL (words s.data.toList) w) := by
  have HS := Lib.hid (scanner_any (s := s) (pa := none) (pcs := []) (pc := 0) (tog := false) (c := 0) (m := 0) true false hE (PcsAt.none base w) (by omega) rfl)
  have HR := Lib.hid (words_all (lim := 65536) false 0 s hr)
  have HTb := Lib.hid (fun w' (hb : Below w.heap.size w w') => hTb.later hE.le hb)
  clear hE hr hTb
  go_enter Tryd.func28, Tryd.ntmps28
  go_wp2_with fail
  refine HS.out.mono ?_
  rintro e w1 ⟨ba, L, own, rfl, hok, hb, hown⟩
  obtain ⟨h9, hf, h1⟩ := hok.forSplit
  have hok2 := hok.splitW (HTb.out w1 hb)
  have HT := Lib.hid (texts_any (words_ok _ rfl rfl rfl) own hok2 (by simp) (by simp) (EndsW 0 s.data.toList) s.size HR.out (by omega))
  have HSp := Lib.hid (split_any (w.heap.size + 4) (.func 42) #[] #[] w1 h9 hf h1)
  have HO1 := Lib.hid ((Off.refl own w1).setCell (p := ⟨w.heap.size + 4, 1, none⟩) hok.memB (.func (.func 42) #[] #[]))
  have HB := Lib.hid hb
  have HO := Lib.hid hown
  clear hok hb hown HS HR hok2 h9 hf h1 HTb
  go_wp2_with fail
  refine HSp.out.mono ?_
  rintro e w2 ⟨rfl, rfl⟩
  go_wp2_with fail
  refine HT.out.mono ?_
  rintro e w2 ⟨v, x, tokv, ba', L', own', ts, rfl, ⟨rfl, -⟩, -, ho, -, hg⟩
  have HP : GivesL (words s.data.toList) w (.returned v) w2 := ⟨v, rfl, hg.1.mono (Nat.le_trans HB.out.size HO1.out.size), off_nil (off_new HB.out HO.out (HO1.out.trans ho (Fresh.refl _ _)))⟩
  have HP := Lib.hid HP
  clear ho hg HT HB HO HSp HO1
  generalize GivesL (words s.data.toList) w = PP at *
  go_wp2_with fail
  exact HP.out
end
open Go.RowKit

theorem EnvC.drew2 {base : Nat} {w : World} {E : Nat → Addr} (h : EnvC base w E) (n : Nat) : EnvC base (w.drewN n) E := h.below (bel_drew (Below.refl _ _) n)

section
variable {base : Nat} {w : World} {E : Nat → Addr} {s : ByteArray} {pa : Option Addr} {pcs : List Int} {pc : Nat} {pl : List Nat} {tog : Bool} {c m : Int}

/-- the words of a text have room -/
structure WordedF (t : List UInt8) (d : Bool) (c m : Int) : Prop where
  sized : sizedB d c m = true
  roomy : RoomyW (limitN d c m) t
end
end Go.Proofs.YtkclapimgmnldaaDoor
