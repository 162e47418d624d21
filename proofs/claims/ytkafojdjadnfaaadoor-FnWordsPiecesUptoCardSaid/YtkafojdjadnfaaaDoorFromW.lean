/-
  What a scanner of words gives in all: impl.Words, impl.WordsFrom.
-/
import Derived.Test.YtkafojdjadnfaaaDoorGive
import Derived.Test.YtkafojdjadnfaaaDoorSplit
import Derived.Test.YtkafojdjadnfaaaDoorScanW
import Derived.Test.YtkafojdjadnfaaaDoorWordRuns
import Derived.Test.YtkafojdjadnfaaaDoorFrom
import Derived.Test.YtkafojdjadnfaaaDoorLined
namespace Go.Proofs.YtkafojdjadnfaaaDoor
set_option linter.unusedVariables false
set_option linter.unusedSimpArgs false
set_option maxRecDepth 20000
open Go.RowKit

/-- the two tables, below -/
structure TabsB (base : Nat) (w : World) : Prop where
  t : Tabs w
  l1 : 10 < base
  l2 : 11 < base
theorem TabsB.below {base : Nat} {w w' : World} (h : TabsB base w) (hb : Below base w w') : TabsB base w' := ⟨tabs_on h.t h.l1 h.l2 hb, h.l1, h.l2⟩
theorem TabsB.later {base : Nat} {w w' : World} (h : TabsB base w) (hl : base ≤ w.heap.size) (hb : Below w.heap.size w w') : TabsB base w' := h.below (hb.mono hl)

/-- a new scanner, given ScanWords -/
theorem SOk.splitW {cf : Cfg} {x : Sm Unit} {tokv : Value} {called : Bool} {ba : Option Addr} {L : Nat} {own : List Nat} {w : World} (h : SOk cf noMem x tokv called ba L own w) (hT : TabsB cf.base w) :
    SOk { cf with f := 47, first := #[], cap := #[] } (tabMem cf.base) x tokv called ba L own (w.setCell ⟨cf.B, 1, none⟩ (.func (.func 47) #[] #[])) := by
  have hb : Below cf.base w (w.setCell ⟨cf.B, 1, none⟩ (.func (.func 47) #[] #[])) := (Below.refl _ _).setCell (h.lt cf.B h.memB).1 _
  have hT2 := hT.below hb
  have := h.split 47 #[] #[] (tabMem cf.base) () [] (fun s e bytes pa pcs pc pl bl osp hI _ => hI.r.hsp) ⟨rfl, hT2.t, hT2.l1, hT2.l2⟩ List.nodup_nil (fun k hk => by cases hk)
  rw [List.append_nil] at this
  exact this

/-- what all runs of a scanner of words come to -/
def EndsW (endE : Nat) (t : List UInt8) (ts : List (List UInt8)) (x : Sm Unit) : Prop := ts = words t ∧ Fine endE x ∧ x.pend = [] ∧ x.rest = [] ∧ x.err = some endE
theorem words_all {lim : Nat} (tog : Bool) (endE : Nat) (s : ByteArray) (hr : RoomyW lim s.data.toList) : Runs splitWords lim tog endE (EndsW endE s.data.toList) s.size (newSm s) [] := by
  have := words_runs lim tog endE s.size (newSm s) [] (by simp) ⟨rfl, rfl, .inl rfl⟩ (by simpa using hr)
  have e : (newSm s).pend ++ (newSm s).rest = s.data.toList := rfl
  rw [e] at this
  exact this

section
variable {base : Nat} {w : World} {E : Nat → Addr} {s : ByteArray}
set_option maxHeartbeats 400000 in
theorem implWords_any (hE : Env base w E) (hTb : TabsB base w) (hs : s.size ≤ 4194304) (hr : RoomyW 65536 s.data.toList) :
    Calls Tryd.prog 35 #[.string s] w (GivesL (words s.data.toList) w) := by
  have HS := Lib.hid (scanner_any (s := s) (pa := none) (pcs := []) (pc := 0) (tog := false) (c := 0) (m := 0) true false hE (PcsAt.none base w) (by omega) rfl)
  have HR := Lib.hid (words_all (lim := 65536) false 0 s hr)
  have HTb := Lib.hid (fun w' (hb : Below w.heap.size w w') => hTb.later hE.le hb)
  clear hE hr hTb
  go_enter Tryd.func35, Tryd.ntmps35
  go_wp2_with fail
  refine HS.out.mono ?_
  rintro e w1 ⟨ba, L, own, rfl, hok, hb, hown⟩
  obtain ⟨h9, hf, h1⟩ := hok.forSplit
  have hok2 := hok.splitW (HTb.out w1 hb)
  have HT := Lib.hid (texts_any (words_ok _ rfl rfl rfl) own hok2 (by simp) (by simp) (EndsW 0 s.data.toList) s.size HR.out (by omega))
  have HSp := Lib.hid (split_any (w.heap.size + 4) (.func 47) #[] #[] w1 h9 hf h1)
  have HO1 := Lib.hid ((Off.refl own w1).setCell (p := ⟨w.heap.size + 4, 1, none⟩) hok.memB (.func (.func 47) #[] #[]))
  have HB := Lib.hid hb
  have HO := Lib.hid hown
  clear hok hb hown HS HR hok2 h9 hf h1 HTb
  go_wp2_with fail
  refine HSp.out.mono ?_
  rintro e w2 ⟨rfl, rfl⟩
  go_wp2_with fail
  refine HT.out.mono ?_
  rintro e w2 ⟨v, x, tokv, ba', L', own', ts, rfl, ⟨rfl, -⟩, -, ho, -, hg⟩
  have HP : GivesL (words s.data.toList) w (.returned v) w2 := ⟨v, rfl, hg.1.mono (Nat.le_trans HB.out.size HO1.out.size), off_nil (off_new HB.out HO.out (HO1.out.trans ho (Fresh.refl _ _)))⟩
  have HP := Lib.hid HP
  clear ho hg HT HB HO HSp HO1
  generalize GivesL (words s.data.toList) w = PP at *
  go_wp2_with fail
  exact HP.out
end
open Go.RowKit

theorem EnvC.drew2 {base : Nat} {w : World} {E : Nat → Addr} (h : EnvC base w E) (n : Nat) : EnvC base (w.drewN n) E := h.below (bel_drew (Below.refl _ _) n)

section
variable {base : Nat} {w : World} {E : Nat → Addr} {s : ByteArray} {pa : Option Addr} {pcs : List Int} {pc : Nat} {pl : List Nat} {tog : Bool} {c m : Int}

set_option maxRecDepth 100000 in
set_option maxHeartbeats 1000000 in
theorem wordsFrom_gen (d broken : Bool) (hE : EnvC base w E) (hTb : TabsB base w) (hp : PcsAt base w pa pcs pc pl) (hs : s.size ≤ 4194304) (hsz : sizedB d c m = true) (P : List (List UInt8) → Sm Unit → Prop) (n : Nat) (hn : n ≤ 4194304)
    (hr : Runs splitWords (limitN d c m) tog (if broken then 5 else 0) P n (newSm s) []) (xs : List (List UInt8)) (ce : Nat) (hce : ce = 0 ∨ (1 ≤ ce ∧ ce ≤ 5)) (hP : ∀ ts x, P ts x → ts = xs ∧ x.err = some ce) :
    Calls Tryd.prog 30 #[srcV s pa pcs.length pc tog broken, roomV d c m] w (FromPost xs (codeI (errOf (some ce))) pl w) := by
  have hbx := boxV_below w s pa pcs.length pc tog broken d c m
  have HS := Lib.hid (scanner_any (s := s) (tog := tog) d broken (hE.e.later hbx) (pcs_on hp hbx) (by omega) hsz)
  have HR := Lib.hid hr
  have HP := Lib.hid hP
  have HE := Lib.hid hE
  have HTb := Lib.hid (fun w' (hb : Below w.heap.size w w') => hTb.later hE.e.le hb)
  have HBX := Lib.hid hbx
  have hcc : ∀ k, errOf (some ce) = some k → 1 ≤ k ∧ k ≤ 5 := by
    intro k hk
    rcases hce with rfl | h
    · cases hk
    · cases ce with
      | zero => omega
      | succ j => simp [errOf] at hk; omega
  have HCC := Lib.hid hcc
  have HPc := Lib.hid (fun k hk => (hp.hlt k hk).1)
  have hsz1 : w.heap.size ≤ w.heap.size + 2 := by omega
  clear hE hp hr hP hbx hce hcc hTb
  go_enter Tryd.func30, Tryd.ntmps30
  go_wp2_with fail
  refine HS.out.mono ?_
  rintro e w1 ⟨ba, L, own, rfl, hok, hb, hown⟩
  obtain ⟨h9, hf, h1⟩ := hok.forSplit
  have hok2 := hok.splitW (HTb.out w1 (below_step HBX.out hb))
  have hT := texts_any (words_ok _ rfl rfl rfl) own hok2 (by simp) (by simp) P n HR.out (by omega)
  have hSp := split_any (newCf E base (boxV w s pa pcs.length pc tog broken d c m).heap.size tog broken d c m).B (.func 47) #[] #[] w1 h9 hf h1
  have hO1 := (Off.refl own w1).setCell (p := ⟨(newCf E base (boxV w s pa pcs.length pc tog broken d c m).heap.size tog broken d c m).B, 1, none⟩) hok.memB (.func (.func 47) #[] #[])
  have HB := Lib.hid hb
  have HO := Lib.hid hown
  clear hok hb hown HS HR hok2 h9 hf h1
  generalize hcf : newCf E base (boxV w s pa pcs.length pc tog broken d c m).heap.size tog broken d c m = cf at *
  have hcB : cf.B = w.heap.size + 6 := by rw [← hcf]; simp
  have hcE : cf.E = E := by rw [← hcf]
  generalize hcf2 : ({ cf with f := 47, first := #[], cap := #[] } : Cfg) = cf2 at *
  have hcB2 : cf2.B = w.heap.size + 6 := by rw [← hcf2]; exact hcB
  have hcE2 : cf2.E = E := by rw [← hcf2]; exact hcE
  rw [hcB] at hSp hO1
  rw [hcB2] at hT
  rw [hcB] at hT
  have HT := Lib.hid hT
  have HSp := Lib.hid hSp
  have HO1 := Lib.hid hO1
  have HCB := Lib.hid hcB2
  have HCE := Lib.hid hcE2
  clear hcf hcB hcE hT hSp hO1 hcf2 hcB2 hcE2
  go_wp2_with fail
  refine HSp.out.mono ?_
  rintro e w2 ⟨rfl, rfl⟩
  go_wp2_with fail
  refine HT.out.mono ?_
  rintro e w2 ⟨v, x, tokv, ba', L', own', ts, rfl, hPP, hok, ho, hf, hg⟩
  obtain ⟨rfl, hxe⟩ := HP.out _ _ hPP
  have hErr := err_any hok
  rw [hxe, HCB.out, HCE.out] at hErr
  have HErr := Lib.hid hErr
  have hoff : Off pl w w2 := off_box HBX.out (off_new HB.out HO.out (HO1.out.trans ho (Fresh.refl _ _)))
  have hbase : Below base w w2 := hoff.below HE.out.e.le (fun k hk => (HPc.out k hk))
  have HCd := Lib.hid (fun n => code_any ((HE.out.below hbase).drew2 n) (errOf (some ce)) HCC.out)
  have hsz2 : w.heap.size ≤ w1.heap.size := Nat.le_trans HBX.out.size HB.out.size
  have hsz3 := HO1.out.size
  have HQ := Lib.hid (fun n => (show FromPost ts (codeI (errOf (some ce))) pl w (.returned (.tuple #[v, .int .i64 (codeI (errOf (some ce)))])) (w2.drewN n) from ⟨v, rfl, hg.1.mono (Nat.le_trans hsz2 hsz3), hoff.drewN n⟩))
  clear hok hErr hoff hbase ho hf hg hPP hxe HT HP HB HO HBX HE HPc HCC hsz2 hsz3 HO1 HSp HTb
  generalize FromPost ts (codeI (errOf (some ce))) pl w = PP at *
  generalize codeI (errOf (some ce)) = cd at *
  generalize errOf (some ce) = oe at *
  go_wp2_with fail
  refine HErr.out.mono ?_
  rintro e w3 ⟨rfl, nn, rfl⟩
  go_wp2_with fail
  refine (HCd.out nn).mono ?_
  rintro e w3 ⟨rfl, rfl⟩
  go_wp2_with fail
  exact HQ.out nn

/-- the words of a text have room -/
structure WordedF (t : List UInt8) (d : Bool) (c m : Int) : Prop where
  sized : sizedB d c m = true
  roomy : RoomyW (limitN d c m) t
/-- all words have room -/
theorem wordsFrom_fit (d broken : Bool) (hE : EnvC base w E) (hTb : TabsB base w) (hp : PcsAt base w pa pcs pc pl) (hs : s.size ≤ 4194304) (hl : WordedF s.data.toList d c m) :
    Calls Tryd.prog 30 #[srcV s pa pcs.length pc tog broken, roomV d c m] w (FromPost (words s.data.toList) (if broken then 5 else 0) pl w) := by
  have h := wordsFrom_gen (s := s) (tog := tog) d broken hE hTb hp hs hl.sized (EndsW (if broken then 5 else 0) s.data.toList) s.size (by omega) (words_all tog _ s hl.roomy) (words s.data.toList) (if broken then 5 else 0) (by cases broken <;> simp) (fun ts x h => ⟨h.1, h.2.2.2.2⟩)
  cases broken <;> exact h
/-- a word is too long -/
theorem wordsFrom_long (d broken : Bool) (hE : EnvC base w E) (hTb : TabsB base w) (hp : PcsAt base w pa pcs pc pl) (hs : s.size ≤ 4194304) (hsz : sizedB d c m = true) (hlim : 4 ≤ limitN d c m) (k : Nat) (hk : k ≤ 4194304) (hL : LongAtW (limitN d c m) tog k s.data.toList) :
    Calls Tryd.prog 30 #[srcV s pa pcs.length pc tog broken, roomV d c m] w (FromPost ((words s.data.toList).take k) 1 pl w) := by
  have hr := longW_runs (limitN d c m) tog (if broken then 5 else 0) hlim k (newSm s) [] ⟨⟨rfl, rfl, .inl rfl⟩, by simp, by simp⟩ hL
  have e : (newSm s).pend ++ (newSm s).rest = s.data.toList := rfl
  rw [e] at hr
  exact wordsFrom_gen (s := s) (tog := tog) d broken hE hTb hp hs hsz _ k hk hr ((words s.data.toList).take k) 1 (.inr ⟨by omega, by omega⟩) (fun ts x h => ⟨by simpa using h.1, h.2⟩)
end
end Go.Proofs.YtkafojdjadnfaaaDoor
