/-
  impl.ByRule: what a scanner by a rule gives.
-/
import Derived.Test.YtkclapimgmnldaaDoorQMadeR
import Derived.Test.YtkclapimgmnldaaDoorQT
import Derived.Test.YtkclapimgmnldaaDoorQV
namespace Go.Proofs.YtkclapimgmnldaaDoor
set_option linter.unusedVariables false
set_option linter.unusedSimpArgs false
set_option maxRecDepth 20000
open Go.RowKit

/-- a new scanner by a rule -/
abbrev newQ (s : ByteArray) : Sm RS := ⟨[], s.data.toList, none, 0, false, []⟩
/-- the three boxes -/
abbrev boxQ (w : World) (s : ByteArray) (pa : Option Addr) (pn pc : Nat) (tog broken d : Bool) (c m : Int) (u : Rl) (bp : Option Addr) (bc : Nat) : World :=
  ((w.alloc (.cells #[.string s, .slice pa pn pc, .bool tog, .bool broken] 38)).alloc (.cells #[.bool d, .int .i64 c, .int .i64 m] 40)).alloc (.cells #[.slice bp u.brks.length bc, .bool u.keep, .bool u.skip, .int .i64 u.stop, .int .i64 u.fail] 42)
theorem boxQ_at (w : World) (s : ByteArray) (pa : Option Addr) (pn pc : Nat) (tog broken d : Bool) (c m : Int) (u : Rl) (bp : Option Addr) (bc : Nat) :
    (boxQ w s pa pn pc tog broken d c m u bp bc).heap[w.heap.size]? = some (.cells #[.string s, .slice pa pn pc, .bool tog, .bool broken] 38 (0, 0)) ∧ (boxQ w s pa pn pc tog broken d c m u bp bc).heap[w.heap.size + 1]? = some (.cells #[.bool d, .int .i64 c, .int .i64 m] 40 (0, 0)) ∧
    (boxQ w s pa pn pc tog broken d c m u bp bc).heap[w.heap.size + 1 + 1]? = some (.cells #[.slice bp u.brks.length bc, .bool u.keep, .bool u.skip, .int .i64 u.stop, .int .i64 u.fail] 42 (0, 0)) := by
  refine ⟨?_, ?_, ?_⟩
  · rw [Below.heap_alloc _ _ _ (by simp; omega), Below.heap_alloc _ _ _ (by simp)]; exact heap_new w _
  · rw [Below.heap_alloc _ _ _ (by simp)]
    have := heap_new (w.alloc (.cells #[.string s, .slice pa pn pc, .bool tog, .bool broken] 38)) (.cells #[.bool d, .int .i64 c, .int .i64 m] 40)
    simpa using this
  · have := heap_new ((w.alloc (.cells #[.string s, .slice pa pn pc, .bool tog, .bool broken] 38)).alloc (.cells #[.bool d, .int .i64 c, .int .i64 m] 40)) (.cells #[.slice bp u.brks.length bc, .bool u.keep, .bool u.skip, .int .i64 u.stop, .int .i64 u.fail] 42)
    simpa using this
/-- the scanner's configuration with the rule -/
abbrev ruleCf (E : Nat → Addr) (base W0 : Nat) (tog broken d : Bool) (c m : Int) (T : Nat) : Cfg := { newCf E base W0 tog broken d c m with f := 37, first := #[.pointer (some ⟨T, 0, none⟩)], cap := #[] }
/-- .. and its world behind Split -/
abbrev splitQ (wm : World) (W0 T : Nat) : World := wm.setCell ⟨W0 + 4, 1, none⟩ (.func (.func 37) #[.pointer (some ⟨T, 0, none⟩)] #[])

section
variable {base : Nat} {w w4 wm : World} {E : Nat → Addr} {s : ByteArray} {pa : Option Addr} {pcs : List Int} {pc : Nat} {pl : List Nat} {tog : Bool} {c m : Int} {u : Rl} {bp : Option Addr} {bc : Nat} {rl : List Nat} {d broken : Bool} {T W0 : Nat} {ba : Option Addr} {L : Nat} {own : List Nat} {v14 v17 : Value}
theorem rule_split (hM : NJ base w4 E s pl tog c m u bp bc d broken true true v14 v17 T W0 ba L own wm) (hE : EnvC base w4 E) (hR : BrksAt w4 u.brks bp rl) (hbc : u.brks.length ≤ bc ∧ bc ≤ 9223372036854775807) (hnd : rl.Nodup) (hrl : ∀ k, k ∈ rl → base ≤ k ∧ k < w4.heap.size ∧ k ∉ pl) :
    SOk (ruleCf E base W0 tog broken d c m T) (RuleSI E base T u) (newQ s) (.slice none 0 0) false ba L (own ++ T :: rl) (splitQ wm W0 T) := by
  obtain ⟨-, hw0, hok, howns⟩ := hM.i2 rfl
  obtain ⟨-, hT0, hT⟩ := hM.i5 rfl
  have hd5 := hM.d5 rfl rfl
  have hB : (newCf E base W0 tog broken d c m).B = W0 + 4 := rfl
  have hm := hok.memB
  have hTB : T ≠ W0 + 4 := fun e => hd5 (by rw [e]; exact hm)
  have hno : ∀ k, k ∈ rl → k ∉ own := fun k hk ho => by
    obtain ⟨h1, h2, h3⟩ := hrl k hk
    rcases howns k ho with h | h
    · exact h3 h
    · omega
  have hbl := hE.e.le
  refine hok.split 37 #[.pointer (some ⟨T, 0, none⟩)] #[] (RuleSI E base T u) [] (T :: rl) (fun s e bytes pa pcs pc pl bl osp hI _ => hI.r.hsp) ⟨⟨bp, bc, .slice none 0 0, rl, hbc.1, hbc.2, ?_, ?_, ?_, by simp [Value.ownBlock]⟩, ?_, hE.lts⟩ ?_ ?_
  · exact (heap_setCell_not hTB _).trans hT
  · refine hR.frame fun k hk => ?_
    rw [heap_setCell_not (fun e => hno k hk (by rw [e]; exact hm))]
    exact hM.bel.block k (hrl k hk).2.1
  · exact ⟨by simp, .inl ⟨rfl, rfl⟩⟩
  · have h4 := hE.lts
    refine (World.cell?_of_block (a := ⟨0, 0, none⟩) ((heap_setCell_not ?_ _).trans (hM.bel.block _ ?_))).trans hE.sp
    · have := (hok.lt _ hm).1
      intro e
      have h5 : base ≤ W0 + 4 := this
      have e' : 0 = W0 + 4 := e
      omega
    · exact Nat.lt_of_lt_of_le h4 hbl
  · refine List.nodup_cons.2 ⟨fun h => ?_, hnd⟩
    have := (hrl T h).2.1
    omega
  · intro k hk
    rcases List.mem_cons.1 hk with rfl | hk
    · exact ⟨hd5, Nat.le_trans hbl hT0, lt_of_heap hT⟩
    · obtain ⟨h1, h2, h3⟩ := hrl k hk
      exact ⟨hno k hk, h1, Nat.lt_of_lt_of_le h2 hM.bel.size⟩

/-- what ByRule gives -/
def RulePost (base : Nat) (P : List (List UInt8) → Sm RS → Prop) (ps : List Nat) (w : World) (e : Ending) (w' : World) : Prop :=
  ∃ ts x' tv ca cn cc, e = .returned (.tuple #[tv, .slice ca cn cc, .int .i64 (codeI (errOf x'.err))]) ∧ P ts x' ∧ StrsAt w.heap.size w' tv ts ∧ w'.ownsRow base 47 2 (.slice ca cn cc) x'.sp.length (x'.sp.flatMap callV) ∧ Off ps w w'

set_option maxRecDepth 100000 in
set_option maxHeartbeats 1000000 in
theorem byRule_any (d broken : Bool) (hE : EnvC base w E) (hp : PcsAt base w pa pcs pc pl) (hs : s.size ≤ 4194304) (hsz : sizedB d c m = true) (hR : BrksAt w u.brks bp rl) (hbc : u.brks.length ≤ bc ∧ bc ≤ 9223372036854775807) (hnd : rl.Nodup) (hrl : ∀ k, k ∈ rl → base ≤ k ∧ k < w.heap.size ∧ k ∉ pl)
    (P : List (List UInt8) → Sm RS → Prop) (n : Nat) (hn : n ≤ 8388608) (hr : Runs (splitRule u) (limitN d c m) tog (if broken then 5 else 0) P n (newQ s) []) (hP : ∀ ts x, P ts x → ∀ k, x.err = some k → k ≤ 5) :
    Calls Tryd.prog 14 #[srcV s pa pcs.length pc tog broken, roomV d c m, rulV u bp bc] w (RulePost base P (pl ++ rl) w) := by
  have hmf : ∀ (fn : Fn) (first cap : Array Value) (w : World), (Instr.makeFunc fn first cap).run Tryd.prog w = .ok (.func fn first cap) w := fun _ _ _ _ => rfl
  have hbx : Below w.heap.size w (boxQ w s pa pcs.length pc tog broken d c m u bp bc) := bel_al (bel_al (bel_al (Below.refl _ _) _) _) _
  have HBX := Lib.hid hbx
  have hbA := boxQ_at w s pa pcs.length pc tog broken d c m u bp bc
  have HR := Lib.hid (fun Q => made_rule (base := base) (w := boxQ w s pa pcs.length pc tog broken d c m u bp bc) (E := E) (s := s) (pa := pa) (pcs := pcs) (pc := pc) (pl := pl) (tog := tog) (c := c) (m := m) (u := u) (bp := bp) (bc := bc) (d := d) (broken := broken) (Nat.le_trans hE.e.le hbx.size) (srcV s pa pcs.length pc tog broken) (roomV d c m) (rulV u bp bc) (.slice none 0 0) (.slice none 0 0) (.int .i64 0) undef w.heap.size (w.heap.size + 1) (w.heap.size + 1 + 1)
    (cell_of_heap hbA.1) (cell_of_heap hbA.1) (cell_of_heap hbA.1) (cell_of_heap hbA.1) (cell_of_heap hbA.2.1) (cell_of_heap hbA.2.1) (cell_of_heap hbA.2.1) (cell_of_heap hbA.2.2) (cell_of_heap hbA.2.2) (cell_of_heap hbA.2.2) (cell_of_heap hbA.2.2) (cell_of_heap hbA.2.2) (fun k hk => Nat.lt_of_lt_of_le (hp.hlt k hk).2 hbx.size) (fun W hW => scanner_any (s := s) (tog := tog) d broken (hE.e.later (bel_tr hbx hW)) (pcs_on hp (bel_tr hbx hW)) (by omega) hsz) Q)
  have HSp := Lib.hid (fun T W0 ba L own wm (hM : NJ base (boxQ w s pa pcs.length pc tog broken d c m u bp bc) E s pl tog c m u bp bc d broken true true (.pointer (some ⟨W0 + 4, 0, none⟩)) (.pointer (some ⟨T, 0, none⟩)) T W0 ba L own wm) => rule_split hM (hE.later hbx) (hR.frame fun k hk => hbx.block k (hrl k hk).2.1) hbc hnd (fun k hk => ⟨(hrl k hk).1, Nat.lt_of_lt_of_le (hrl k hk).2.1 hbx.size, (hrl k hk).2.2⟩))
  have HRl := Lib.hid hrl
  have HE := Lib.hid hE
  have HPc := Lib.hid hp.hlt
  have HRn := Lib.hid hr
  have HP := Lib.hid hP
  clear hbx hE hp hbA hR hnd hrl hr hP
  obtain ⟨PP, hPP⟩ : ∃ PP, PP = RulePost base P (pl ++ rl) w := ⟨_, rfl⟩
  rw [← hPP]
  have HPP := Lib.hid hPP
  clear hPP
  go_enter Tryd.func14, Tryd.ntmps14
  go_wp2_with fail
  refine HR.out _ ?_
  intro v12 v13 v14 v15 v16 v17 T W0 ba L own wm hM
  have hok := HSp.out T W0 ba L own wm hM
  obtain ⟨-, hw0, hok0, howns⟩ := hM.i2 rfl
  obtain ⟨-, hT0, hT⟩ := hM.i5 rfl
  obtain ⟨h9, hfz, h1⟩ := hok0.forSplit
  have HSpl := Lib.hid (split_any (W0 + 4) (.func 37) #[.pointer (some ⟨T, 0, none⟩)] #[] wm h9 hfz h1)
  have hso : SplitOK (ruleCf E base W0 tog broken d c m T) (RuleSI E base T u) (splitRule u) true fuRule := rule_ok _ rfl rfl rfl
  have hT2 := texts_fu hso (own ++ T :: rl) hok (by simp) (by simp) P n HRn.out (by omega) (.inr (by
    have h1 : s.data.toList.length = s.size := by simp
    simp only [Sm.left, fuRule, h1]
    simp
    omega))
  have hoff5 : Off (own ++ T :: rl) wm (splitQ wm W0 T) := (Off.refl _ _).setCell (p := ⟨W0 + 4, 1, none⟩) (by have := hok0.memB; exact List.mem_append_left _ this) _
  have HT2 := Lib.hid hT2
  have HH := Lib.hid (And.intro hM.bel (And.intro howns (And.intro hT0 hoff5)))
  clear hM HR HSp hok h9 hfz h1 hok0 howns hT0 hT hT2 hoff5 hso hw0
  unfold frQ
  go_wp2_with fail
  refine HSpl.out.mono ?_
  rintro e w5 ⟨rfl, rfl⟩
  go_wp2_with fail
  refine HT2.out.mono ?_
  rintro e w6 ⟨tv, x, tokv, ba', L', own', ts, rfl, hPP, hok, ho, hf, hg⟩
  have hErr := fun nn => err_any (SOk.frame (w' := w6.drewN nn) (rule_ok _ rfl rfl rfl) hok ⟨rfl, rfl, rfl, Nat.le_refl _, fun _ _ => rfl⟩ (fun _ _ => rfl))
  obtain ⟨s0, e0, bytes, pa0, pcs0, pc0, pl0, bl0, osp0, hI, hown'⟩ := hok
  obtain ⟨⟨bp0, bc0, cv, rl0, g1, g2, g3, g4, g5, g6⟩, g7, g8⟩ := hI.r.hsp
  obtain ⟨ca, cn, cc, rfl⟩ : ∃ ca cn cc, cv = .slice ca cn cc := by
    rcases g5.2 with ⟨h9, _⟩ | ⟨g, cap, cur, h9, _⟩
    · exact ⟨_, _, _, h9⟩
    · exact ⟨_, _, _, h9⟩
  have k5 : w6.cell? ⟨T, 5, none⟩ = some (.slice ca cn cc) := cell_of_heap g3
  obtain ⟨hbel, howns, hT0, hoff5⟩ := HH.out
  have hbx4 : (boxQ w s pa pcs.length pc tog broken d c m u bp bc).heap.size = w.heap.size + 1 + 1 + 1 := by simp
  have hoA := hoff5.trans ho (Fresh.refl _ _)
  have hoff : Off (pl ++ rl) w w6 := by
    have hz1 := HBX.out.size
    have hz2 := hbel.size
    have hz4 := hoA.size
    refine ⟨hoA.os.trans (hbel.os.trans HBX.out.os), hoA.tape.trans (hbel.tape.trans HBX.out.tape), hoA.output.trans (hbel.output.trans HBX.out.output), by omega, fun k hk hn' => ?_⟩
    rw [hoA.block k (by omega) (fun hm => by
      rcases List.mem_append.1 hm with h | h
      · rcases howns k h with h | h
        · exact hn' (List.mem_append_left _ h)
        · omega
      · rcases List.mem_cons.1 h with h | h
        · omega
        · exact hn' (List.mem_append_right _ h)), hbel.block k (by omega)]
    exact HBX.out.block k hk
  have hE6 : EnvC base w6 E := HE.out.below (hoff.below HE.out.e.le (fun k hk => by
    rcases List.mem_append.1 hk with h | h
    · exact (HPc.out k h).1
    · exact (HRl.out k h).1))
  have HErr := Lib.hid (fun nn => (show Calls Tryd.prog 40 #[.pointer (some ⟨W0 + 4, 0, none⟩)] (w6.drewN nn) (fun e w' => e = .returned (errV E (errOf x.err)) ∧ ∃ n, w' = (w6.drewN nn).drewN n) from hErr nn))
  have HCd := Lib.hid (fun nn => code_any (hE6.drewN nn) (errOf x.err) (fun k hk2 => by
    cases hx : x.err with
    | none => rw [hx] at hk2; cases hk2
    | some c =>
      have := HP.out _ _ hPP c hx
      rw [hx] at hk2
      cases c with
      | zero => cases hk2
      | succ j => simp [errOf] at hk2; omega))
  have hsz2 : w.heap.size ≤ (splitQ wm W0 T).heap.size := by
    have h1 := HBX.out.size
    have h2 := hbel.size
    have h3 := hoff5.size
    omega
  have HQ := Lib.hid (fun nn => (show PP (.returned (.tuple #[tv, .slice ca cn cc, .int .i64 (codeI (errOf x.err))])) (w6.drewN nn) from by
    rw [HPP.out]
    exact ⟨ts, x, tv, ca, cn, cc, rfl, hPP, hg.1.mono hsz2, g5, hoff.drewN nn⟩))
  clear hErr hI g1 g2 g3 g4 g5 g6 g7 g8 hbel howns hT0 hoff5 hbx4 hoA hoff hE6 hsz2 ho hf hg hPP hown' HT2 HH HSpl HP HRn HE HPc HRl HBX
  generalize codeI (errOf x.err) = cd at *
  generalize errV E (errOf x.err) = ev at *
  go_wp2_with fail
  go_quiet (first
    | (go_at_call 40; exact Calls.quiet_of (HErr.out _))
    | (go_at_call 39; exact Calls.quiet_of_same ((HCd.out _).mono (fun e w' h => ⟨h.1, h.2.symm⟩))))
  go_wp2_with fail
  go_ret3
  exact HQ.out _
end
end Go.Proofs.YtkclapimgmnldaaDoor
