/-
  impl.WordsAfter: behind the end, Scan goes on returning false.
-/
import Derived.Test.YtnoaljlbhihgjaaDoorDrain
import Derived.Test.YtnoaljlbhihgjaaDoorFromW
namespace Go.Proofs.YtnoaljlbhihgjaaDoor
set_option linter.unusedVariables false
set_option linter.unusedSimpArgs false
set_option maxRecDepth 20000
open Go.RowKit

/-- a scanner at its end, and a row of falses -/
def EndedW (cf : Cfg) (own0 : List Nat) (w0 : World) (n k : Int) (v : Value) (w : World) : Prop :=
  ∃ (j : Nat) (x : Sm Unit) (tokv : Value) (ba : Option Addr) (L : Nat) (own : List Nat), SOk cf (tabMem cf.base) x tokv true ba L own w ∧ (Fine cf.endE x ∧ x.pend = [] ∧ x.rest = [] ∧ x.err = some cf.endE) ∧ Off own0 w0 w ∧ Fresh own0 own w0 ∧ RowG w0.heap.size own w 4 v j (List.replicate j (.bool false)) ∧ ((n ≤ 0 ∧ k = n ∧ j = 0) ∨ (0 ≤ k ∧ k + j = n))

theorem fine_emp {endE : Nat} {x : Sm Unit} (h : Fine endE x) : x.emp ≤ 100 := by rw [h.2.1]; exact Nat.zero_le _

/-- one more call of Scan behind the end -/
theorem ended_scanW {cf : Cfg} (hs : SplitOK cf (tabMem cf.base) splitWords true) (hlim : 4 ≤ cf.lim) {own0 : List Nat} {w0 w : World} {n k : Int} {v : Value} (h : EndedW cf own0 w0 n k v w) :
    Calls Tryd.prog 39 #[.pointer (some ⟨cf.B, 0, none⟩)] w fun e w' => e = .returned (.bool false) ∧ EndedW cf own0 w0 n k v w' := by
  obtain ⟨j, x, tokv, ba, L, own, hok, ⟨hf, hp, hr, he⟩, ho, hfr, hg, hk⟩ := h
  refine (scan_any hs own hok (fine_emp hf) (by rw [hf.1]; simp)).mono ?_
  rintro en w2 ⟨o, x', tokv', ba', L', own2, hscan, hok2, ho1, hf1, hret, hpan⟩
  have h0 : trim (x.pend ++ x.rest) = [] := by rw [hp, hr]; exact trim_nil
  rcases hscan with ⟨h, _⟩ | ⟨_, kk, hscan⟩
  · rw [hf.1] at h; cases h
  · obtain ⟨h1, h2, _⟩ := scan_words cf.lim cf.tog cf.endE hlim kk x o x' hscan hf (fun h => absurd h0 h)
    obtain ⟨rfl, h3⟩ := h2 h0
    obtain ⟨rfl, -, -⟩ := hret _ rfl
    exact ⟨rfl, j, x', tokv', ba', L', own2, hok2, ⟨h1, h3⟩, ho.trans ho1 hfr, hfr.trans hf1 ho.size, hg.scan ho1 hf1, hk⟩

section
variable {base : Nat} {w : World} {E : Nat → Addr} {s : ByteArray} {pa : Option Addr} {pcs : List Int} {pc : Nat} {pl : List Nat} {tog : Bool} {c m : Int}

set_option maxRecDepth 100000 in
set_option maxHeartbeats 1000000 in
theorem wordsAfter_any (d broken : Bool) (n : Int) (hE : Env base w E) (hTb : TabsB base w) (hp : PcsAt base w pa pcs pc pl) (hs : s.size ≤ 4194304) (hl : WordedF s.data.toList d c m) (hn : n ≤ 1000) (hn0 : -9223372036854775808 ≤ n) :
    Calls Tryd.prog 16 #[srcV s pa pcs.length pc tog broken, roomV d c m, .int .i64 n] w (AfterPost n pl w) := by
  obtain ⟨i0, hi, hz0, hz1, hz2⟩ := info_parts info_bool
  have hbx := boxV_below w s pa pcs.length pc tog broken d c m
  have HS := Lib.hid (scanner_any (s := s) (tog := tog) d broken (hE.later hbx) (pcs_on hp hbx) (by omega) hl.sized)
  have HR := Lib.hid (words_all (lim := limitN d c m) tog (if broken then 5 else 0) s hl.roomy)
  have hlim : 4 ≤ limitN d c m := by have := hl.roomy.1; omega
  have HLim := Lib.hid hlim
  have HBX := Lib.hid hbx
  have HTb := Lib.hid (fun w' (hb : Below w.heap.size w w') => hTb.later hE.le hb)
  clear hE hp hl hlim hbx hTb
  go_enter Tryd.func16, Tryd.ntmps16
  go_wp2_with fail
  refine HS.out.mono ?_
  rintro e w1 ⟨ba, L, own, rfl, hok, hb, hown⟩
  obtain ⟨h9, hff, h1⟩ := hok.forSplit
  have hok2 := hok.splitW (HTb.out w1 (below_step HBX.out hb))
  have hso := words_ok { newCf E base (boxV w s pa pcs.length pc tog broken d c m).heap.size tog broken d c m with f := 38, first := #[], cap := #[] } rfl rfl rfl
  have HSO := Lib.hid hso
  have HT := Lib.hid (drain_start hok2 (by simp) (by simp) (P := EndsW (if broken then 5 else 0) s.data.toList) HR.out)
  have hSp := split_any (newCf E base (boxV w s pa pcs.length pc tog broken d c m).heap.size tog broken d c m).B (.func 38) #[] #[] w1 h9 hff h1
  have hO1 := (Off.refl own w1).setCell (p := ⟨(newCf E base (boxV w s pa pcs.length pc tog broken d c m).heap.size tog broken d c m).B, 1, none⟩) hok.memB (.func (.func 38) #[] #[])
  have hbase : base ≤ w1.heap.size := hok.base_le
  have ecB : (newCf E base (boxV w s pa pcs.length pc tog broken d c m).heap.size tog broken d c m).B = w.heap.size + 6 := by simp
  generalize hwS : w1.setCell ⟨(newCf E base (boxV w s pa pcs.length pc tog broken d c m).heap.size tog broken d c m).B, 1, none⟩ (.func (.func 38) #[] #[]) = wS at *
  rw [ecB] at hSp
  have hbaseS : base ≤ wS.heap.size := Nat.le_trans hbase hO1.size
  have hfin : ∀ w2, Off own wS w2 → Off pl w w2 := fun w2 ho => by
    have h1 := off_new hb hown (hO1.trans ho (Fresh.refl _ _))
    exact ⟨h1.os.trans HBX.out.os, h1.tape.trans HBX.out.tape, h1.output.trans HBX.out.output, Nat.le_trans HBX.out.size h1.size, fun k hk hn => (h1.block k (Nat.lt_of_lt_of_le hk HBX.out.size) hn).trans (HBX.out.block k hk)⟩
  have hsz : w.heap.size ≤ wS.heap.size := Nat.le_trans (Nat.le_trans HBX.out.size hb.size) hO1.size
  have HP := Lib.hid (fun v w2 j (own' : List Nat) (ho : Off own wS w2) (hg : RowG wS.heap.size own' w2 4 v j (List.replicate j (.bool false))) (hj : j = n.toNat) => (show AfterPost n pl w (.returned v) w2 from
    ⟨v, rfl, by
      subst hj
      obtain ⟨h1, h2⟩ := hg.1
      refine ⟨h1, ?_⟩
      rcases h2 with h2 | ⟨g, cap, cur, e, h3, r⟩
      · exact .inl h2
      · exact .inr ⟨g, cap, cur, e, by omega, r⟩, hfin w2 ho⟩))
  have HSp := Lib.hid hSp
  clear hok hok2 hb hown HS HR hso hfin hsz HBX hSp hO1 h9 hff h1 HTb hbase ecB
  have ebb : (newCf E base (boxV w s pa pcs.length pc tog broken d c m).heap.size tog broken d c m).base = base := rfl
  rw [ebb] at HT
  generalize hcf : ({ newCf E base (boxV w s pa pcs.length pc tog broken d c m).heap.size tog broken d c m with f := 38, first := #[], cap := #[] } : Cfg) = cf at *
  have hcB : cf.B = w.heap.size + 6 := by rw [← hcf]; simp
  have hcb : cf.base = base := by rw [← hcf]
  have hcl : cf.lim = limitN d c m := by rw [← hcf]
  have hce : cf.endE = if broken then 5 else 0 := by rw [← hcf]
  have hlim : 4 ≤ cf.lim := by rw [hcl]; exact HLim.out
  have HLim := Lib.hid hlim
  rw [← hcb] at hbaseS HT
  rw [← hce] at HT
  have HCB := Lib.hid hcB
  clear hcf hcB hcb hcl hce hlim ebb
  generalize AfterPost n pl w = PP at *
  go_wp2_with fail
  refine HSp.out.mono ?_
  rintro e w2 ⟨rfl, hw2⟩
  rw [hw2]
  clear hw2 w2 HSp hwS
  go_wp2_with fail
  go_loopg [14] s.size (fun k _ wr => DrainI cf (tabMem cf.base) splitWords (EndsW cf.endE s.data.toList) own wS k wr)
  case atStart => exact HT.out
  case round =>
    have hC := drain_scan HSO.out hrel
    rw [HCB.out] at hC
    have HC := Lib.hid hC
    clear hrel hC HT
    go_wp2_with fail
    refine HC.out.mono ?_
    rintro en w2 (⟨rfl, hd⟩ | ⟨k, rfl, rfl, hd⟩)
    · obtain ⟨x, tokv, ba2, L2, own2, ts, hok, hemp, ho, hf, ⟨-, hfin⟩⟩ := hd
      have hlt2 := hok.lt
      have hw2 : (w2.alloc (.cells #[] 4)).grownBy (w2.alloc (.cells #[] 4)) none := ⟨rfl, rfl, rfl, Nat.le_refl _, fun _ _ _ => rfl⟩
      have HEnd : EndedW cf own wS n n (.slice (some ⟨w2.heap.size, 0, none⟩) 0 0) (w2.alloc (.cells #[] 4)) :=
        ⟨0, x, tokv, ba2, L2, own2, hok.grow HSO.out hw2 (fun k h => by cases h), hfin, ho.alloc _, hf, ⟨World.ownsRow_made _ _ _ ho.size (by decide) rfl, fun k hk hm => by
          have := (hlt2 k hm).2
          simp [Value.ownBlock] at hk
          omega⟩, by rcases Int.lt_or_le 0 n with h | h; exact .inr ⟨by omega, by simp⟩; exact .inl ⟨h, rfl, rfl⟩⟩
      have HE2 := Lib.hid HEnd
      clear hok hemp ho hf hfin hlt2 hw2 HEnd HC
      go_wp2_with fail
      go_loopw [2, 8] (fun i v wr => ∃ k : Int, i = .int .i64 k ∧ k ≤ 1000 ∧ EndedW cf own wS n k v wr) (fun i _ _ => (intOf i).toNat)
      case atStart => exact ⟨n, rfl, hn, HE2.out⟩
      case round =>
        obtain ⟨k, rfl, hk, hE⟩ := hrel
        by_cases hk0 : 0 < k
        · have hC := ended_scanW HSO.out HLim.out hE
          rw [HCB.out] at hC
          have HC := Lib.hid hC
          clear hE hC HE2
          go_wp2_with fail
          refine HC.out.mono ?_
          rintro en w3 ⟨rfl, j, x, tokv, ba3, L3, own3, hok, hfin, ho, hf, hg, hj⟩
          have hlt3 := hok.lt
          have hs3 := ho.size
          have hjn : j ≤ 1000 := by rcases hj with ⟨_, _, h⟩ | ⟨_, h⟩ <;> omega
          have HA := Lib.hid (fun (v' : Value) (w4 : World) (hrow : w4.ownsRow wS.heap.size 4 1 v' (j + 1) (List.replicate j (.bool false) ++ [.bool false])) (hgrow : (w3.alloc (.cells #[.bool false] 4)).grownBy w4 u8.ownBlock) (hat : v'.ownBlock = u8.ownBlock ∨ v'.ownBlock = some (w3.alloc (.cells #[.bool false] 4)).heap.size) =>
            (show EndedW cf own wS n (k - 1) v' w4 from ⟨j + 1, x, tokv, ba3, L3, own3, hok.grow HSO.out hgrow (fun q hq => ⟨Nat.le_trans hbaseS (World.ownsRow.lt hg.1 q hq).1, hg.2 q hq⟩), hfin, ho.grow hgrow (fun q hq => (World.ownsRow.lt hg.1 q hq).1), hf,
              hg.push (fun q hq => (hlt3 q hq).2) (by rw [List.replicate_succ']; exact hrow) hat, by rcases hj with ⟨h1, h2, h3⟩ | ⟨h1, h2⟩; (exfalso; omega); exact .inr ⟨by omega, by push_cast; omega⟩⟩))
          have HR := Lib.hid hg.1
          have HB := Lib.hid (show wS.heap.size ≤ w3.heap.size by omega)
          clear hok hfin ho hf hg hj hlt3 hs3 HC
          go_wp2_with (first
            | (at_builtin; refine wpList_append_own_at _ rfl _ _ 28 rfl wS.heap.size 4 i0 (.bool false) 1 1 (by kernel_rfl) hi hz0 hz1 hz2 rfl (by decide) _ _ _ rfl (HR.out.alloc _) ⟨w3.heap.size, 0, none⟩ 1 1 [.bool false] rfl rfl ?c1 ?c2 ?c3 ?c4 ?c5 ?_)
            | go_in)
          case c1 => exact cell_one_new _ _ _
          case c2 => intro u hu; simp at hu; subst hu; rfl
          case c3 => unfold maxLen; omega
          case c4 => omega
          case c5 => have := HB.out; simp; omega
          · intro v' w4 hown' hgrow _ hat
            have HI := Lib.hid (HA.out v' w4 hown' hgrow (by simpa using hat))
            clear hown' hgrow hat HA HR HB
            go_wp2_with fail
            go_roundw
            case rel => exact ⟨k - 1, rfl, by omega, HI.out⟩
            case measure => simp [intOf]; omega
        · obtain ⟨j, x, tokv, ba3, L3, own3, hok, hfin, ho, hf, hg, hj⟩ := hE
          have HQ := Lib.hid (HP.out u8 wr j own3 ho hg (by rcases hj with ⟨h1, h2, h3⟩ | ⟨h1, h2⟩ <;> omega))
          clear hok hfin ho hf hg hj HE2 HP
          go_wp2_with fail
          exact HQ.out
    · have HD := Lib.hid hd
      clear hd HC
      go_wp2_with fail
      go_roundg k
      case rel => exact HD.out
      case measure => omega
end
end Go.Proofs.YtnoaljlbhihgjaaDoor
