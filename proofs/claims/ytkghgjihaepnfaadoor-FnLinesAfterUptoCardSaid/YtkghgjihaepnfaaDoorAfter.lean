/-
  impl.LinesAfter: behind the end, Scan goes on returning false.
-/
import Derived.Test.YtkghgjihaepnfaaDoorDrain
namespace Go.Proofs.YtkghgjihaepnfaaDoor
set_option linter.unusedVariables false
set_option linter.unusedSimpArgs false
open Go.RowKit

/-- a scanner at its end, and a row of falses -/
def EndedI (cf : Cfg) (own0 : List Nat) (w0 : World) (n k : Int) (v : Value) (w : World) : Prop :=
  ∃ (j : Nat) (x : Sm Unit) (tokv : Value) (ba : Option Addr) (L : Nat) (own : List Nat), SOk cf noMem x tokv true ba L own w ∧ (Fine cf.endE x ∧ x.pend = [] ∧ x.rest = [] ∧ x.err = some cf.endE) ∧ Off own0 w0 w ∧ Fresh own0 own w0 ∧ RowG w0.heap.size own w 4 v j (List.replicate j (.bool false)) ∧ ((n ≤ 0 ∧ k = n ∧ j = 0) ∨ (0 ≤ k ∧ k + j = n))

theorem fine_emp {endE : Nat} {x : Sm Unit} (h : Fine endE x) : x.emp ≤ 100 := by rw [h.2.1]; exact Nat.zero_le _

/-- one more call of Scan behind the end -/
theorem ended_scan {cf : Cfg} (hs : SplitOK cf noMem splitLines true) (hlim : 0 < cf.lim) {own0 : List Nat} {w0 w : World} {n k : Int} {v : Value} (h : EndedI cf own0 w0 n k v w) :
    Calls Tryd.prog 35 #[.pointer (some ⟨cf.B, 0, none⟩)] w fun e w' => e = .returned (.bool false) ∧ EndedI cf own0 w0 n k v w' := by
  obtain ⟨j, x, tokv, ba, L, own, hok, ⟨hf, hp, hr, he⟩, ho, hfr, hg, hk⟩ := h
  refine (scan_any hs own hok (fine_emp hf) (by rw [hf.1]; simp)).mono ?_
  rintro en w2 ⟨o, x', tokv', ba', L', own2, hscan, hok2, ho1, hf1, hret, hpan⟩
  have h0 : x.pend ++ x.rest = [] := by rw [hp, hr]; rfl
  rcases hscan with ⟨h, _⟩ | ⟨_, kk, hscan⟩
  · rw [hf.1] at h; cases h
  · obtain ⟨h1, h2, _⟩ := scan_lines cf.lim cf.tog cf.endE kk x o x' hscan hf (fun h => absurd h0 h) hlim
    obtain ⟨rfl, h3⟩ := h2 h0
    obtain ⟨rfl, -, -⟩ := hret _ rfl
    exact ⟨rfl, j, x', tokv', ba', L', own2, hok2, ⟨h1, h3⟩, ho.trans ho1 hfr, hfr.trans hf1 ho.size, hg.scan ho1 hf1, hk⟩

section
variable {base : Nat} {w : World} {E : Nat → Addr} {s : ByteArray} {pa : Option Addr} {pcs : List Int} {pc : Nat} {pl : List Nat} {tog : Bool} {c m : Int}

theorem pcs_later {w' : World} (h : PcsAt base w pa pcs pc pl) (hb : Below w.heap.size w w') : PcsAt base w' pa pcs pc pl :=
  ⟨fun i x hx => by
    obtain ⟨b, o, e, hm, hc⟩ := h.hp i x hx
    exact ⟨b, o, e, hm, (hb.cell (p := ⟨b, o + i, none⟩) (h.hlt b hm).2).trans hc⟩, h.hpc, h.hnd, fun k hk => ⟨(h.hlt k hk).1, Nat.lt_of_lt_of_le (h.hlt k hk).2 hb.size⟩⟩

/-- the two boxes of the arguments -/
abbrev boxW (w : World) (s : ByteArray) (pa : Option Addr) (pn pc : Nat) (tog broken d : Bool) (c m : Int) : World :=
  (w.alloc (.cells #[.string s, .slice pa pn pc, .bool tog, .bool broken] 39)).alloc (.cells #[.bool d, .int .i64 c, .int .i64 m] 41)
theorem boxW_below (w : World) (s : ByteArray) (pa : Option Addr) (pn pc : Nat) (tog broken d : Bool) (c m : Int) : Below w.heap.size w (boxW w s pa pn pc tog broken d c m) := ((Below.refl _ _).alloc (Nat.le_refl _) _).alloc (by simp) _

set_option maxRecDepth 100000 in
set_option maxHeartbeats 1000000 in
theorem linesAfter_any (d broken : Bool) (n : Int) (hE : Env base w E) (hp : PcsAt base w pa pcs pc pl) (hs : s.size ≤ 4194304) (hl : LinedF s.data.toList d c m) (hn : n ≤ 1000) (hn0 : -9223372036854775808 ≤ n) :
    Calls Tryd.prog 23 #[srcV s pa pcs.length pc tog broken, roomV d c m, .int .i64 n] w (AfterPost n pl w) := by
  obtain ⟨i0, hi, hz0, hz1, hz2⟩ := info_parts info_bool
  have hbx := boxW_below w s pa pcs.length pc tog broken d c m
  have HS := Lib.hid (scanner_any (s := s) (tog := tog) d broken (hE.later hbx) (pcs_later hp hbx) (by omega) hl.sized)
  have HR := Lib.hid (lines_all (lim := limitN d c m) tog (if broken then 5 else 0) s (by have := hl.three; omega) hl.roomy)
  have hlim : 0 < limitN d c m := by have := hl.three; omega
  have HLim := Lib.hid hlim
  have HBX := Lib.hid hbx
  clear hE hp hl hlim hbx
  go_enter Tryd.func23, Tryd.ntmps23
  go_wp2_with fail
  refine HS.out.mono ?_
  rintro e w1 ⟨ba, L, own, rfl, hok, hb, hown⟩
  have hso : SplitOK (newCf E base (boxW w s pa pcs.length pc tog broken d c m).heap.size tog broken d c m) noMem splitLines true := lines_ok _ rfl rfl rfl
  have HSO := Lib.hid hso
  have HT := Lib.hid (drain_start hok (by simp) (by simp) (P := EndsL (if broken then 5 else 0) s.data.toList) HR.out)
  have hbase : base ≤ w1.heap.size := hok.base_le
  have hfin : ∀ w2, Off own w1 w2 → Off pl w w2 := fun w2 ho => by
    have h1 := off_new hb hown ho
    exact ⟨h1.os.trans HBX.out.os, h1.tape.trans HBX.out.tape, h1.output.trans HBX.out.output, Nat.le_trans HBX.out.size h1.size, fun k hk hn => (h1.block k (Nat.lt_of_lt_of_le hk HBX.out.size) hn).trans (HBX.out.block k hk)⟩
  have hsz : w.heap.size ≤ w1.heap.size := Nat.le_trans HBX.out.size hb.size
  have HP := Lib.hid (fun v w2 j (own' : List Nat) (ho : Off own w1 w2) (hg : RowG w1.heap.size own' w2 4 v j (List.replicate j (.bool false))) (hj : j = n.toNat) => (show AfterPost n pl w (.returned v) w2 from
    ⟨v, rfl, by
      subst hj
      obtain ⟨h1, h2⟩ := hg.1
      refine ⟨h1, ?_⟩
      rcases h2 with h2 | ⟨g, cap, cur, e, h3, r⟩
      · exact .inl h2
      · exact .inr ⟨g, cap, cur, e, by omega, r⟩, hfin w2 ho⟩))
  clear hok hb hown HS HR hso hfin hsz HBX
  generalize hcf : newCf E base (boxW w s pa pcs.length pc tog broken d c m).heap.size tog broken d c m = cf at *
  have hcB : cf.B = w.heap.size + 6 := by rw [← hcf]; simp
  have hcb : cf.base = base := by rw [← hcf]
  have hcl : cf.lim = limitN d c m := by rw [← hcf]
  have hce : cf.endE = if broken then 5 else 0 := by rw [← hcf]
  have hlim : 0 < cf.lim := by rw [hcl]; exact HLim.out
  have HLim := Lib.hid hlim
  rw [← hcb] at hbase
  rw [← hce] at HT
  have HCB := Lib.hid hcB
  clear hcf hcB hcb hcl hce hlim
  generalize AfterPost n pl w = PP at *
  go_wp2_with fail
  go_loopg [12] s.size (fun k _ wr => DrainI cf noMem splitLines (EndsL cf.endE s.data.toList) own w1 k wr)
  case atStart => exact HT.out
  case round =>
    have hC := drain_scan HSO.out hrel
    rw [HCB.out] at hC
    have HC := Lib.hid hC
    clear hrel hC HT
    go_wp2_with fail
    refine HC.out.mono ?_
    rintro en w2 (⟨rfl, hd⟩ | ⟨k, rfl, rfl, hd⟩)
    · obtain ⟨x, tokv, ba2, L2, own2, ts, hok, hemp, ho, hf, ⟨-, hfin⟩⟩ := hd
      have hlt2 := hok.lt
      have hw2 : (w2.alloc (.cells #[] 4)).grownBy (w2.alloc (.cells #[] 4)) none := ⟨rfl, rfl, rfl, Nat.le_refl _, fun _ _ _ => rfl⟩
      have HEnd : EndedI cf own w1 n n (.slice (some ⟨w2.heap.size, 0, none⟩) 0 0) (w2.alloc (.cells #[] 4)) :=
        ⟨0, x, tokv, ba2, L2, own2, hok.grow HSO.out hw2 (fun k h => by cases h), hfin, ho.alloc _, hf, ⟨World.ownsRow_made _ _ _ ho.size (by decide) rfl, fun k hk hm => by
          have := (hlt2 k hm).2
          simp [Value.ownBlock] at hk
          omega⟩, by rcases Int.lt_or_le 0 n with h | h; exact .inr ⟨by omega, by simp⟩; exact .inl ⟨h, rfl, rfl⟩⟩
      have HE2 := Lib.hid HEnd
      clear hok hemp ho hf hfin hlt2 hw2 HEnd HC
      go_wp2_with fail
      go_loopw [2, 8] (fun i v wr => ∃ k : Int, i = .int .i64 k ∧ k ≤ 1000 ∧ EndedI cf own w1 n k v wr) (fun i _ _ => (intOf i).toNat)
      case atStart => exact ⟨n, rfl, hn, HE2.out⟩
      case round =>
        obtain ⟨k, rfl, hk, hE⟩ := hrel
        by_cases hk0 : 0 < k
        · have hC := ended_scan HSO.out HLim.out hE
          rw [HCB.out] at hC
          have HC := Lib.hid hC
          clear hE hC HE2
          go_wp2_with fail
          refine HC.out.mono ?_
          rintro en w3 ⟨rfl, j, x, tokv, ba3, L3, own3, hok, hfin, ho, hf, hg, hj⟩
          have hlt3 := hok.lt
          have hs3 := ho.size
          have hjn : j ≤ 1000 := by rcases hj with ⟨_, _, h⟩ | ⟨_, h⟩ <;> omega
          have HA := Lib.hid (fun (v' : Value) (w4 : World) (hrow : w4.ownsRow w1.heap.size 4 1 v' (j + 1) (List.replicate j (.bool false) ++ [.bool false])) (hgrow : (w3.alloc (.cells #[.bool false] 4)).grownBy w4 u8.ownBlock) (hat : v'.ownBlock = u8.ownBlock ∨ v'.ownBlock = some (w3.alloc (.cells #[.bool false] 4)).heap.size) =>
            (show EndedI cf own w1 n (k - 1) v' w4 from ⟨j + 1, x, tokv, ba3, L3, own3, hok.grow HSO.out hgrow (fun q hq => ⟨Nat.le_trans hbase (World.ownsRow.lt hg.1 q hq).1, hg.2 q hq⟩), hfin, ho.grow hgrow (fun q hq => (World.ownsRow.lt hg.1 q hq).1), hf,
              hg.push (fun q hq => (hlt3 q hq).2) (by rw [List.replicate_succ']; exact hrow) hat, by rcases hj with ⟨h1, h2, h3⟩ | ⟨h1, h2⟩; (exfalso; omega); exact .inr ⟨by omega, by push_cast; omega⟩⟩))
          have HR := Lib.hid hg.1
          have HB := Lib.hid (show w1.heap.size ≤ w3.heap.size by omega)
          clear hok hfin ho hf hg hj hlt3 hs3 HC
          go_wp2_with (first
            | (at_builtin; refine wpList_append_own_at _ rfl _ _ 37 rfl w1.heap.size 4 i0 (.bool false) 1 1 (by kernel_rfl) hi hz0 hz1 hz2 rfl (by decide) _ _ _ rfl (HR.out.alloc _) ⟨w3.heap.size, 0, none⟩ 1 1 [.bool false] rfl rfl ?c1 ?c2 ?c3 ?c4 ?c5 ?_)
            | go_in)
          case c1 => exact cell_one_new _ _ _
          case c2 => intro u hu; simp at hu; subst hu; rfl
          case c3 => unfold maxLen; omega
          case c4 => omega
          case c5 => have := HB.out; simp; omega
          · intro v' w4 hown' hgrow _ hat
            have HI := Lib.hid (HA.out v' w4 hown' hgrow (by simpa using hat))
            clear hown' hgrow hat HA HR HB
            go_wp2_with fail
            go_roundw
            case rel => exact ⟨k - 1, rfl, by omega, HI.out⟩
            case measure => simp [intOf]; omega
        · obtain ⟨j, x, tokv, ba3, L3, own3, hok, hfin, ho, hf, hg, hj⟩ := hE
          have HQ := Lib.hid (HP.out u8 wr j own3 ho hg (by rcases hj with ⟨h1, h2, h3⟩ | ⟨h1, h2⟩ <;> omega))
          clear hok hfin ho hf hg hj HE2 HP
          go_wp2_with fail
          exact HQ.out
    · have HD := Lib.hid hd
      clear hd HC
      go_wp2_with fail
      go_roundg k
      case rel => exact HD.out
      case measure => omega
end
end Go.Proofs.YtkghgjihaepnfaaDoor
