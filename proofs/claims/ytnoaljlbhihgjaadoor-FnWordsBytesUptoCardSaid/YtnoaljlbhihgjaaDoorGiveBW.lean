/-
  impl.WordsBytes: the tokens' bytes, gathered.
-/
import Derived.Test.YtnoaljlbhihgjaaDoorFromW
namespace Go.Proofs.YtnoaljlbhihgjaaDoor
set_option linter.unusedVariables false
set_option linter.unusedSimpArgs false
set_option maxRecDepth 20000
open Go.RowKit

theorem bytes_any (B : Nat) (w : World) (p : Addr) (n c : Nat) (hc : w.cell? ⟨B, 3, none⟩ = some (.slice (some p) n c)) :
    Calls Tryd.prog 40 #[.pointer (some ⟨B, 0, none⟩)] w fun e w' => e = .returned (.slice (some p) n c) ∧ w = w' := by
  go_enter Tryd.func40, Tryd.ntmps40
  go_wp2
  go_ret
  exact ⟨rfl, rfl⟩

section
variable {σ : Type} {cf : Cfg} {SI : σ → List Nat → World → Prop} {split : σ → List UInt8 → Bool → Ans σ} {ins : Bool} {x : Sm σ} {tokv : Value} {called : Bool} {ba : Option Addr} {L : Nat} {own : List Nat} {w : World}
/-- the gathering begins -/
theorem texts_start (hs : SplitOK cf SI split ins) (h : SOk cf SI x tokv called ba L own w) (hemp : x.emp ≤ 100) (hdc : x.done = true → called = true) {P : List (List UInt8) → Sm σ → Prop} {n : Nat} (hr : Runs split cf.lim cf.tog cf.endE P n x []) (hn : n * 16 ≤ 140737488355328) :
    TextsI cf SI split P own w n (.slice (some ⟨w.heap.size, 0, none⟩) 0 0) (w.alloc (.cells #[] 9)) := by
  have hbase := h.base_le
  have hlts := h.lt
  refine ⟨x, tokv, called, ba, L, own, [], ?_, hemp, hdc, (Off.refl _ _).alloc _, Fresh.refl _ _, ⟨World.ownsRow_made _ _ _ (Nat.le_refl _) (by decide) rfl, ?_⟩, hr, by simpa using hn⟩
  · exact h.frame hs ((Below.refl _ _).alloc hbase _) fun k hk => Below.heap_alloc _ _ _ (hlts k hk).2
  · intro k hk hm
    have := (hlts k hm).2
    simp [Value.ownBlock] at hk
    omega
end

section
variable {base : Nat} {w : World} {E : Nat → Addr} {s : ByteArray}
set_option maxHeartbeats 1000000 in
theorem implWordsBytes_any (hE : Env base w E) (hTb : TabsB base w) (hs : s.size ≤ 4194304) (hr : RoomyW 65536 s.data.toList) :
    Calls Tryd.prog 20 #[.string s] w (GivesL (words s.data.toList) w) := by
  obtain ⟨i0, hi, hz0, hz1, hz2⟩ := info_parts info_str
  have HS := Lib.hid (scanner_any (s := s) (pa := none) (pcs := []) (pc := 0) (tog := false) (c := 0) (m := 0) true false hE (PcsAt.none base w) (by omega) rfl)
  have HR := Lib.hid (words_all (lim := 65536) false 0 s hr)
  have HTb := Lib.hid (fun w' (hb : Below w.heap.size w w') => hTb.later hE.le hb)
  clear hE hr hTb
  go_enter Tryd.func20, Tryd.ntmps20
  go_wp2_with fail
  refine HS.out.mono ?_
  rintro e w1 ⟨ba, L, own, rfl, hok, hb, hown⟩
  have hbase : base ≤ w1.heap.size := hok.base_le
  have hlts := hok.lt
  have hso0 : SplitOK (newCf E base w.heap.size false false true 0 0) noMem splitLines true := lines_ok _ rfl rfl rfl
  have hokA := hok.frame hso0 ((Below.refl _ _).alloc hbase (.cells #[] 9)) (fun k hk => Below.heap_alloc _ _ _ (hlts k hk).2)
  obtain ⟨h9, hff, h1⟩ := hokA.forSplit
  have hok2 := hokA.splitW (HTb.out _ (hb.alloc hb.size _))
  have hso := words_ok { newCf E base w.heap.size false false true 0 0 with f := 38, first := #[], cap := #[] } rfl rfl rfl
  have HSO := Lib.hid hso
  have HSp := Lib.hid (split_any (w.heap.size + 4) (.func 38) #[] #[] _ h9 hff h1)
  have hGA : Gath w1.heap.size own (w1.alloc (.cells #[] 9)) (.slice (some ⟨w1.heap.size, 0, none⟩) 0 0) [] := ⟨World.ownsRow_made _ _ _ (Nat.le_refl _) (by decide) rfl, fun k hk hm => by
    have := (hlts k hm).2
    simp [Value.ownBlock] at hk
    omega⟩
  have hO1 := (Off.refl own (w1.alloc (.cells #[] 9))).setCell (p := ⟨w.heap.size + 4, 1, none⟩) hok.memB (.func (.func 38) #[] #[])
  have hT : TextsI { newCf E base w.heap.size false false true 0 0 with f := 38, first := #[], cap := #[] } (tabMem base) splitWords (EndsW 0 s.data.toList) own w1 s.size (.slice (some ⟨w1.heap.size, 0, none⟩) 0 0) ((w1.alloc (.cells #[] 9)).setCell ⟨w.heap.size + 4, 1, none⟩ (.func (.func 38) #[] #[])) :=
    ⟨_, _, _, _, _, own, [], hok2, by simp, by simp, ((Off.refl _ _).alloc _).trans hO1 (Fresh.refl _ _), Fresh.refl _ _, hGA.scan hO1 (Fresh.refl _ _), HR.out, by simp; omega⟩
  have HT := Lib.hid hT
  have HB := Lib.hid hb
  have HO := Lib.hid hown
  clear hok hb hown HS HR hso hT hO1 hGA hok2 h9 hff h1 hokA hso0 hlts HTb
  have HP : ∀ (v : Value) (x : Sm Unit) (own' : List Nat) (ts : List (List UInt8)) (w2 : World), EndsW 0 s.data.toList ts x → Off own w1 w2 → Gath w1.heap.size own' w2 v ts → GivesL (words s.data.toList) w (.returned v) w2 := by
    rintro v x own' ts w2 ⟨rfl, -⟩ ho hg
    exact ⟨v, rfl, hg.1.mono HB.out.size, off_nil (off_new HB.out HO.out ho)⟩
  have HP := Lib.hid HP
  clear HB HO
  generalize GivesL (words s.data.toList) w = PP at *
  generalize EndsW 0 s.data.toList = EE at *
  generalize hcf : ({ newCf E base w.heap.size false false true 0 0 with f := 38, first := #[], cap := #[] } : Cfg) = cf at *
  have hcB : cf.B = w.heap.size + 4 := by rw [← hcf]
  have hcb : cf.base = base := by rw [← hcf]
  rw [← hcb] at hbase HT
  clear hcf hcb
  have HCB := Lib.hid hcB
  clear hcB
  go_wp2_with fail
  refine HSp.out.mono ?_
  rintro e w2 ⟨rfl, rfl⟩
  clear HSp
  go_wp2_with fail
  go_loopg [4] s.size (fun m v wr => TextsI cf (tabMem cf.base) splitWords EE own w1 m v wr)
  case atStart => exact HT.out
  case round =>
    obtain ⟨x, tokv, called, ba, L, own1, ts, h, hemp, hdc, ho, hf, hga, hr, hcap⟩ := hrel
    have hC := scan_any HSO.out own1 h hemp hdc
    rw [HCB.out] at hC
    have HC := Lib.hid hC
    have HH := Lib.hid (And.intro hemp (And.intro ho (And.intro hf (And.intro hga (And.intro hr hcap)))))
    clear h hemp hdc ho hf hga hr hcap HT hC
    go_wp2_with fail
    refine HC.out.mono ?_
    rintro en w2 ⟨o, x', tokv', ba', L', own2, hscan, hok, ho1, hf1, hret, hpan⟩
    obtain ⟨hemp, ho, hf, hga, hr, hcap⟩ := HH.out
    clear HC HH hpan
    rcases hr.step hscan with ⟨rfl, hP⟩ | ⟨t, m, rfl, rfl, hr'⟩
    · obtain ⟨rfl, -, -⟩ := hret _ rfl
      have HQ := Lib.hid (HP.out _ _ own2 ts w2 hP (ho.trans ho1 hf) (hga.scan ho1 hf1))
      clear hret hscan hok ho1 hf1 hr hcap hga ho hf hemp hP hbase HP
      go_wp2_with fail
      exact HQ.out
    · obtain ⟨rfl, ⟨p, c', rfl, hc1, hc2, hby, -, -⟩, -⟩ := hret _ rfl
      have hga1 := hga.scan ho1 hf1
      have hcell := hok.tok
      rw [HCB.out] at hcell
      have HT := Lib.hid (bytes_any _ w2 p t.length c' hcell)
      have HV := Lib.hid (conv_text w2 p c' t hby)
      have hlt2 := hok.lt
      have hsz := ho.size
      have hsz1 := ho1.size
      have HA := Lib.hid (fun (v' : Value) (w3 : World) (hrow : w3.ownsRow w1.heap.size 9 1 v' (ts.length + 1) (ts.map sv ++ [sv t])) (hgrow : (w2.alloc (.cells #[sv t] 9)).grownBy w3 u4.ownBlock) (hat : v'.ownBlock = u4.ownBlock ∨ v'.ownBlock = some (w2.alloc (.cells #[sv t] 9)).heap.size) =>
        (show TextsI cf (tabMem cf.base) splitWords EE own w1 m v' w3 from ⟨x', _, true, ba', L', own2, ts ++ [t], hok.push HSO.out hbase hga1 hgrow, scan_emp hscan hemp, fun _ => rfl, (ho.trans ho1 hf).push hga1 hgrow, hf.trans hf1 hsz, hga1.push (fun k hk => (hlt2 k hk).2) hrow rfl hat, hr', by simp; omega⟩))
      have HR := Lib.hid hga1.1
      have HB := Lib.hid (show w1.heap.size ≤ w2.heap.size by omega)
      have HN := Lib.hid (show ts.length + 1 ≤ 8796093022208 by omega)
      clear hret hscan hok ho1 hf1 hr hr' hcap hga hga1 ho hf hemp hbase hlt2 hsz hsz1 hby hc1 hc2 hcell HP
      go_wp2_with fail
      refine HT.out.mono ?_
      rintro e w3 ⟨rfl, rfl⟩
      go_wp2_with fail
      rw [HV.out]
      simp only [Result.andThen]
      rw [Oper.upon_value]
      go_wp2_with (first
        | (at_builtin; refine wpList_append_own_at _ rfl _ _ 36 rfl w1.heap.size 9 i0 (.string ⟨#[]⟩) 1 16 (by kernel_rfl) hi hz0 hz1 hz2 rfl (by decide) _ _ _ rfl (HR.out.alloc _) ⟨w2.heap.size, 0, none⟩ 1 1 [sv t] rfl rfl ?c1 ?c2 ?c3 ?c4 ?c5 ?_)
        | go_in)
      case c1 => exact cell_one_new _ _ _
      case c2 => intro u hu; simp at hu; subst hu; rfl
      case c3 => have := HN.out; unfold maxLen; omega
      case c4 => have := HN.out; omega
      case c5 => have := HB.out; simp; omega
      · intro v' w3 hown' hgrow _ hat
        have HI := Lib.hid (HA.out v' w3 hown' hgrow (by simpa using hat))
        clear hown' hgrow hat
        go_wp2_with fail
        go_roundg m
        case rel => exact HI.out
        case measure => omega
end
end Go.Proofs.YtnoaljlbhihgjaaDoor
