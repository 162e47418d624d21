/-
  impl.LinesBut: behind some calls of Scan, the lines that are left.
-/
import Derived.Test.YtkafojdjadnfaaaDoorGive
namespace Go.Proofs.YtkafojdjadnfaaaDoor
set_option linter.unusedVariables false
set_option linter.unusedSimpArgs false
set_option maxRecDepth 20000
open Go.RowKit

/-- what is left of a text behind j lines -/
def leftB : Nat → List UInt8 → List UInt8
  | 0, t => t
  | j + 1, t => behind (leftB j t)
theorem behind_nil : behind [] = [] := rfl
theorem tokens_leftB (j : Nat) (t : List UInt8) : tokens (leftB j t) = (tokens t).drop j := by
  induction j with
  | zero => rfl
  | succ j ih =>
    show tokens (behind (leftB j t)) = _
    rw [← List.drop_drop, ← ih]
    by_cases h : leftB j t = []
    · rw [h, behind_nil, tokens_nil]; rfl
    · rw [tokens_cons h]; rfl
theorem roomy_leftB {lim : Nat} {t : List UInt8} (h : Roomy lim t) : ∀ j, Roomy lim (leftB j t)
  | 0 => h
  | j + 1 => (roomy_leftB h j).behind

/-- one call of Scan on lines -/
theorem scan_leftB {lim : Nat} {tog : Bool} {endE : Nat} {t : List UInt8} {j : Nat} {x x' : Sm Unit} {o : Out} (hlim : 0 < lim) (hr : Roomy lim t) (hx : Fine endE x) (he : x.pend ++ x.rest = leftB j t) (hs : Sm.Scan splitLines lim tog endE x o x') :
    (∃ o', o = some o') ∧ Fine endE x' ∧ x'.pend ++ x'.rest = leftB (j + 1) t := by
  rcases hs with ⟨h, _⟩ | ⟨_, k, hs⟩
  · rw [hx.1] at h; cases h
  · obtain ⟨h1, h2, h3⟩ := scan_lines lim tog endE k x o x' hs hx (fun h => by rw [he] at h ⊢; exact (roomy_leftB hr j).fits h) hlim
    by_cases h0 : x.pend ++ x.rest = []
    · obtain ⟨rfl, h4, h5, _⟩ := h2 h0
      refine ⟨⟨_, rfl⟩, h1, ?_⟩
      rw [h4, h5]
      show [] = behind (leftB j t)
      rw [← he, h0]; rfl
    · obtain ⟨rfl, h5⟩ := h3 h0
      exact ⟨⟨_, rfl⟩, h1, by rw [h5, he]; rfl⟩

/-- the scanner while the calls go on -/
def ButI (cf : Cfg) (t : List UInt8) (own0 : List Nat) (w0 : World) (n0 m : Int) (w : World) : Prop :=
  ∃ (j : Nat) (x : Sm Unit) (tokv : Value) (called : Bool) (ba : Option Addr) (L : Nat) (own : List Nat), SOk cf noMem x tokv called ba L own w ∧ Fine cf.endE x ∧ x.pend ++ x.rest = leftB j t ∧ Off own0 w0 w ∧ Fresh own0 own w0 ∧ ((n0 ≤ 0 ∧ m = n0 ∧ j = 0) ∨ (0 ≤ m ∧ m + j = n0))

section
variable {base : Nat} {w : World} {E : Nat → Addr} {s : ByteArray}
set_option maxHeartbeats 1000000 in
theorem implLinesBut_any (n : Int) (hE : Env base w E) (hs : s.size ≤ 4194304) (hr : Roomy 65536 s.data.toList) (hn : n ≤ 100000) (hn0 : -9223372036854775808 ≤ n) :
    Calls Tryd.prog 18 #[.string s, .int .i64 n] w (GivesL ((tokens s.data.toList).drop n.toNat) w) := by
  have HS := Lib.hid (scanner_any (s := s) (pa := none) (pcs := []) (pc := 0) (tog := false) (c := 0) (m := 0) true false hE (PcsAt.none base w) (by omega) rfl)
  have HR := Lib.hid hr
  clear hE hr
  go_enter Tryd.func18, Tryd.ntmps18
  go_wp2_with fail
  refine HS.out.mono ?_
  rintro e w1 ⟨ba, L, own, rfl, hok, hb, hown⟩
  have hso : SplitOK (newCf E base w.heap.size false false true 0 0) noMem splitLines true := lines_ok _ rfl rfl rfl
  have HSO := Lib.hid hso
  have HT := Lib.hid (show ButI (newCf E base w.heap.size false false true 0 0) s.data.toList own w1 n n w1 from ⟨0, _, _, _, _, _, _, hok, ⟨rfl, rfl, .inl rfl⟩, rfl, Off.refl _ _, Fresh.refl _ _, by rcases Int.lt_or_le 0 n with h | h; exact .inr ⟨by omega, by simp⟩; exact .inl ⟨h, rfl, rfl⟩⟩)
  have HB := Lib.hid hb
  have HO := Lib.hid hown
  clear hok hb hown HS hso
  have HP : ∀ (v : Value) (x : Sm Unit) (own' : List Nat) (j : Nat) (w2 w3 : World), Off own w1 w2 → Fresh own own' w1 → Off own' w2 w3 → (j : Int) = max n 0 → StrsAt w2.heap.size w3 v (tokens (leftB j s.data.toList)) → GivesL ((tokens s.data.toList).drop n.toNat) w (.returned v) w3 := by
    intro v x own' j w2 w3 ho hf ho3 hj hg
    have hj' : j = n.toNat := by omega
    subst hj'
    rw [tokens_leftB] at hg
    exact ⟨v, rfl, hg.mono (Nat.le_trans HB.out.size ho.size), off_nil (off_new HB.out HO.out (ho.trans ho3 hf))⟩
  have HP := Lib.hid HP
  clear HB HO
  generalize GivesL ((tokens s.data.toList).drop n.toNat) w = PP at *
  generalize hcf : newCf E base w.heap.size false false true 0 0 = cf at *
  have hcB : cf.B = w.heap.size + 4 := by rw [← hcf]
  have hcl : cf.lim = 65536 := by rw [← hcf]; rfl
  have HCB := Lib.hid hcB
  have HCl := Lib.hid hcl
  clear hcf hcB hcl
  go_wp2_with fail
  go_loopw [1] (fun i wr => ∃ k : Int, i = .int .i64 k ∧ k ≤ 100000 ∧ ButI cf s.data.toList own w1 n k wr) (fun i _ => (intOf i).toNat)
  case atStart => exact ⟨n, rfl, hn, HT.out⟩
  case round =>
    obtain ⟨k, rfl, hk, j, x, tokv, called, ba, L, own1, h, hfine, hleft, ho, hf, hj⟩ := hrel
    by_cases hk0 : 0 < k
    · have hC := scan_any HSO.out own1 h (by rw [hfine.2.1]; exact Nat.zero_le _) (by rw [hfine.1]; simp)
      rw [HCB.out] at hC
      have HC := Lib.hid hC
      have HH := Lib.hid (And.intro hfine (And.intro hleft (And.intro ho (And.intro hf hj))))
      clear h hfine hleft ho hf hj HT hC
      go_wp2_with fail
      refine HC.out.mono ?_
      rintro en w2 ⟨o, x', tokv', ba', L', own2, hscan, hok, ho1, hf1, hret, hpan⟩
      obtain ⟨hfine, hleft, ho, hf, hj⟩ := HH.out
      obtain ⟨⟨o', rfl⟩, hfine', hleft'⟩ := scan_leftB (by rw [HCl.out]; omega) (by rw [HCl.out]; exact HR.out) hfine hleft hscan
      obtain ⟨rfl, -, -⟩ := hret _ rfl
      have HI := Lib.hid (show ButI cf s.data.toList own w1 n (k - 1) w2 from ⟨j + 1, x', tokv', true, ba', L', own2, hok, hfine', hleft', ho.trans ho1 hf, hf.trans hf1 ho.size, by rcases hj with ⟨h1, h2, h3⟩ | ⟨h1, h2⟩; (exfalso; omega); exact .inr ⟨by omega, by push_cast; omega⟩⟩)
      clear hscan hok ho1 hf1 hret hpan hfine hleft ho hf hj hfine' hleft' HC HH
      go_wp2_with fail
      go_roundw
      case rel => exact ⟨k - 1, rfl, by omega, HI.out⟩
      case measure => simp [intOf]; omega
    · have hruns := lines_runs cf.lim cf.tog cf.endE (by rw [HCl.out]; omega) (x.pend ++ x.rest).length x [] (Nat.le_refl _) hfine (by rw [hleft, HCl.out]; exact roomy_leftB HR.out j)
      have hlen : (x.pend ++ x.rest).length ≤ 4194304 := by
        rw [hleft]
        have h1 : ∀ j, (leftB j s.data.toList).length ≤ s.data.toList.length := by
          intro j
          induction j with
          | zero => exact Nat.le_refl _
          | succ j ih =>
            show (behind (leftB j s.data.toList)).length ≤ _
            by_cases h : leftB j s.data.toList = []
            · rw [h, behind_nil]; simp
            · have := behind_lt h; omega
        have h2 := h1 j
        have h3 : s.data.toList.length = s.size := by simp
        omega
      have hT := texts_any HSO.out own1 h (by rw [hfine.2.1]; exact Nat.zero_le _) (by rw [hfine.1]; simp) _ _ hruns (by omega)
      rw [HCB.out] at hT
      have HTx := Lib.hid hT
      have hjj : (j : Int) = max n 0 := by rcases hj with ⟨h1, h2, h3⟩ | ⟨h1, h2⟩ <;> omega
      have HQ := Lib.hid (fun v w3 (ho3 : Off own1 wr w3) (hg : StrsAt wr.heap.size w3 v (tokens (leftB j s.data.toList))) => HP.out v x own1 j wr w3 ho hf ho3 hjj hg)
      have HLf := Lib.hid hleft
      clear h hfine hleft ho hf hj HT hruns hlen hT hjj HP
      go_wp2_with fail
      refine HTx.out.mono ?_
      rintro e w3 ⟨v, x', tokv', ba', L', own', ts, rfl, ⟨hts, -⟩, -, ho3, -, hg⟩
      rw [List.nil_append, HLf.out] at hts
      subst hts
      have HF := Lib.hid (HQ.out v w3 ho3 hg.1)
      clear ho3 hg HTx HQ
      go_wp2_with fail
      exact HF.out
end
end Go.Proofs.YtkafojdjadnfaaaDoor
