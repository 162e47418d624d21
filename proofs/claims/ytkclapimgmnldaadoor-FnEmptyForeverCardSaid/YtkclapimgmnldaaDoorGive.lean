/-
  What a scanner of lines gives in all; impl.Lines.
-/
import Derived.Test.YtkclapimgmnldaaDoorRun
import Derived.Test.YtkclapimgmnldaaDoorHelp
namespace Go.Proofs.YtkclapimgmnldaaDoor
set_option linter.unusedVariables false
set_option linter.unusedSimpArgs false
set_option maxRecDepth 20000
open Go.RowKit

theorem StrsAt.mono {b b' : Nat} {w : World} {v : Value} {xs : List (List UInt8)} (h : StrsAt b w v xs) (hb : b' ≤ b) : StrsAt b' w v xs := by
  obtain ⟨h1, h2⟩ := h
  refine ⟨h1, ?_⟩
  rcases h2 with h2 | ⟨g, cap, cur, e, h3, r⟩
  · exact .inl h2
  · exact .inr ⟨g, cap, cur, e, by omega, r⟩

/-- a call that answers with a list of texts in new memory -/
def GivesL (xs : List (List UInt8)) (w : World) (e : Ending) (w' : World) : Prop := ∃ v, e = .returned v ∧ StrsAt w.heap.size w' v xs ∧ Below w.heap.size w w'

/-- only the pieces and new blocks -/
theorem off_new {pl own : List Nat} {w w1 w2 : World} (hb : Below w.heap.size w w1) (hown : ∀ k, k ∈ own → k ∈ pl ∨ w.heap.size ≤ k) (ho : Off own w1 w2) : Off pl w w2 :=
  ⟨ho.os.trans hb.os, ho.tape.trans hb.tape, ho.output.trans hb.output, Nat.le_trans hb.size ho.size, fun k hk hn => by
    rw [ho.block k (Nat.lt_of_lt_of_le hk hb.size) (fun hm => by rcases hown k hm with h | h; exact hn h; omega)]
    exact hb.block k hk⟩
theorem off_nil {w w' : World} (h : Off [] w w') : Below w.heap.size w w' := ⟨h.os, h.tape, h.output, h.size, fun k hk => h.block k hk (by simp)⟩

/-- what all runs of a scanner of lines come to -/
def EndsL (endE : Nat) (t : List UInt8) (ts : List (List UInt8)) (x : Sm Unit) : Prop := ts = tokens t ∧ Fine endE x ∧ x.pend = [] ∧ x.rest = [] ∧ x.err = some endE
theorem lines_all {lim : Nat} (tog : Bool) (endE : Nat) (s : ByteArray) (hlim : 0 < lim) (hr : Roomy lim s.data.toList) : Runs splitLines lim tog endE (EndsL endE s.data.toList) s.size (newSm s) [] := by
  have := lines_runs lim tog endE hlim s.size (newSm s) [] (by simp) ⟨rfl, rfl, .inl rfl⟩ (by simpa using hr)
  have e : (newSm s).pend ++ (newSm s).rest = s.data.toList := rfl
  rw [e] at this
  exact this

section
variable {base : Nat} {w : World} {E : Nat → Addr} {s : ByteArray}
set_option maxHeartbeats 400000 in
theorem implLines_any (hE : Env base w E) (hs : s.size ≤ 4194304) (hr : Roomy 65536 s.data.toList) :
    Calls Tryd.prog 24 #[.string s] w (GivesL (tokens s.data.toList) w) := by
  have HS := Lib.hid (scanner_any (s := s) (pa := none) (pcs := []) (pc := 0) (tog := false) (c := 0) (m := 0) true false hE (PcsAt.none base w) (by omega) rfl)
  have HR := Lib.hid (lines_all (lim := 65536) false 0 s (by omega) hr)
  clear hE hr
  go_enter Tryd.func24, Tryd.ntmps24
  go_wp2_with fail
  refine HS.out.mono ?_
  rintro e w1 ⟨ba, L, own, rfl, hok, hb, hown⟩
  have HT := Lib.hid (texts_any (lines_ok _ rfl rfl rfl) own hok (by simp) (by simp) (EndsL 0 s.data.toList) s.size HR.out (by omega))
  have HB := Lib.hid hb
  have HO := Lib.hid hown
  clear hok hb hown HS HR
  go_wp2_with fail
  refine HT.out.mono ?_
  rintro e w2 ⟨v, x, tokv, ba', L', own', ts, rfl, ⟨rfl, -⟩, -, ho, -, hg⟩
  have HP : GivesL (tokens s.data.toList) w (.returned v) w2 := ⟨v, rfl, hg.1.mono HB.out.size, off_nil (off_new HB.out HO.out ho)⟩
  have HP := Lib.hid HP
  clear ho hg HT HB HO
  generalize GivesL (tokens s.data.toList) w = PP at *
  go_wp2_with fail
  exact HP.out
end
end Go.Proofs.YtkclapimgmnldaaDoor
