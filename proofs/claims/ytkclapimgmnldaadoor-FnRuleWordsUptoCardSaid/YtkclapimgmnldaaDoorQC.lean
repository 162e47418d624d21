/-
  All calls of Scan of a scanner by a rule: the tokens of the whole text, the error, the calls. No program in sight but for the definition of a run.
-/
import Derived.Test.YtkclapimgmnldaaDoorQT
import Derived.Test.YtkclapimgmnldaaDoorQQ
import Derived.Test.YtkclapimgmnldaaDoorQHelp
import Derived.Maps.AppendAt
import Derived.Test.YtkclapimgmnldaaDoorQP
import Derived.Deep.DeepCutAuto
namespace Go.Proofs.YtkclapimgmnldaaDoor
set_option linter.unusedVariables false
set_option linter.unusedSimpArgs false
set_option maxRecDepth 20000

/-- what a run by a rule comes to -/
def REndC (u : Rl) (endE : Nat) (all : List (List UInt8) × Bool) (text : List UInt8) (ts : List (List UInt8)) (x : Sm RS) : Prop := REnd endE all ts x ∧ TrackR u text x.sp ∧ x.sp ≠ []

section
variable {u : Rl} {lim endE : Nat} {all : List (List UInt8) × Bool} {tog : Bool} {text : List UInt8}
theorem done_runs {P : List (List UInt8) → Sm RS → Prop} : ∀ (n : Nat) (x : Sm RS) (ts : List (List UInt8)), x.done = true → P ts x → Runs (splitRule u) lim tog endE P n x ts := by
  intro n x ts hd hP
  cases n with
  | zero =>
    intro o x' hs
    obtain ⟨h1, h2⟩ := done_scan hd hs
    exact ⟨h1, by rw [h2]; exact hP⟩
  | succ n =>
    intro o x' hs
    obtain ⟨h1, h2⟩ := done_scan hd hs
    exact .inl ⟨h1, by rw [h2]; exact hP⟩
theorem rule_runs (hl : 0 < lim) : ∀ (n : Nat) (x : Sm RS) (ts : List (List UInt8)), RGo u lim endE all x ts → RTr u endE text x → (x.pend ++ x.rest).length ≤ n → Runs (splitRule u) lim tog endE (REndC u endE all text) (n + 1) x ts := by
  intro n
  induction n with
  | zero =>
    intro x ts hg ht hn o x' hs
    have h2 := rtr_scan hl ht hg.live hs
    rcases rgo_scan hl hg hs with ⟨t, h1, h3, h4⟩ | ⟨t, h1, h3, h4⟩ | ⟨h1, h4⟩
    · omega
    · exact .inr ⟨t, h1, done_runs 0 x' _ h3 ⟨h4, h2.1, h2.2.1⟩⟩
    · exact .inl ⟨h1, h4, h2.1, h2.2.1⟩
  | succ n ih =>
    intro x ts hg ht hn o x' hs
    have h2 := rtr_scan hl ht hg.live hs
    rcases rgo_scan hl hg hs with ⟨t, h1, h3, h4⟩ | ⟨t, h1, h3, h4⟩ | ⟨h1, h4⟩
    · refine .inr ⟨t, h1, ih x' _ h3 ?_ (by omega)⟩
      rcases h2.2.2 t h1 with h5 | h5
      · rw [h3.live] at h5; cases h5
      · exact h5
    · exact .inr ⟨t, h1, done_runs _ x' _ h3 ⟨h4, h2.1, h2.2.1⟩⟩
    · exact .inl ⟨h1, h4, h2.1, h2.2.1⟩
/-- .. of a new scanner -/
theorem rule_all (hl : 0 < lim) (text : List UInt8) (hf : fitsR u lim [] text) : Runs (splitRule u) lim tog endE (REndC u endE (toksR u [] text) text) (text.length + 1) ⟨[], text, none, 0, false, []⟩ [] := by
  refine rule_runs hl text.length _ [] ⟨by simp, by simpa using hf, .inl rfl, rfl⟩ ⟨fun more h => by simpa using h, .inl rfl⟩ (by simp)
end

/- the most bytes that one step had to see, and room enough -/
def moR (u : Rl) : Nat → Nat → List UInt8 → Nat
  | f, i, [] => if i = 0 then 0 else i + 1
  | f, i, b :: r =>
    if (b.toNat : Int) = u.fail then i + 1
    else if (b.toNat : Int) = u.stop then i + 1
    else if u.brk b = false then moR u f (i + 1) r
    else if i = f ∧ u.skip = true then moR u (i + 1) (i + 1) r
    else max (i + 2) (moR u 0 0 r)
theorem moR_fits {u : Rl} {lim : Nat} (hl : 0 < lim) : ∀ (l cur : List UInt8) (f i : Nat), f ≤ i → cur.length = i - f → moR u f i l < lim → fitsR u lim cur l := by
  intro l
  induction l with
  | nil =>
    intro cur f i hfi hc h
    simp only [moR, fitsR] at h ⊢
    split at h <;> omega
  | cons b r ih =>
    intro cur f i hfi hc h
    simp only [moR, fitsR] at h ⊢
    split
    · rename_i h1
      rw [if_pos h1] at h
      omega
    · rename_i h1
      rw [if_neg h1] at h
      split
      · rename_i h2
        rw [if_pos h2] at h
        omega
      · rename_i h2
        rw [if_neg h2] at h
        split
        · rename_i h3
          rw [if_pos h3] at h
          exact ih _ f (i + 1) (by omega) (by simp; omega) h
        · rename_i h3
          rw [if_neg h3] at h
          have hci : cur = [] ↔ i = f := by
            constructor
            · intro e; rw [e] at hc; simp at hc; omega
            · intro e; exact List.length_eq_zero_iff.1 (by omega)
          by_cases h4 : cur = [] ∧ u.skip = true
          · rw [if_pos h4]
            rw [if_pos ⟨hci.1 h4.1, h4.2⟩] at h
            exact ih [] (i + 1) (i + 1) (Nat.le_refl _) (by simp) h
          · rw [if_neg h4]
            rw [if_neg (fun h5 => h4 ⟨hci.2 h5.1, h5.2⟩)] at h
            exact ⟨by omega, ih [] 0 0 (Nat.le_refl _) (by simp) (by omega)⟩
theorem rEv_len {u : Rl} : ∀ (l cur : List UInt8), match rEv u cur l with
    | .fail r => r.length ≤ l.length | .stop _ r => r.length ≤ l.length | .tok _ r => r.length ≤ l.length | .over _ => True := by
  intro l
  induction l with
  | nil => intro cur; simp [rEv]
  | cons b r ih =>
    intro cur
    have hs : ∀ cur', (match rEv u cur' r with
        | .fail r' => r'.length ≤ (b :: r).length | .stop _ r' => r'.length ≤ (b :: r).length | .tok _ r' => r'.length ≤ (b :: r).length | .over _ => True) := by
      intro cur'
      have := ih cur'
      cases hev : rEv u cur' r with
      | fail r' => rw [hev] at this; simp only at this ⊢; simp; omega
      | stop c r' => rw [hev] at this; simp only at this ⊢; simp; omega
      | tok t r' => rw [hev] at this; simp only at this ⊢; simp; omega
      | over c => trivial
    by_cases h1 : (b.toNat : Int) = u.fail
    · rw [rEv_fail h1]; exact Nat.le_refl _
    · by_cases h2 : (b.toNat : Int) = u.stop
      · rw [rEv_stop h1 h2]; exact Nat.le_refl _
      · by_cases h3 : u.brk b = false
        · rw [rEv_more h1 h2 h3]; exact hs _
        · by_cases h4 : cur = [] ∧ u.skip = true
          · obtain ⟨rfl, h5⟩ := h4
            rw [rEv_skip h1 h2 h3 h5]; exact hs _
          · cases hk : u.keep with
            | true => rw [rEv_keep h1 h2 h3 h4 hk]; simp
            | false => rw [rEv_cut h1 h2 h3 h4 hk]; simp
/-- the same, by what happens first -/
theorem moR_ev {u : Rl} : ∀ (l cur : List UInt8) (f i : Nat), f ≤ i → cur.length = i - f → moR u f i l = match rEv u cur l with
    | .fail r => i + (l.length - r.length) + 1 | .stop _ r => i + (l.length - r.length) + 1 | .tok _ r => max (i + (l.length - r.length) + 1) (moR u 0 0 r) | .over _ => if i + l.length = 0 then 0 else i + l.length + 1 := by
  intro l
  induction l with
  | nil =>
    intro cur f i hfi hc
    simp only [moR, rEv, List.length_nil, Nat.add_zero]
  | cons b r ih =>
    intro cur f i hfi hc
    have hci : cur = [] ↔ i = f := by
      constructor
      · intro e; rw [e] at hc; simp at hc; omega
      · intro e; exact List.length_eq_zero_iff.1 (by omega)
    have hstep : ∀ cur' f', f' ≤ i + 1 → cur'.length = i + 1 - f' → (moR u f' (i + 1) r = match rEv u cur' r with
        | .fail r' => i + ((b :: r).length - r'.length) + 1 | .stop _ r' => i + ((b :: r).length - r'.length) + 1 | .tok _ r' => max (i + ((b :: r).length - r'.length) + 1) (moR u 0 0 r') | .over _ => if i + (b :: r).length = 0 then 0 else i + (b :: r).length + 1) := by
      intro cur' f' h1 h2
      rw [ih cur' f' (i + 1) h1 h2]
      have hlen := rEv_len (u := u) r cur'
      cases hev : rEv u cur' r with
      | fail r' => rw [hev] at hlen; simp only at hlen ⊢; simp; omega
      | stop c r' => rw [hev] at hlen; simp only at hlen ⊢; simp; omega
      | tok t r' =>
        rw [hev] at hlen
        simp only at hlen ⊢
        have : i + 1 + (r.length - r'.length) + 1 = i + ((b :: r).length - r'.length) + 1 := by simp; omega
        rw [this]
      | over c => simp only; simp; omega
    by_cases h1 : (b.toNat : Int) = u.fail
    · rw [rEv_fail h1]
      simp only [moR]
      rw [if_pos h1]
      simp
    · by_cases h2 : (b.toNat : Int) = u.stop
      · rw [rEv_stop h1 h2]
        simp only [moR]
        rw [if_neg h1, if_pos h2]
        simp
      · by_cases h3 : u.brk b = false
        · rw [rEv_more h1 h2 h3]
          simp only [moR]
          rw [if_neg h1, if_neg h2, if_pos h3]
          exact hstep _ f (by omega) (by simp; omega)
        · by_cases h4 : i = f ∧ u.skip = true
          · obtain rfl := hci.2 h4.1
            rw [rEv_skip h1 h2 h3 h4.2]
            simp only [moR]
            rw [if_neg h1, if_neg h2, if_neg h3, if_pos h4]
            exact hstep [] (i + 1) (Nat.le_refl _) (by simp)
          · have h4' : ¬ (cur = [] ∧ u.skip = true) := fun h5 => h4 ⟨hci.1 h5.1, h5.2⟩
            have hmo : moR u f i (b :: r) = max (i + 2) (moR u 0 0 r) := by
              simp only [moR]
              rw [if_neg h1, if_neg h2, if_neg h3, if_neg h4]
            have hl : i + ((b :: r).length - r.length) + 1 = i + 2 := by simp
            cases hk : u.keep with
            | true => rw [rEv_keep h1 h2 h3 h4' hk, hmo]; simp only; rw [hl]
            | false => rw [rEv_cut h1 h2 h3 h4' hk, hmo]; simp only; rw [hl]
end Go.Proofs.YtkclapimgmnldaaDoor

/-
  append of a list of texts onto a list of the call's own, guarded or not, the source nil or not.
-/
namespace Go.Proofs.YtkclapimgmnldaaDoor
set_option linter.unusedVariables false
set_option linter.unusedSimpArgs false
set_option maxRecDepth 20000
open Go.RowKit

/-- a guarded operation whose guard is met -/
theorem wpList_met {P : Program} {ops : Array Oper} {rest : List Oper} {o : Oper} {a : Act} {w : World} {Q : Exit → Act → World → Prop} (hw : Region.wanted o (yielded ops a.tmps) = true)
    (h : o.wp P a w (wpList P ops Q rest) Q) : wpList P ops Q (o :: rest) a w := by
  unfold wpList
  rw [if_pos hw]
  exact .inl h

theorem run_append_strs {w : World} (ty : TypeId) {base : Nat} {v u : Value} {xs ys : List (List UInt8)} (hown : StrsAt base w v xs) (hr : Strs w u ys) (hn : (xs.length + ys.length) * 16 ≤ 140737488355328) (hbase : base ≤ w.heap.size) :
    ∃ v' w', (Builtin.append_ #[30, 30] ty #[v, u]).run Tryd.prog w = .ok v' w' ∧ StrsAt base w' v' (xs ++ ys) ∧ w.grownBy w' v.ownBlock ∧ (v'.ownBlock = v.ownBlock ∨ v'.ownBlock = some w.heap.size) := by
  obtain ⟨i0, hi, hz0, hz1, hz2⟩ := info_parts info_str
  obtain ⟨ad, c, rfl, h1, h2, h3⟩ := hr
  cases ad with
  | none =>
    have hy : ys = [] := by
      cases ys with
      | nil => rfl
      | cons y r => obtain ⟨b, o, e, _⟩ := h3 0 y rfl; cases e
    subst hy
    refine ⟨v, w, ?_, by simpa using hown, ⟨rfl, rfl, rfl, Nat.le_refl _, fun _ _ _ => rfl⟩, .inl rfl⟩
    rcases hown.2 with ⟨rfl, _⟩ | ⟨g, cap, cur, rfl, _, _, hnc, _⟩
    · simp [Builtin.append_, run_underlying Tryd.underlying30, sizeOf, typeInfo, hi, Builtin.lenOf, Builtin.firstCells]
    · simp [Builtin.append_, run_underlying Tryd.underlying30, sizeOf, typeInfo, hi, Builtin.lenOf, Builtin.firstCells, hnc, storeCells]
  | some ad =>
    have hcells : ∀ j u, (ys.map sv)[j]? = some u → w.cell? (ad.add j) = some u := by
      intro j u hj
      simp only [List.getElem?_map, Option.map_eq_some_iff] at hj
      obtain ⟨y, hy, rfl⟩ := hj
      obtain ⟨b, o, e, hc⟩ := h3 j y hy
      obtain rfl := Option.some.inj e
      have hplain : (⟨b, o, none⟩ : Addr).add j = ⟨b, o + j, none⟩ := by unfold Addr.add; split <;> simp_all
      rw [hplain]
      exact hc
    obtain ⟨v', w', hrun, h4, h5, _, h7⟩ := run_append_own_at (P := Tryd.prog) w base 30 ty 9 i0 (.string ⟨#[]⟩) 1 16 Tryd.underlying30 hi hz0 hz1 hz2 rfl (by decide) v xs.length (xs.map sv) hown ad ys.length c (ys.map sv) (by simp) hcells
      (fun u hu => by obtain ⟨y, _, rfl⟩ := List.mem_map.1 hu; rfl) (by unfold maxLen; omega) hn hbase
    refine ⟨v', w', hrun, ?_, h5, h7⟩
    unfold StrsAt
    simpa using h4

theorem wpList_append_strs {w : World} {ops : Array Oper} {rest : List Oper} {o : Oper} {a : Act} {Q : Exit → Act → World → Prop} (hw : Region.wanted o (yielded ops a.tmps) = true) (s x : Operand)
    (ho : o.op = .call { callee := .builtin .append, args := #[s, x], argTypes := #[30, 30] }) (base : Nat) (v u : Value) (xs ys : List (List UInt8)) (hs : a.eval s = v) (hx : a.eval x = u)
    (hown : StrsAt base w v xs) (hr : Strs w u ys) (hn : (xs.length + ys.length) * 16 ≤ 140737488355328) (hbase : base ≤ w.heap.size)
    (h : ∀ v' w', StrsAt base w' v' (xs ++ ys) → w.grownBy w' v.ownBlock → (v'.ownBlock = v.ownBlock ∨ v'.ownBlock = some w.heap.size) → wpList Tryd.prog ops Q rest (a.put o.dst v') w') : wpList Tryd.prog ops Q (o :: rest) a w := by
  refine wpList_met hw ?_
  obtain ⟨v', w', hrun, h2, h3, h4⟩ := run_append_strs o.type hown hr hn hbase
  unfold Oper.wp execOp
  simp only [ho, resolve, invoke, builtin, Sem.run_bind, Sem.run_pure, Result.andThen_ok, List.map_toArray, List.map_cons, List.map_nil, hs, hx, hrun]
  exact h v' w' h2 h3 h4

/-- behind such an append -/
theorem grown_below {base : Nat} {w w1 : World} {v : Value} {xs : List (List UInt8)} (h : StrsAt base w v xs) (hb : base ≤ w.heap.size) (hg : w.grownBy w1 v.ownBlock) : Below base w w1 :=
  (Below.refl _ _).grown hg hb fun k hk => (World.ownsRow.lt h k hk).1
/-- another list stays -/
theorem grown_strs {w w1 : World} {v u : Value} {ys : List (List UInt8)} (h : Strs w u ys) (hne : ∀ b o k c, u = .slice (some ⟨b, o, none⟩) k c → v.ownBlock ≠ some b) (hg : w.grownBy w1 v.ownBlock) : Strs w1 u ys := by
  obtain ⟨a, cap, rfl, h1, h2, h3⟩ := h
  refine ⟨a, cap, rfl, h1, h2, fun i x hx => ?_⟩
  obtain ⟨b, o, rfl, hc⟩ := h3 i x hx
  exact ⟨b, o, rfl, hg.cell hc (fun e => hne b o _ _ rfl e.symm)⟩
end Go.Proofs.YtkclapimgmnldaaDoor

/-
  spec.Step and spec.Cut: a rule over data, and over a whole text.
-/
namespace Go.Proofs.YtkclapimgmnldaaDoor
set_option linter.unusedVariables false
set_option linter.unusedSimpArgs false
set_option maxRecDepth 20000
open Go.RowKit

/-- a slice of bools that reads so -/
def Bools (w : World) (bs : List Bool) (bp : Option Addr) : Prop := ∀ i b, bs[i]? = some b → ∃ k q, bp = some ⟨k, q, none⟩ ∧ w.cell? ⟨k, q + i, none⟩ = some (.bool b)
/-- what a step answers -/
def stepR (u : Rl) (d : List UInt8) (eof : Bool) : Int × List UInt8 × Bool × Int :=
  match rEv u [] d with
  | .fail _ => (0, [], false, 2)
  | .stop cur r => ((d.length - r.length : Nat), cur, decide (cur ≠ []), 1)
  | .tok t r => ((d.length - r.length : Nat), t, true, 0)
  | .over cur => if eof = true ∧ cur ≠ [] then ((d.length : Nat), cur, true, 0) else ((d.length - cur.length : Nat), [], false, 0)
/-- its values -/
abbrev stepV (x : Int × List UInt8 × Bool × Int) : Value := .tuple #[.int .i64 x.1, sv x.2.1, .bool x.2.2.1, .int .i64 x.2.2.2]
theorem step_fail {u : Rl} {d r : List UInt8} {eof : Bool} (h : rEv u [] d = .fail r) : stepR u d eof = (0, [], false, 2) := by unfold stepR; rw [h]
theorem step_stop {u : Rl} {d c r : List UInt8} {eof : Bool} (h : rEv u [] d = .stop c r) : stepR u d eof = (((d.length - r.length : Nat) : Int), c, decide (c ≠ []), 1) := by unfold stepR; rw [h]
theorem step_tok {u : Rl} {d t r : List UInt8} {eof : Bool} (h : rEv u [] d = .tok t r) : stepR u d eof = (((d.length - r.length : Nat) : Int), t, true, 0) := by unfold stepR; rw [h]
theorem step_over1 {u : Rl} {d c : List UInt8} (h : rEv u [] d = .over c) (hc : c ≠ []) : stepR u d true = (((d.length : Nat) : Int), c, true, 0) := by unfold stepR; rw [h]; simp only; rw [if_pos ⟨trivial, hc⟩]
theorem step_over0 {u : Rl} {d c : List UInt8} {eof : Bool} (h : rEv u [] d = .over c) (hc : eof = false ∨ c = []) : stepR u d eof = (((d.length - c.length : Nat) : Int), [], false, 0) := by
  unfold stepR; rw [h]; simp only
  rw [if_neg]
  rintro ⟨h1, h2⟩
  rcases hc with h3 | h3
  · rw [h3] at h1; cases h1
  · exact h2 h3
theorem drop_cons' {d : List UInt8} {k : Nat} {b : UInt8} (h : d[k]? = some b) : d.drop k = b :: d.drop (k + 1) := by
  obtain ⟨hk, e⟩ := List.getElem?_eq_some_iff.1 h
  rw [List.drop_eq_getElem_cons hk, e]

section
variable {u : Rl} {bp : Option Addr} {bc : Nat} {w : World} {s : ByteArray} {eof : Bool}
theorem step_ret {PP : Ending → World → Prop} {tmps : Array Value} {w' : World} (x : Int × List UInt8 × Bool × Int) (h14 : tmps.getD 14 undef = .int .i64 x.1) (h15 : tmps.getD 15 undef = sv x.2.1) (h16 : tmps.getD 16 undef = .bool x.2.2.1) (h17 : tmps.getD 17 undef = .int .i64 x.2.2.2) (hP : PP (.returned (stepV x)) w') : bodyPost Tryd.prog Tryd.f19 PP Exit.ret ⟨tmps, []⟩ w' := by
  have a14 : tmps[14]?.getD undef = .int .i64 x.1 := by simpa using h14
  have a15 : tmps[15]?.getD undef = sv x.2.1 := by simpa using h15
  have a16 : tmps[16]?.getD undef = .bool x.2.2.1 := by simpa using h16
  have a17 : tmps[17]?.getD undef = .int .i64 x.2.2.2 := by simpa using h17
  exact bodyPost_ret (v := stepV x) (by simp [results, Tryd.results19, go_sem, a14, a15, a16, a17]) rfl hP
set_option maxRecDepth 100000 in
set_option maxHeartbeats 2000000 in
theorem step_sk (sk : Bool) (hsk : u.skip = sk) (hB : Bools w u.brks bp) (hbc : u.brks.length ≤ bc ∧ bc ≤ 9223372036854775807) (hs : s.size ≤ 4194304) :
    Calls Tryd.prog 19 #[.slice bp u.brks.length bc, .bool u.keep, .bool sk, .int .i64 u.stop, .int .i64 u.fail, .string s, .bool eof] w fun e w' => e = .returned (stepV (stepR u s.data.toList eof)) ∧ ∃ n, w' = w.drewN n := by
  have HSK := Lib.hid hsk
  clear hsk
  have HB := Lib.hid hB
  have HBc := Lib.hid hbc
  have hdl : s.data.toList.length = s.size := by simp
  have HDL := Lib.hid hdl
  clear hB hbc hdl
  obtain ⟨PP, hPP⟩ : ∃ PP : Ending → World → Prop, PP = fun e w' => e = .returned (stepV (stepR u s.data.toList eof)) ∧ ∃ n, w' = w.drewN n := ⟨_, rfl⟩
  rw [← hPP]
  have HP := Lib.hid (fun x nn (hx : stepR u s.data.toList eof = x) => (show PP (.returned (stepV x)) (w.drewN nn) from by rw [hPP, hx]; exact ⟨rfl, nn, rfl⟩))
  clear hPP
  cases sk
  all_goals
    go_enter Tryd.func19, Tryd.ntmps19
    go_wp2_with fail
    go_loopw [18, 19] (fun f i wr => ∃ fn k nn : Nat, f = .int .i64 (fn : Int) ∧ i = .int .i64 (k : Int) ∧ fn ≤ k ∧ k ≤ s.size ∧ wr = w.drewN nn ∧ rEv u [] s.data.toList = rEv u ((s.data.toList.take k).drop fn) (s.data.toList.drop k)) (fun _ i _ => s.size - (intOf i).toNat)
    case atStart => exact ⟨0, 0, 0, rfl, rfl, Nat.le_refl _, Nat.zero_le _, rfl, by simp⟩
    case round =>
      obtain ⟨fn, k, nn, rfl, rfl, hfk, hk, rfl, hrev⟩ := hrel
      have HRev := Lib.hid hrev
      clear hrev
      by_cases hkd : k < s.size
      · have hb : s.data.toList[k]? = some s[k] := by simp [hkd]; rfl
        have hblt := s[k].toNat_lt
        have HDk := Lib.hid (drop_cons' hb)
        have HHb := Lib.hid hb
        have hkl : k ≤ s.data.toList.length := by rw [HDL.out]; exact hk
        by_cases h1 : (s[k].toNat : Int) = u.fail
        · have e1 : ((s[k].toNat : Int) == u.fail) = true := by simp [h1]
          have HQ := Lib.hid (fun n' => HP.out _ n' (step_fail (by rw [HRev.out, HDk.out]; exact rEv_fail h1)))
          have H1 := Lib.hid h1
          clear h1 hb
          go_wp2_with fail
          exact step_ret (0, [], false, 2) rfl rfl rfl rfl (HQ.out _)
        · have e1 : ((s[k].toNat : Int) == u.fail) = false := by simp [h1]
          by_cases h2 : (s[k].toNat : Int) = u.stop
          · have e2 : ((s[k].toNat : Int) == u.stop) = true := by simp [h2]
            have hln : s.data.toList.length - (s[k] :: s.data.toList.drop (k + 1)).length = k := by rw [← HDk.out]; simp; omega
            have HQ := Lib.hid (fun n' => (show PP (.returned (stepV ((k : Int), (s.data.toList.take k).drop fn, decide (fn < k), 1))) (w.drewN n') from HP.out _ n' (by
              rw [step_stop (show rEv u [] s.data.toList = .stop _ _ by rw [HRev.out, HDk.out]; exact rEv_stop h1 h2), hln]
              have : decide ((s.data.toList.take k).drop fn ≠ []) = decide (fn < k) := by
                by_cases h : fn < k
                · simp only [h, decide_true, decide_eq_true_eq]
                  intro he; have := (cur_nil hfk hkl).1 he; omega
                · simp only [h, decide_false, decide_eq_false_iff_not]
                  intro hne; exact hne ((cur_nil hfk hkl).2 (by omega))
              rw [this])))
            have H1 := Lib.hid (And.intro h1 h2)
            clear h1 h2 hb hln
            go_wp2_with fail
            go_quiet (fail)
            go_wp2_with fail
            exact step_ret ((k : Int), (s.data.toList.take k).drop fn, decide (fn < k), 1) rfl (sv_extract s fn k) (by first | rfl | simp) rfl (by first | exact HQ.out _ | (rw [World.drewN_drewN]; exact HQ.out _))
          · have e2 : ((s[k].toNat : Int) == u.stop) = false := by simp [h2]
            by_cases h4 : u.brks.length ≤ s[k].toNat
            · have e4 : decide ((u.brks.length : Int) ≤ (s[k].toNat : Int)) = true := by simp; omega
              have hbr : u.brk s[k] = false := by
                unfold Rl.brk
                rw [List.getD_eq_getElem?_getD, List.getElem?_eq_none h4]
                rfl
              have HN := Lib.hid (show rEv u [] s.data.toList = rEv u ((s.data.toList.take (k + 1)).drop fn) (s.data.toList.drop (k + 1)) from by
                rw [HRev.out, HDk.out, rEv_more h1 h2 hbr, cur_more hb hfk])
              have e4' : decide (u.brks.length ≤ s[k].toNat) = true := by simp; omega
              have h4i : (u.brks.length : Int) ≤ (s[k].toNat : Int) := by omega
              have H1 := Lib.hid (And.intro h1 h2)
              clear h1 h2 hb hbr
              go_wp2_with fail
              first
                | go_quiet (fail)
                | skip
              go_wp2_with fail
              go_roundw
              case rel => exact ⟨fn, k + 1, _, rfl, by go_num, by omega, by omega, by first | rfl | rw [World.drewN_drewN], HN.out⟩
              case measure => simp [intOf]; omega
            · have e4 : decide ((u.brks.length : Int) ≤ (s[k].toNat : Int)) = false := by simp; omega
              have hbl : s[k].toNat < u.brks.length := by omega
              obtain ⟨bb, hbb⟩ : ∃ bb, u.brks[s[k].toNat]? = some bb := ⟨_, List.getElem?_eq_getElem hbl⟩
              obtain ⟨kb, qb, rfl, hbcl⟩ := HB.out _ _ hbb
              have hbrk : u.brk s[k] = bb := by
                unfold Rl.brk
                rw [List.getD_eq_getElem?_getD, hbb]
                rfl
              have hl4 : (s[k].toNat : Int) < (u.brks.length : Int) := by omega
              have hbcc1 := HBc.out.1
              have hbcc2 := HBc.out.2
              cases bb with
              | false =>
                have HN := Lib.hid (show rEv u [] s.data.toList = rEv u ((s.data.toList.take (k + 1)).drop fn) (s.data.toList.drop (k + 1)) from by
                  rw [HRev.out, HDk.out, rEv_more h1 h2 hbrk, cur_more hb hfk])
                have H1 := Lib.hid (And.intro h1 (And.intro h2 h4))
                clear h1 h2 h4 hb hbrk hbb
                go_wp2_with fail
                first
                  | go_quiet (fail)
                  | skip
                go_wp2_with fail
                go_roundw
                case rel => exact ⟨fn, k + 1, _, rfl, by go_num, by omega, by omega, by first | rfl | rw [World.drewN_drewN], HN.out⟩
                case measure => simp [intOf]; omega
              | true =>
                have hbrk' : ¬ u.brk s[k] = false := by rw [hbrk]; simp
                by_cases h5 : k = fn ∧ u.skip = true
                · first
                  | (exfalso; have hx := HSK.out; rw [h5.2] at hx; cases hx; done)
                  | (have e5 : ((k : Int) == (fn : Int)) = true := by simp [h5.1]
                     have HN := Lib.hid (show rEv u [] s.data.toList = rEv u ((s.data.toList.take (k + 1)).drop (k + 1)) (s.data.toList.drop (k + 1)) from by
                       rw [HRev.out, HDk.out, (cur_nil hfk hkl).2 h5.1, rEv_skip h1 h2 hbrk' h5.2, (cur_nil (Nat.le_refl _) (by rw [HDL.out]; omega)).2 rfl])
                     have H1 := Lib.hid (And.intro h1 (And.intro h2 (And.intro h4 h5)))
                     clear h1 h2 h4 h5 hb hbrk hbb hbrk'
                     go_wp2_with fail
                     first
                       | go_quiet (fail)
                       | skip
                     go_wp2_with fail
                     go_roundw
                     case rel => exact ⟨k + 1, k + 1, _, by go_num, by go_num, by omega, by omega, by first | rfl | rw [World.drewN_drewN], HN.out⟩
                     case measure => simp [intOf]; omega)
                · have h5' : ¬ ((s.data.toList.take k).drop fn = [] ∧ u.skip = true) := fun h => h5 ⟨(cur_nil hfk hkl).1 h.1, h.2⟩
                  have hln : s.data.toList.length - (s.data.toList.drop (k + 1)).length = k + 1 := by rw [List.length_drop]; rw [HDL.out]; omega
                  have HE5 : Hid ((((k : Int) == (fn : Int)) && u.skip) = false) := Lib.hid (by
                    cases hsk : u.skip with
                    | false => simp
                    | true =>
                      have : ¬ k = fn := fun h => h5 ⟨h, hsk⟩
                      simp; omega)
                  cases hkp : u.keep with
                  | true =>
                    have HQ := Lib.hid (fun n' => (show PP (.returned (stepV ((k : Int) + 1, (s.data.toList.take (k + 1)).drop fn, true, 0))) (w.drewN n') from HP.out _ n' (by rw [step_tok (show rEv u [] s.data.toList = .tok _ _ by rw [HRev.out, HDk.out]; exact rEv_keep h1 h2 hbrk' h5' hkp), hln, cur_more hb hfk]; rfl)))
                    have H1 := Lib.hid (And.intro h1 (And.intro h2 (And.intro h4 h5)))
                    clear h1 h2 h4 h5 hb hbrk hbb hbrk' h5' hln
                    cases hkf : ((k : Int) == (fn : Int)) with
                    | true =>
                      first
                      | (exfalso; have hx := HE5.out; rw [hkf, HSK.out] at hx; simp at hx; done)
                      | (go_wp2_with fail
                         first
                           | go_quiet (fail)
                           | skip
                         go_wp2_with fail
                         first
                           | go_quiet (fail)
                           | skip
                         go_wp2_with fail
                         exact step_ret ((k : Int) + 1, (s.data.toList.take (k + 1)).drop fn, true, 0) rfl (sv_extract s fn (k + 1)) rfl rfl (by first | exact HQ.out _ | (rw [World.drewN_drewN]; exact HQ.out _)))
                    | false =>
                      go_wp2_with fail
                      first
                        | go_quiet (fail)
                        | skip
                      go_wp2_with fail
                      first
                        | go_quiet (fail)
                        | skip
                      go_wp2_with fail
                      exact step_ret ((k : Int) + 1, (s.data.toList.take (k + 1)).drop fn, true, 0) rfl (sv_extract s fn (k + 1)) rfl rfl (by first | exact HQ.out _ | (rw [World.drewN_drewN]; exact HQ.out _))
                  | false =>
                    have HQ := Lib.hid (fun n' => (show PP (.returned (stepV ((k : Int) + 1, (s.data.toList.take k).drop fn, true, 0))) (w.drewN n') from HP.out _ n' (by rw [step_tok (show rEv u [] s.data.toList = .tok _ _ by rw [HRev.out, HDk.out]; exact rEv_cut h1 h2 hbrk' h5' hkp), hln]; rfl)))
                    have H1 := Lib.hid (And.intro h1 (And.intro h2 (And.intro h4 h5)))
                    clear h1 h2 h4 h5 hb hbrk hbb hbrk' h5' hln
                    cases hkf : ((k : Int) == (fn : Int)) with
                    | true =>
                      first
                      | (exfalso; have hx := HE5.out; rw [hkf, HSK.out] at hx; simp at hx; done)
                      | (go_wp2_with fail
                         first
                           | go_quiet (fail)
                           | skip
                         go_wp2_with fail
                         first
                           | go_quiet (fail)
                           | skip
                         go_wp2_with fail
                         exact step_ret ((k : Int) + 1, (s.data.toList.take k).drop fn, true, 0) rfl (sv_extract s fn k) rfl rfl (by first | exact HQ.out _ | (rw [World.drewN_drewN]; exact HQ.out _)))
                    | false =>
                      go_wp2_with fail
                      first
                        | go_quiet (fail)
                        | skip
                      go_wp2_with fail
                      first
                        | go_quiet (fail)
                        | skip
                      go_wp2_with fail
                      exact step_ret ((k : Int) + 1, (s.data.toList.take k).drop fn, true, 0) rfl (sv_extract s fn k) rfl rfl (by first | exact HQ.out _ | (rw [World.drewN_drewN]; exact HQ.out _))
      · have hkl : k = s.size := by omega
        have hrv : rEv u [] s.data.toList = .over (s.data.toList.drop fn) := by
          rw [HRev.out, hkl, ← HDL.out, List.drop_length, List.take_length]
          rfl
        have hdl : s.data.toList.length - (s.data.toList.drop fn).length = fn := by rw [List.length_drop, HDL.out]; omega
        have hdn : s.data.toList.drop fn = [] ↔ s.size ≤ fn := by
          rw [List.drop_eq_nil_iff, HDL.out]
        by_cases hf2 : fn < s.size
        · cases eof with
          | true =>
            have HQ := Lib.hid (fun n' => (show PP (.returned (stepV ((s.size : Int), s.data.toList.drop fn, true, 0))) (w.drewN n') from HP.out _ n' (by rw [step_over1 hrv (fun h => by have := hdn.1 h; omega), HDL.out])))
            have hse : Value.string (s.extract fn s.size) = sv (s.data.toList.drop fn) := by rw [sv_extract, ← HDL.out, List.take_length]
            have HSE := Lib.hid hse
            clear hrv hdl hdn hse
            subst hkl
            go_wp2_with fail
            go_quiet (fail)
            go_wp2_with fail
            exact step_ret ((s.size : Int), s.data.toList.drop fn, true, 0) rfl HSE.out rfl rfl (by first | exact HQ.out _ | (rw [World.drewN_drewN]; exact HQ.out _))
          | false =>
            have HQ := Lib.hid (fun n' => (show PP (.returned (stepV ((fn : Int), [], false, 0))) (w.drewN n') from HP.out _ n' (by rw [step_over0 hrv (.inl rfl), hdl])))
            clear hrv hdl hdn
            subst hkl
            go_wp2_with fail
            exact step_ret ((fn : Int), [], false, 0) rfl rfl rfl rfl (by first | exact HQ.out _ | (rw [World.drewN_drewN]; exact HQ.out _))
        · have HQ := Lib.hid (fun n' => (show PP (.returned (stepV ((fn : Int), [], false, 0))) (w.drewN n') from HP.out _ n' (by rw [step_over0 hrv (.inr (hdn.2 (by omega))), hdl])))
          clear hrv hdl hdn
          have hf3 : decide ((fn : Int) < (s.size : Int)) = false := by simp; omega
          cases eof with
          | true =>
            subst hkl
            obtain rfl : fn = s.size := by omega
            go_wp2_with fail
            exact step_ret ((s.size : Int), [], false, 0) rfl rfl rfl rfl (by first | exact HQ.out _ | (rw [World.drewN_drewN]; exact HQ.out _))
          | false =>
            subst hkl
            go_wp2_with fail
            exact step_ret ((fn : Int), [], false, 0) rfl rfl rfl rfl (by first | exact HQ.out _ | (rw [World.drewN_drewN]; exact HQ.out _))
theorem step_any (hB : Bools w u.brks bp) (hbc : u.brks.length ≤ bc ∧ bc ≤ 9223372036854775807) (hs : s.size ≤ 4194304) :
    Calls Tryd.prog 19 #[.slice bp u.brks.length bc, .bool u.keep, .bool u.skip, .int .i64 u.stop, .int .i64 u.fail, .string s, .bool eof] w fun e w' => e = .returned (stepV (stepR u s.data.toList eof)) ∧ ∃ n, w' = w.drewN n := step_sk u.skip rfl hB hbc hs
end
end Go.Proofs.YtkclapimgmnldaaDoor

/-
  spec.Cut: the tokens of a whole text by a rule, whether it failed, and the most bytes that one step had to see.
-/
namespace Go.Proofs.YtkclapimgmnldaaDoor
set_option linter.unusedVariables false
set_option linter.unusedSimpArgs false
set_option maxRecDepth 20000
open Go.RowKit

/-- what spec.Cut gives -/
def CutPost (u : Rl) (t : List UInt8) (w : World) (e : Ending) (w' : World) : Prop :=
  ∃ v, e = .returned (.tuple #[v, .bool (toksR u [] t).2, .int .i64 ((moR u 0 0 t : Nat) : Int)]) ∧ StrsAt w.heap.size w' v (toksR u [] t).1 ∧ Below w.heap.size w w'
theorem Bools.below {w w' : World} {bs : List Bool} {bp : Option Addr} (h : Bools w bs bp) (hb : Below w.heap.size w w') : Bools w' bs bp := fun i b hi => by
  obtain ⟨k, q, e, hc⟩ := h i b hi
  exact ⟨k, q, e, (hb.cell (p := ⟨k, q + i, none⟩) (World.block_lt_of_cell? w _ hc)).trans hc⟩

theorem bel_drewN {B : Nat} {a w : World} (h : Below B a w) (n : Nat) : Below B a (w.drewN n) := ⟨h.os, h.tape, h.output, h.size, h.block⟩
def strLen : Value → Nat
  | .string t => t.size
  | _ => 0
/-- the state of the reference's loop -/
def CutI (u : Rl) (t0 t : List UInt8) (m0 : Nat) (ts : List (List UInt8)) : Prop :=
  (ts ++ (toksR u [] t).1, (toksR u [] t).2) = toksR u [] t0 ∧ max m0 (moR u 0 0 t) = moR u 0 0 t0 ∧ t.length + ts.length ≤ t0.length

section
variable {u : Rl} {t0 t c r t' : List UInt8} {m0 : Nat} {ts : List (List UInt8)}
theorem cut_tok (hC : CutI u t0 t m0 ts) (hev : rEv u [] t = .tok t' r) : CutI u t0 r (max m0 (t.length - r.length + 1)) (ts ++ [t']) := by
  obtain ⟨c1, c2, c3⟩ := hC
  rw [toksR_ev, hev] at c1
  rw [moR_ev t [] 0 0 (Nat.le_refl _) rfl, hev] at c2
  simp only [Nat.zero_add] at c1 c2
  obtain ⟨p, hp, hpn⟩ := tok_rest _ _ _ _ hev
  have hpl := List.length_pos_iff.2 hpn
  have hl : t.length = p.length + r.length := by rw [hp, List.length_append]
  refine ⟨by rw [← c1]; simp, by rw [← c2, Nat.max_assoc], by simp; omega⟩
theorem cut_stop (hC : CutI u t0 t m0 ts) (hev : rEv u [] t = .stop c r) : toksR u [] t0 = (ts ++ (if c = [] then [] else [c]), false) ∧ moR u 0 0 t0 = max m0 (t.length - r.length + 1) := by
  obtain ⟨c1, c2, c3⟩ := hC
  rw [toksR_ev, hev] at c1
  rw [moR_ev t [] 0 0 (Nat.le_refl _) rfl, hev] at c2
  simp only [Nat.zero_add] at c1 c2
  exact ⟨c1.symm, c2.symm⟩
theorem cut_fail (hC : CutI u t0 t m0 ts) (hev : rEv u [] t = .fail r) : toksR u [] t0 = (ts, true) ∧ moR u 0 0 t0 = max m0 (t.length - r.length + 1) := by
  obtain ⟨c1, c2, c3⟩ := hC
  rw [toksR_ev, hev] at c1
  rw [moR_ev t [] 0 0 (Nat.le_refl _) rfl, hev] at c2
  simp only [Nat.zero_add, List.append_nil] at c1 c2
  exact ⟨c1.symm, c2.symm⟩
theorem cut_over (hC : CutI u t0 t m0 ts) (hne : 0 < t.length) (hev : rEv u [] t = .over c) : CutI u t0 [] (max m0 (t.length + 1)) (ts ++ (if c = [] then [] else [c])) := by
  obtain ⟨c1, c2, c3⟩ := hC
  rw [toksR_ev, hev] at c1
  rw [moR_ev t [] 0 0 (Nat.le_refl _) rfl, hev] at c2
  simp only [Nat.zero_add] at c1 c2
  rw [if_neg (by omega)] at c2
  refine ⟨by rw [← c1]; simp [toksR], by rw [← c2]; simp [moR], ?_⟩
  by_cases h : c = []
  · simp [h]; omega
  · simp [h]; omega
/-- the first byte that fails -/
theorem fail_first : ∀ (l cur r : List UInt8), rEv u cur l = .fail r → ∃ p b r', l = p ++ b :: r' ∧ r = b :: r' ∧ (b.toNat : Int) = u.fail ∧ ∀ x ∈ p, ¬ (x.toNat : Int) = u.fail := by
  intro l
  induction l with
  | nil => intro cur r h; cases h
  | cons b l ih =>
    intro cur r h
    by_cases h1 : (b.toNat : Int) = u.fail
    · rw [rEv_fail h1] at h
      cases h
      exact ⟨[], b, l, rfl, rfl, h1, by simp⟩
    · have go : ∀ cur', rEv u cur' l = .fail r → ∃ p b' r', b :: l = p ++ b' :: r' ∧ r = b' :: r' ∧ (b'.toNat : Int) = u.fail ∧ ∀ x ∈ p, ¬ (x.toNat : Int) = u.fail := by
        intro cur' h'
        obtain ⟨p, b', r', e1, e2, e3, e4⟩ := ih cur' r h'
        refine ⟨b :: p, b', r', by rw [e1]; rfl, e2, e3, fun x hx => ?_⟩
        rcases List.mem_cons.1 hx with rfl | hx
        · exact h1
        · exact e4 x hx
      by_cases h2 : (b.toNat : Int) = u.stop
      · rw [rEv_stop h1 h2] at h; cases h
      · by_cases h3 : u.brk b = false
        · rw [rEv_more h1 h2 h3] at h; exact go _ h
        · by_cases h4 : cur = [] ∧ u.skip = true
          · obtain ⟨rfl, h5⟩ := h4
            rw [rEv_skip h1 h2 h3 h5] at h; exact go _ h
          · cases hk : u.keep with
            | true => rw [rEv_keep h1 h2 h3 h4 hk] at h; cases h
            | false => rw [rEv_cut h1 h2 h3 h4 hk] at h; cases h
end

section
variable {u : Rl} {bp : Option Addr} {bc : Nat} {w : World} {s : ByteArray}
set_option maxRecDepth 100000 in
set_option maxHeartbeats 2000000 in
theorem cut_any (hB : Bools w u.brks bp) (hbc : u.brks.length ≤ bc ∧ bc ≤ 9223372036854775807) (hs : s.size ≤ 4194304) :
    Calls Tryd.prog 11 #[.slice bp u.brks.length bc, .bool u.keep, .bool u.skip, .int .i64 u.stop, .int .i64 u.fail, .string s] w (CutPost u s.data.toList w) := by
  obtain ⟨i0, hi, hz0, hz1, hz2⟩ := info_parts info_str
  have HStep := Lib.hid (fun w' (t : ByteArray) (hb : Below w.heap.size w w') (ht : t.size ≤ 4194304) => step_any (u := u) (bp := bp) (bc := bc) (w := w') (s := t) (eof := true) (hB.below hb) hbc ht)
  clear hB hbc
  obtain ⟨PP, hPP⟩ : ∃ PP, PP = CutPost u s.data.toList w := ⟨_, rfl⟩
  rw [← hPP]
  have HPP := Lib.hid hPP
  clear hPP
  go_enter Tryd.func11, Tryd.ntmps11
  go_wp2_with fail
  go_loopw [5, 15, 16] (fun tv v mv wr => ∃ (t : ByteArray) (ts : List (List UInt8)) (m0 : Nat), tv = .string t ∧ mv = .int .i64 (m0 : Int) ∧ CutI u s.data.toList t.data.toList m0 ts ∧ StrsAt w.heap.size wr v ts ∧ Below w.heap.size w wr ∧ m0 ≤ 4194306) (fun tv _ _ _ => strLen tv)
  case atStart => exact ⟨s, [], 0, rfl, rfl, ⟨by simp, by simp, by simp⟩, World.ownsRow_made _ _ _ (Nat.le_refl _) (by decide) rfl, (Below.refl _ _).alloc (Nat.le_refl _) _, by omega⟩
  case round =>
    obtain ⟨t, ts, m0, rfl, rfl, hC, hown, hbel, hm0⟩ := hrel
    have htl : t.data.toList.length = t.size := by simp
    have hsl : s.data.toList.length = s.size := by simp
    have hts : t.size ≤ 4194304 := by have := hC.2.2; omega
    have HO := Lib.hid hown
    have HB := Lib.hid hbel
    have HC := Lib.hid hC
    by_cases ht0 : t.size = 0
    · have hnil : t.data.toList = [] := List.length_eq_zero_iff.1 (by omega)
      have hte : t.toList.isEmpty = true := by
        obtain ⟨⟨l⟩⟩ := t
        have : l = [] := by simpa using hnil
        subst this
        rw [ByteArray.toList_mk]
        rfl
      have HQ := Lib.hid (show PP (.returned (.tuple #[u15, .bool false, .int .i64 (m0 : Int)])) wr from by
        obtain ⟨c1, c2, c3⟩ := HC.out
        rw [hnil] at c1 c2
        simp only [toksR, moR, if_true, List.append_nil, Nat.max_zero] at c1 c2
        rw [HPP.out]
        refine ⟨u15, ?_, ?_, HB.out⟩
        · rw [← c1, ← c2]
        · rw [← c1]; exact HO.out)
      clear hC hown hbel hnil HC HStep
      go_wp2_with fail
      go_ret3
      exact HQ.out
    · have hte : t.toList.isEmpty = false := by
        obtain ⟨⟨l⟩⟩ := t
        rw [ByteArray.toList_mk]
        cases l with
        | nil => simp [ByteArray.size] at ht0
        | cons a b => rfl
      have hSt := HStep.out wr t hbel hts
      cases hev : rEv u [] t.data.toList with
      | tok t' r =>
        obtain ⟨a, ha⟩ : ∃ a : Nat, a = t.data.toList.length - r.length := ⟨_, rfl⟩
        rw [step_tok hev, ← ha] at hSt
        have HSt := Lib.hid hSt
        obtain ⟨p, hp, hpn⟩ := tok_rest _ _ _ _ hev
        have hpl := List.length_pos_iff.2 hpn
        have hlp : t.data.toList.length = p.length + r.length := by rw [hp, List.length_append]
        have hat : a ≤ t.size := by omega
        have ha1 : 1 ≤ a := by omega
        have HCN := Lib.hid (cut_tok hC hev)
        have HR := Lib.hid (show (t.extract a t.size).data.toList = r from by
          rw [ByteArray.data_extract, Array.toList_extract, List.extract_eq_take_drop]
          have hpa : p.length = a := by omega
          rw [hp, ← hpa, List.drop_left]
          apply List.take_of_length_le
          omega)
        have HN := Lib.hid (show ts.length + 1 ≤ 8796093022208 by have := hC.2.2; omega)
        have HA := Lib.hid ha
        clear hC hown hbel hev hSt hp hpn hlp HC HStep ha
        go_wp2_with fail
        refine HSt.out.mono ?_
        rintro e w2 ⟨rfl, nn, rfl⟩
        by_cases hmx : m0 < a + 1
        · have e1 : decide ((m0 : Int) < (a : Int) + 1) = true := by simp; omega
          go_wp2_with (first
            | (at_builtin; refine wpList_append_own _ rfl _ _ 30 rfl w.heap.size 9 i0 (.string ⟨#[]⟩) 1 16 (by kernel_rfl) hi hz0 hz1 hz2 rfl (by decide) _ _ _ rfl (World.ownsRow.alloc (w := wr.drewN nn) HO.out _) ⟨wr.heap.size, 0, none⟩ 1 1 [sv t'] rfl rfl ?c1 ?c2 ?c3 ?c4 ?c5 ?_)
            | go_in)
          case c1 => exact cell_one_new _ _ _
          case c2 => intro u hu; simp at hu; subst hu; rfl
          case c3 => have := HN.out; unfold maxLen; omega
          case c4 => have := HN.out; omega
          case c5 => have := HB.out.size; simp; omega
          · intro v' w3 hrow hgrow _
            have HI := Lib.hid (strs_push hrow rfl)
            have HB3 := Lib.hid (lines_below (bel_drewN HB.out nn) HO.out hgrow)
            clear hrow hgrow
            go_wp2_with fail
            go_roundw
            case rel => exact ⟨_, ts ++ [t'], max m0 (a + 1), rfl, by go_num, by rw [HR.out]; have hh := HCN.out; rw [← HA.out] at hh; exact hh, HI.out, HB3.out, by omega⟩
            case measure => simp [strLen]; omega
        · have e1 : decide ((m0 : Int) < (a : Int) + 1) = false := by simp; omega
          go_wp2_with (first
            | (at_builtin; refine wpList_append_own _ rfl _ _ 30 rfl w.heap.size 9 i0 (.string ⟨#[]⟩) 1 16 (by kernel_rfl) hi hz0 hz1 hz2 rfl (by decide) _ _ _ rfl (World.ownsRow.alloc (w := wr.drewN nn) HO.out _) ⟨wr.heap.size, 0, none⟩ 1 1 [sv t'] rfl rfl ?c1 ?c2 ?c3 ?c4 ?c5 ?_)
            | go_in)
          case c1 => exact cell_one_new _ _ _
          case c2 => intro u hu; simp at hu; subst hu; rfl
          case c3 => have := HN.out; unfold maxLen; omega
          case c4 => have := HN.out; omega
          case c5 => have := HB.out.size; simp; omega
          · intro v' w3 hrow hgrow _
            have HI := Lib.hid (strs_push hrow rfl)
            have HB3 := Lib.hid (lines_below (bel_drewN HB.out nn) HO.out hgrow)
            clear hrow hgrow
            go_wp2_with fail
            go_roundw
            case rel => exact ⟨_, ts ++ [t'], m0, rfl, by go_num, by rw [HR.out]; have hh := HCN.out; rw [← HA.out] at hh; rw [Nat.max_eq_left (by omega)] at hh; exact hh, HI.out, HB3.out, by omega⟩
            case measure => simp [strLen]; omega
      | over c =>
        obtain ⟨a, ha⟩ : ∃ a : Nat, a = t.size := ⟨_, rfl⟩
        have HCN := Lib.hid (cut_over hC (by omega) hev)
        have hl0 : 0 < t.size := by omega
        have HR := Lib.hid (show (t.extract t.size t.size).data.toList = [] from by
          rw [ByteArray.data_extract, Array.toList_extract, List.extract_eq_take_drop]
          simp)
        have HN := Lib.hid (show ts.length + 1 ≤ 8796093022208 by have := hC.2.2; omega)
        have HTL := Lib.hid htl
        by_cases hc : c = []
        · rw [step_over0 hev (.inr hc), hc] at hSt
          have hSt' : Calls Tryd.prog 19 #[.slice bp u.brks.length bc, .bool u.keep, .bool u.skip, .int .i64 u.stop, .int .i64 u.fail, .string t, .bool true] wr fun e w' => e = .returned (stepV ((t.size : Int), [], false, 0)) ∧ ∃ n, w' = wr.drewN n := by
            have := hSt
            rw [List.length_nil, Nat.sub_zero, htl] at this
            exact this
          have HSt := Lib.hid hSt'
          have HCN2 := Lib.hid (show CutI u s.data.toList [] (max m0 (t.size + 1)) ts from by
            have := HCN.out
            rw [if_pos hc, List.append_nil, htl] at this
            exact this)
          clear hC hown hbel hev hSt hSt' HC HStep HCN hc
          go_wp2_with fail
          refine HSt.out.mono ?_
          rintro e w2 ⟨rfl, nn, rfl⟩
          by_cases hmx : m0 < t.size + 1
          · have e1 : decide ((m0 : Int) < (t.size : Int) + 1) = true := by simp; omega
            go_wp2_with fail
            go_roundw
            case rel => exact ⟨_, ts, max m0 (t.size + 1), rfl, by go_num, by show CutI u s.data.toList [] _ _; exact HCN2.out, HO.out, bel_drewN HB.out nn, by omega⟩
            case measure => simp [strLen]; omega
          · have e1 : decide ((m0 : Int) < (t.size : Int) + 1) = false := by simp; omega
            go_wp2_with fail
            go_roundw
            case rel => exact ⟨_, ts, m0, rfl, by go_num, by show CutI u s.data.toList [] _ _; have hh := HCN2.out; rw [Nat.max_eq_left (by omega)] at hh; exact hh, HO.out, bel_drewN HB.out nn, by omega⟩
            case measure => simp [strLen]; omega
        · rw [step_over1 hev hc, htl] at hSt
          have HSt := Lib.hid hSt
          have HCN2 := Lib.hid (show CutI u s.data.toList [] (max m0 (t.size + 1)) (ts ++ [c]) from by
            have := HCN.out
            rw [if_neg hc, htl] at this
            exact this)
          clear hC hown hbel hev hSt HC HStep HCN
          go_wp2_with fail
          refine HSt.out.mono ?_
          rintro e w2 ⟨rfl, nn, rfl⟩
          by_cases hmx : m0 < t.size + 1
          · have e1 : decide ((m0 : Int) < (t.size : Int) + 1) = true := by simp; omega
            go_wp2_with (first
              | (at_builtin; refine wpList_append_own _ rfl _ _ 30 rfl w.heap.size 9 i0 (.string ⟨#[]⟩) 1 16 (by kernel_rfl) hi hz0 hz1 hz2 rfl (by decide) _ _ _ rfl (World.ownsRow.alloc (w := wr.drewN nn) HO.out _) ⟨wr.heap.size, 0, none⟩ 1 1 [sv c] rfl rfl ?c1 ?c2 ?c3 ?c4 ?c5 ?_)
              | go_in)
            case c1 => exact cell_one_new _ _ _
            case c2 => intro u hu; simp at hu; subst hu; rfl
            case c3 => have := HN.out; unfold maxLen; omega
            case c4 => have := HN.out; omega
            case c5 => have := HB.out.size; simp; omega
            · intro v' w3 hrow hgrow _
              have HI := Lib.hid (strs_push hrow rfl)
              have HB3 := Lib.hid (lines_below (bel_drewN HB.out nn) HO.out hgrow)
              clear hrow hgrow
              go_wp2_with fail
              go_roundw
              case rel => exact ⟨_, ts ++ [c], max m0 (t.size + 1), rfl, by go_num, by show CutI u s.data.toList [] _ _; have hh := HCN2.out; exact hh, HI.out, HB3.out, by omega⟩
              case measure => simp [strLen]; omega
          · have e1 : decide ((m0 : Int) < (t.size : Int) + 1) = false := by simp; omega
            go_wp2_with (first
              | (at_builtin; refine wpList_append_own _ rfl _ _ 30 rfl w.heap.size 9 i0 (.string ⟨#[]⟩) 1 16 (by kernel_rfl) hi hz0 hz1 hz2 rfl (by decide) _ _ _ rfl (World.ownsRow.alloc (w := wr.drewN nn) HO.out _) ⟨wr.heap.size, 0, none⟩ 1 1 [sv c] rfl rfl ?c1 ?c2 ?c3 ?c4 ?c5 ?_)
              | go_in)
            case c1 => exact cell_one_new _ _ _
            case c2 => intro u hu; simp at hu; subst hu; rfl
            case c3 => have := HN.out; unfold maxLen; omega
            case c4 => have := HN.out; omega
            case c5 => have := HB.out.size; simp; omega
            · intro v' w3 hrow hgrow _
              have HI := Lib.hid (strs_push hrow rfl)
              have HB3 := Lib.hid (lines_below (bel_drewN HB.out nn) HO.out hgrow)
              clear hrow hgrow
              go_wp2_with fail
              go_roundw
              case rel => exact ⟨_, ts ++ [c], m0, rfl, by go_num, by show CutI u s.data.toList [] _ _; have hh := HCN2.out; rw [Nat.max_eq_left (by omega)] at hh; exact hh, HI.out, HB3.out, by omega⟩
              case measure => simp [strLen]; omega
      | stop c r =>
        obtain ⟨a, ha⟩ : ∃ a : Nat, a = t.data.toList.length - r.length := ⟨_, rfl⟩
        rw [step_stop hev, ← ha] at hSt
        obtain ⟨q1, q2⟩ := cut_stop hC hev
        rw [← ha] at q2
        have hat : a ≤ t.size := by omega
        have HN := Lib.hid (show ts.length + 1 ≤ 8796093022208 by have := hC.2.2; omega)
        by_cases hc : c = []
        · have hdc : decide (c ≠ []) = false := by simp [hc]
          rw [hdc] at hSt
          rw [if_pos hc, List.append_nil] at q1
          have HSt := Lib.hid hSt
          have HQ0 := Lib.hid (fun n' => (show PP (.returned (.tuple #[u15, .bool false, .int .i64 ((max m0 (a + 1) : Nat) : Int)])) (wr.drewN n') from by
            rw [HPP.out]
            refine ⟨u15, ?_, ?_, bel_drewN HB.out n'⟩
            · rw [q1, q2]
            · rw [q1]; exact HO.out))
          clear hC hown hbel hev hSt HC HStep hc hdc q1 q2 ha
          go_wp2_with fail
          refine HSt.out.mono ?_
          rintro e w2 ⟨rfl, nn, rfl⟩
          have HQ := Lib.hid (HQ0.out nn)
          by_cases hmx : m0 < a + 1
          · have e1 : decide ((m0 : Int) < (a : Int) + 1) = true := by simp; omega
            rw [Nat.max_eq_right (by omega)] at HQ
            go_wp2_with fail
            go_ret3
            exact HQ.out
          · have e1 : decide ((m0 : Int) < (a : Int) + 1) = false := by simp; omega
            rw [Nat.max_eq_left (by omega)] at HQ
            go_wp2_with fail
            go_ret3
            exact HQ.out
        · have hdc : decide (c ≠ []) = true := by simp [hc]
          rw [hdc] at hSt
          rw [if_neg hc] at q1
          have HSt := Lib.hid hSt
          have HQ0 := Lib.hid (fun v' w3 (hst : StrsAt w.heap.size w3 v' (ts ++ [c])) (hb3 : Below w.heap.size w w3) => (show PP (.returned (.tuple #[v', .bool false, .int .i64 ((max m0 (a + 1) : Nat) : Int)])) w3 from by
            rw [HPP.out]
            refine ⟨v', ?_, ?_, hb3⟩
            · rw [q1, q2]
            · rw [q1]; exact hst))
          clear hC hown hbel hev hSt HC HStep hdc q1 q2 ha
          go_wp2_with fail
          refine HSt.out.mono ?_
          rintro e w2 ⟨rfl, nn, rfl⟩
          by_cases hmx : m0 < a + 1
          · have e1 : decide ((m0 : Int) < (a : Int) + 1) = true := by simp; omega
            rw [Nat.max_eq_right (by omega)] at HQ0
            go_wp2_with (first
              | (at_builtin; refine wpList_append_own _ rfl _ _ 30 rfl w.heap.size 9 i0 (.string ⟨#[]⟩) 1 16 (by kernel_rfl) hi hz0 hz1 hz2 rfl (by decide) _ _ _ rfl (World.ownsRow.alloc (w := wr.drewN nn) HO.out _) ⟨wr.heap.size, 0, none⟩ 1 1 [sv c] rfl rfl ?c1 ?c2 ?c3 ?c4 ?c5 ?_)
              | go_in)
            case c1 => exact cell_one_new _ _ _
            case c2 => intro u hu; simp at hu; subst hu; rfl
            case c3 => have := HN.out; unfold maxLen; omega
            case c4 => have := HN.out; omega
            case c5 => have := HB.out.size; simp; omega
            · intro v' w3 hrow hgrow _
              have HQ := Lib.hid (HQ0.out v' w3 (strs_push hrow rfl) (lines_below (bel_drewN HB.out nn) HO.out hgrow))
              clear hrow hgrow
              go_wp2_with fail
              go_ret3
              exact HQ.out
          · have e1 : decide ((m0 : Int) < (a : Int) + 1) = false := by simp; omega
            rw [Nat.max_eq_left (by omega)] at HQ0
            go_wp2_with (first
              | (at_builtin; refine wpList_append_own _ rfl _ _ 30 rfl w.heap.size 9 i0 (.string ⟨#[]⟩) 1 16 (by kernel_rfl) hi hz0 hz1 hz2 rfl (by decide) _ _ _ rfl (World.ownsRow.alloc (w := wr.drewN nn) HO.out _) ⟨wr.heap.size, 0, none⟩ 1 1 [sv c] rfl rfl ?c1 ?c2 ?c3 ?c4 ?c5 ?_)
              | go_in)
            case c1 => exact cell_one_new _ _ _
            case c2 => intro u hu; simp at hu; subst hu; rfl
            case c3 => have := HN.out; unfold maxLen; omega
            case c4 => have := HN.out; omega
            case c5 => have := HB.out.size; simp; omega
            · intro v' w3 hrow hgrow _
              have HQ := Lib.hid (HQ0.out v' w3 (strs_push hrow rfl) (lines_below (bel_drewN HB.out nn) HO.out hgrow))
              clear hrow hgrow
              go_wp2_with fail
              go_ret3
              exact HQ.out
      | fail r =>
        obtain ⟨p, b, r', hp, hr, hbf, hpf⟩ := fail_first _ _ _ hev
        obtain ⟨q1, q2⟩ := cut_fail hC hev
        obtain ⟨a, ha⟩ : ∃ a : Nat, a = p.length := ⟨_, rfl⟩
        have hla : t.data.toList.length - r.length = a := by rw [hp, hr, List.length_append]; omega
        have hat : a < t.size := by rw [← htl, hp, List.length_append]; simp; omega
        rw [hla] at q2
        rw [step_fail hev] at hSt
        have HSt := Lib.hid hSt
        have HQ0 := Lib.hid (fun n' => (show PP (.returned (.tuple #[u15, .bool true, .int .i64 ((max m0 (a + 1) : Nat) : Int)])) (wr.drewN n') from by
          rw [HPP.out]
          refine ⟨u15, ?_, ?_, bel_drewN HB.out n'⟩
          · rw [q1, q2]
          · rw [q1]; exact HO.out))
        have HF := Lib.hid (fun (j : Nat) (hj : j < t.size) => (show (j < a → ((t[j].toNat : Int) != u.fail) = true) ∧ (j = a → ((t[j].toNat : Int) != u.fail) = false) from by
          have hg : t.data.toList[j]? = some t[j] := by simp [hj]; rfl
          rw [hp] at hg
          constructor
          · intro hja
            rw [List.getElem?_append_left (by omega)] at hg
            have := hpf _ (List.mem_of_getElem? hg)
            simpa using this
          · intro hja
            have h3 : (p ++ b :: r')[j]? = some b := by
              rw [hja, ha, List.getElem?_append_right (Nat.le_refl _), Nat.sub_self]
              rfl
            have h4 : t[j] = b := Option.some.inj (hg.symm.trans h3)
            rw [h4, hbf]
            simp))
        clear hC hown hbel hev hSt HC HStep q1 q2 ha hp hr hbf hpf hla
        go_wp2_with fail
        refine HSt.out.mono ?_
        rintro e w2 ⟨rfl, nn, rfl⟩
        have HQ := Lib.hid (HQ0.out nn)
        go_wp2_with fail
        go_loopw [21] (fun sv' wr' => ∃ j : Nat, sv' = .int .i64 ((j : Int) + 1) ∧ j ≤ a ∧ wr' = wr.drewN nn) (fun sv' _ => a + 1 - (intOf sv').toNat)
        case atStart => exact ⟨0, rfl, Nat.zero_le _, rfl⟩
        case round =>
          obtain ⟨j, rfl, hja, rfl⟩ := hrel
          have hjt : j < t.size := by omega
          have hblt := t[j].toNat_lt
          by_cases hlt : j < a
          · have e1 := (HF.out j hjt).1 hlt
            go_wp2_with fail
            go_roundw
            case rel => exact ⟨j + 1, by go_num, by omega, by first | rfl | trivial⟩
            case measure => simp [intOf]; omega
          · obtain rfl : j = a := by omega
            have e1 := (HF.out j hjt).2 rfl
            by_cases hmx : m0 < j + 1
            · have e2 : decide ((m0 : Int) < (j : Int) + 1) = true := by simp; omega
              rw [Nat.max_eq_right (by omega)] at HQ
              go_wp2_with fail
              go_ret3
              exact HQ.out
            · have e2 : decide ((m0 : Int) < (j : Int) + 1) = false := by simp; omega
              rw [Nat.max_eq_left (by omega)] at HQ
              go_wp2_with fail
              go_ret3
              exact HQ.out
end
end Go.Proofs.YtkclapimgmnldaaDoor
