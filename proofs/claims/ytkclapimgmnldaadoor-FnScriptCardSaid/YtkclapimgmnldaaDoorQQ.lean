/-
  A split function that answers by a script, as a plain machine: some calls of Scan, and what they come to. No program in sight.
-/
import Derived.Test.YtkclapimgmnldaaDoorQA
namespace Go.Proofs.YtkclapimgmnldaaDoor
set_option linter.unusedVariables false
set_option linter.unusedSimpArgs false
set_option maxRecDepth 20000

/-- a reply of a script -/
structure Rep where
  adv : Int
  all : Bool
  tok : Int
  frm : Int
  till : Int
  text : ByteArray
  err : Int
/-- place -/
def placeZ (k n : Int) : Int := (k.tmod (n + 1) + n + 1).tmod (n + 1)
/-- the token of a reply -/
def tokR (r : Rep) (d : List UInt8) : Option (List UInt8) :=
  if r.tok = 1 then some ((d.take (max (placeZ r.frm d.length) (placeZ r.till d.length)).toNat).drop (min (placeZ r.frm d.length) (placeZ r.till d.length)).toNat)
  else if r.tok = 2 then some r.text.data.toList
  else none
/-- the tape's own state: where it is, the calls so far -/
structure TS where
  pos : Nat
  calls : List (List UInt8 × Bool)
/-- where the tape goes on -/
def tpos (rs : List Rep) (rep : Bool) (p : Nat) : Nat := if p = rs.length ∧ rep = true then 0 else p
def codeR (e : Int) : Nat := if e = 1 then 1 else if e = 2 then 2 else 0
def splitTape (rs : List Rep) (rep : Bool) (x : TS) (d : List UInt8) (eof : Bool) : Ans TS :=
  match rs[tpos rs rep x.pos]? with
  | none => ⟨⟨tpos rs rep x.pos, x.calls ++ [(d, eof)]⟩, 0, none, 1⟩
  | some r => ⟨⟨tpos rs rep x.pos + 1, x.calls ++ [(d, eof)]⟩, if r.all then d.length else r.adv, tokR r d, codeR r.err⟩

section
variable {σ : Type}
/-- some calls of Scan that give tokens -/
inductive Scans (split : σ → List UInt8 → Bool → Ans σ) (lim : Nat) (tog : Bool) (endE : Nat) (x0 : Sm σ) : List (List UInt8) → Sm σ → Prop
  | nil : Scans split lim tog endE x0 [] x0
  | snoc (ts : List (List UInt8)) (x1 x2 : Sm σ) (t : List UInt8) : Scans split lim tog endE x0 ts x1 → Sm.Scan split lim tog endE x1 (some (some t)) x2 → Scans split lim tog endE x0 (ts ++ [t]) x2

/-- what at most n calls of Scan come to, up to the first that gives no token -/
def RunsTo (split : σ → List UInt8 → Bool → Ans σ) (lim : Nat) (tog : Bool) (endE : Nat) (x0 : Sm σ) (n : Nat) (ts : List (List UInt8)) (x' : Sm σ) (ended pan : Bool) : Prop :=
  ∃ x1, Scans split lim tog endE x0 ts x1 ∧ ((ts.length = n ∧ x' = x1 ∧ ended = false ∧ pan = false) ∨ (ts.length < n ∧ Sm.Scan split lim tog endE x1 (some none) x' ∧ ended = true ∧ pan = false) ∨ (ts.length < n ∧ Sm.Scan split lim tog endE x1 none x' ∧ ended = false ∧ pan = true))

/-- a property that each call of Scan keeps -/
theorem Scans.inv {split : σ → List UInt8 → Bool → Ans σ} {lim : Nat} {tog : Bool} {endE : Nat} {x0 : Sm σ} (J : List (List UInt8) → Sm σ → Prop) (h0 : J [] x0) (hs : ∀ ts x t x', J ts x → Sm.Scan split lim tog endE x (some (some t)) x' → J (ts ++ [t]) x') {ts : List (List UInt8)} {x : Sm σ} (h : Scans split lim tog endE x0 ts x) : J ts x := by
  induction h with
  | nil => exact h0
  | snoc ts x1 x2 t _ h2 ih => exact hs ts x1 t x2 ih h2

/-- each answer is final: the first call of Scan gives its token, and it is done -/
theorem first_final {split : σ → List UInt8 → Bool → Ans σ} {lim : Nat} {tog : Bool} {endE : Nat} {x x' : Sm σ} {o : Out} {tk : Option (List UInt8)} (hc : ∀ x d b, (split x d b).code = 1 ∧ (split x d b).tok = tk) (hl : 0 < lim) (hp : x.pend = []) (hr : x.rest ≠ []) (he : x.err = none) (hd : x.done = false)
    (h : Sm.Scan split lim tog endE x o x') : o = some tk ∧ x'.done = true ∧ (x'.err = none ∨ x'.err = some endE) := by
  rcases h with ⟨h1, _⟩ | ⟨_, k, h⟩
  · rw [hd] at h1; cases h1
  have hpre : Sm.pre split lim x = .inr x := by
    unfold Sm.pre Sm.after
    rw [hp, he]
    simp
    omega
  cases k with
  | zero =>
    have h' : Sm.pre split lim x = .inl (o, x') := h
    rw [hpre] at h'; cases h'
  | succ k =>
    obtain ⟨s1, s2, h1, h2, h3⟩ := h
    rw [hpre] at h1
    cases h1
    have hs2 : s2.pend ≠ [] ∧ (s2.err = none ∨ s2.err = some endE) := by
      rcases h2 with ⟨h4, _⟩ | ⟨n, h4, h5, _, rfl⟩
      · exact absurd h4 hr
      · have hne : x.pend ++ x.rest.take n ≠ [] := by
          rw [hp, List.nil_append]
          intro e
          have := congrArg List.length e
          rw [List.length_take, List.length_nil] at this
          omega
        split
        · exact ⟨hne, .inr rfl⟩
        · exact ⟨hne, .inl he⟩
    have hpre2 : Sm.pre split lim s2 = .inl (some tk, { s2 with done := true, sp := (split s2.sp s2.pend s2.err.isSome).sp }) := by
      unfold Sm.pre
      rw [if_pos (.inl hs2.1)]
      unfold Sm.took
      rw [if_pos (hc _ _ _).1, (hc _ _ _).2]
      cases tk <;> rfl
    cases k with
    | zero =>
      have h' : Sm.pre split lim s2 = .inl (o, x') := h3
      rw [hpre2] at h'
      cases h'
      exact ⟨rfl, rfl, hs2.2⟩
    | succ k =>
      obtain ⟨_, _, h4, _⟩ := h3
      rw [hpre2] at h4; cases h4
theorem done_scan {split : σ → List UInt8 → Bool → Ans σ} {lim : Nat} {tog : Bool} {endE : Nat} {x x' : Sm σ} {o : Out} (hd : x.done = true) (h : Sm.Scan split lim tog endE x o x') : o = some none ∧ x' = x := by
  rcases h with ⟨_, h1, h2⟩ | ⟨h1, _⟩
  · exact ⟨h1, h2⟩
  · rw [hd] at h1; cases h1

/-- what a run comes to where each answer is final -/
theorem final_run {split : σ → List UInt8 → Bool → Ans σ} {lim : Nat} {tog : Bool} {endE : Nat} {x x' : Sm σ} {n : Nat} {ts : List (List UInt8)} {ended pan : Bool} {tk : Option (List UInt8)} (hc : ∀ x d b, (split x d b).code = 1 ∧ (split x d b).tok = tk) (hl : 0 < lim) (hp : x.pend = []) (hr : x.rest ≠ []) (he : x.err = none) (hd : x.done = false)
    (hn : tk.toList.length < n) (h : RunsTo split lim tog endE x n ts x' ended pan) : ts = tk.toList ∧ ended = true ∧ pan = false ∧ (x'.err = none ∨ x'.err = some endE) := by
  obtain ⟨x1, h1, h2⟩ := h
  have hJ : (ts = [] ∧ x1 = x) ∨ (∃ t, tk = some t ∧ ts = [t] ∧ x1.done = true ∧ (x1.err = none ∨ x1.err = some endE)) := by
    refine h1.inv (J := fun ts x1 => (ts = [] ∧ x1 = x) ∨ (∃ t, tk = some t ∧ ts = [t] ∧ x1.done = true ∧ (x1.err = none ∨ x1.err = some endE))) (.inl ⟨rfl, rfl⟩) ?_
    rintro ts y t y' (⟨rfl, rfl⟩ | ⟨t', e, rfl, h3, h4⟩) hs
    · obtain ⟨e1, e2, e3⟩ := first_final hc hl hp hr he hd hs
      exact .inr ⟨t, (Option.some.inj e1).symm, rfl, e2, e3⟩
    · have := (done_scan h3 hs).1
      cases this
  rcases hJ with ⟨rfl, rfl⟩ | ⟨t, rfl, rfl, hx, hxe⟩
  · rcases h2 with ⟨h3, rfl, rfl, rfl⟩ | ⟨h3, hs, rfl, rfl⟩ | ⟨h3, hs, rfl, rfl⟩
    · simp at h3; omega
    · obtain ⟨e1, e2, e3⟩ := first_final hc hl hp hr he hd hs
      obtain rfl := Option.some.inj e1
      exact ⟨rfl, rfl, rfl, e3⟩
    · have := (first_final hc hl hp hr he hd hs).1
      cases this
  · rcases h2 with ⟨h3, rfl, rfl, rfl⟩ | ⟨h3, hs, rfl, rfl⟩ | ⟨h3, hs, rfl, rfl⟩
    · simp at h3 hn; omega
    · obtain ⟨_, rfl⟩ := done_scan hx hs
      exact ⟨rfl, rfl, rfl, hxe⟩
    · have := (done_scan hx hs).1
      cases this

/-- a call of Scan behind the end of the input, or at an empty input: one answer -/
theorem scan_end {split : σ → List UInt8 → Bool → Ans σ} {lim : Nat} {tog : Bool} {endE : Nat} {x x' : Sm σ} {o : Out} (hl : 0 < lim) (hp : x.pend = []) (hr : x.rest = []) (he : x.err = none ∨ x.err = some endE) (hd : x.done = false)
    (hi : ∀ y, Sm.took lim { x with err := some endE } (split x.sp [] true) = .inr y → False) (h : Sm.Scan split lim tog endE x o x') : Sm.took lim { x with err := some endE } (split x.sp [] true) = .inl (o, x') := by
  rcases h with ⟨h1, _⟩ | ⟨_, k, h⟩
  · rw [hd] at h1; cases h1
  have key : ∀ k y, y.pend = [] → y.err = some endE → y.sp = x.sp → y = { x with err := some endE } → Sm.LoopN split lim tog endE k y o x' → Sm.took lim { x with err := some endE } (split x.sp [] true) = .inl (o, x') := by
    intro k y hp1 he1 hs1 hy hk
    have hpre : Sm.pre split lim y = Sm.took lim { x with err := some endE } (split x.sp [] true) := by
      unfold Sm.pre
      rw [if_pos (.inr (by rw [he1]; rfl)), hp1, he1, hs1, hy]
      rfl
    cases k with
    | zero =>
      have h' : Sm.pre split lim y = .inl (o, x') := hk
      rw [← hpre]; exact h'
    | succ k =>
      obtain ⟨s1, s2, h1, h2, h3⟩ := hk
      rw [hpre] at h1
      exact (hi _ h1).elim
  rcases he with he | he
  · have hpre : Sm.pre split lim x = .inr x := by
      unfold Sm.pre Sm.after
      rw [hp, he]
      simp
      omega
    cases k with
    | zero =>
      have h' : Sm.pre split lim x = .inl (o, x') := h
      rw [hpre] at h'; cases h'
    | succ k =>
      obtain ⟨s1, s2, h1, h2, h3⟩ := h
      rw [hpre] at h1
      cases h1
      rcases h2 with ⟨_, rfl⟩ | ⟨n, h4, h5, _, rfl⟩
      · exact key k { x with err := some endE } hp rfl rfl rfl h3
      · rw [hr] at h5; simp at h5; omega
  · refine key k x hp he rfl ?_ h
    cases x
    simp only at he
    subst he
    rfl
end

/-- empty tokens without end, at the end of an empty input: Scan panics -/
theorem empty_run {r : Rep} (ha : r.all = false) (h0 : r.adv = 0) (ht : r.tok = 2) (hx : r.text = ⟨#[]⟩) (hre : r.err = 0) {lim : Nat} (hl : 0 < lim) {tog : Bool} {endE : Nat} {x x' : Sm TS} (hp : x.pend = []) (hr : x.rest = []) (he : x.err = none) (hd : x.done = false) (hem : x.emp = 0) (hpos : x.sp.pos ≤ 1)
    {n : Nat} (hn : 1000 ≤ n) {ts : List (List UInt8)} {ended pan : Bool} (h : RunsTo (splitTape [r] true) lim tog endE x n ts x' ended pan) : pan = true ∧ ended = false ∧ ts.length < n := by
  have hsp : ∀ y : TS, y.pos ≤ 1 → ∃ y' : TS, y'.pos ≤ 1 ∧ splitTape [r] true y [] true = ⟨y', 0, some [], 0⟩ := by
    intro y hy
    have ht0 : tpos [r] true y.pos = 0 := by unfold tpos; simp; omega
    refine ⟨_, ?_, by unfold splitTape; rw [ht0]; simp [ha, h0, tokR, ht, hx, codeR, hre]; rfl⟩
    simp
  have step : ∀ (k : Nat) (y : Sm TS) (o : Out) (y' : Sm TS), (y.pend = [] ∧ y.rest = [] ∧ (y.err = none ∨ y.err = some endE) ∧ y.done = false ∧ y.sp.pos ≤ 1 ∧ y.emp = k) → Sm.Scan (splitTape [r] true) lim tog endE y o y' →
      (o = some (some []) ∧ k + 1 ≤ 100 ∧ (y'.pend = [] ∧ y'.rest = [] ∧ (y'.err = none ∨ y'.err = some endE) ∧ y'.done = false ∧ y'.sp.pos ≤ 1 ∧ y'.emp = k + 1)) ∨ o = none := by
    rintro k y o y' ⟨h1, h2, h3, h4, h5, h6⟩ hs
    obtain ⟨sp', hsp1, hsp2⟩ := hsp y.sp h5
    have htook : Sm.took lim { y with err := some endE } (splitTape [r] true y.sp [] true) = if 100 < k + 1 then .inl (none, { y with err := some endE, sp := sp', pend := [], emp := k + 1 }) else .inl (some (some []), { y with err := some endE, sp := sp', pend := [], emp := k + 1 }) := by
      rw [hsp2]
      unfold Sm.took
      simp [h1, h6]
    have := scan_end hl h1 h2 h3 h4 (fun z hz => by rw [htook] at hz; split at hz <;> cases hz) hs
    rw [htook] at this
    split at this
    · cases this; exact .inr rfl
    · cases this
      exact .inl ⟨rfl, by omega, rfl, h2, .inr rfl, h4, hsp1, rfl⟩
  obtain ⟨x1, h1, h2⟩ := h
  have hJ := h1.inv (J := fun ts y => ts.length ≤ 100 ∧ (y.pend = [] ∧ y.rest = [] ∧ (y.err = none ∨ y.err = some endE) ∧ y.done = false ∧ y.sp.pos ≤ 1 ∧ y.emp = ts.length)) ⟨by simp, hp, hr, .inl he, hd, hpos, hem⟩ (by
    rintro ts y t y' ⟨_, hj⟩ hs
    rcases step _ _ _ _ hj hs with ⟨_, h3, h4⟩ | h3
    · exact ⟨by simpa using h3, by simpa using h4⟩
    · cases h3)
  rcases h2 with ⟨h3, rfl, rfl, rfl⟩ | ⟨h3, hs, rfl, rfl⟩ | ⟨h3, hs, rfl, rfl⟩
  · have := hJ.1; omega
  · rcases step _ _ _ _ hJ.2 hs with ⟨h4, _⟩ | h4
    · cases h4
    · cases h4
  · exact ⟨rfl, rfl, h3⟩
end Go.Proofs.YtkclapimgmnldaaDoor

/-
  The calls of a script followed again: what the law's own replay finds is what came of scanning. No program in sight.
-/
namespace Go.Proofs.YtkclapimgmnldaaDoor
set_option linter.unusedVariables false
set_option linter.unusedSimpArgs false
set_option maxRecDepth 20000

/-- how far a reply advances -/
def advR (r : Rep) (d : List UInt8) : Int := if r.all then d.length else r.adv
/-- a call is as the page tells -/
def okC (rest : List UInt8) (c : List UInt8 × Bool) : Prop := c.1.length ≤ rest.length ∧ rest.take c.1.length = c.1 ∧ (c.2 = true → rest.length ≤ c.1.length) ∧ (c.2 = false → c.1 ≠ [])
/-- one call: the end with its error, or what is left, where the script goes on, and the tokens -/
def rstep (rs : List Rep) (rep : Bool) (rest : List UInt8) (p : Nat) (tk : List (List UInt8)) (c : List UInt8 × Bool) : (List (List UInt8) × Nat) ⊕ (List UInt8 × Nat × List (List UInt8)) :=
  match rs[tpos rs rep p]? with
  | none => .inl (tk, 0)
  | some r =>
    if r.err = 2 then .inl (tk, 4)
    else if r.err = 1 then .inl (tk ++ (tokR r c.1).toList, 0)
    else if advR r c.1 < 0 then .inl (tk, 2)
    else if (c.1.length : Int) < advR r c.1 then .inl (tk, 3)
    else match tokR r c.1 with
      | some t => .inr (rest.drop (advR r c.1).toNat, tpos rs rep p + 1, tk ++ [t])
      | none => if c.2 then .inl (tk, 0) else .inr (rest.drop (advR r c.1).toNat, tpos rs rep p + 1, tk)
/-- all calls -/
def Track (rs : List Rep) (rep : Bool) : List UInt8 → Nat → List (List UInt8) → List (List UInt8 × Bool) → List (List UInt8) × Nat × Bool → Prop
  | rest, p, tk, [], res => res = (tk, 0, false)
  | rest, p, tk, c :: cs, res => okC rest c ∧ ((∃ tk' e, rstep rs rep rest p tk c = .inl (tk', e) ∧ cs = [] ∧ res = (tk', e, true)) ∨ (∃ rest' p' tk', rstep rs rep rest p tk c = .inr (rest', p', tk') ∧ Track rs rep rest' p' tk' cs res))

/-- an answer with a token that does not advance for certain -/
def Empties (rs : List Rep) : Prop := ∃ r ∈ rs, r.tok ≠ 0 ∧ (r.all = true ∨ r.adv = 0)

/-- scanning goes on, and the calls have been followed so far -/
structure Going (rs : List Rep) (rep : Bool) (lim : Nat) (text : List UInt8) (x : Sm TS) (ts : List (List UInt8)) : Prop where
  track : ∀ more res, Track rs rep (x.pend ++ x.rest) x.sp.pos ts more res → Track rs rep text 0 [] (x.sp.calls ++ more) res
  err : x.err = none ∨ (x.err = some 0 ∧ x.rest = [])
  live : x.done = false
  short : (x.pend ++ x.rest).length < lim

def errN (e : Option Nat) : Nat := e.getD 0

/-- what an end of one round is -/
def Ends (rs : List Rep) (rep : Bool) (lim : Nat) (text : List UInt8) (ts : List (List UInt8)) (o : Out) (x' : Sm TS) : Prop :=
  (∃ t, o = some (some t) ∧ Going rs rep lim text x' (ts ++ [t])) ∨ (∃ t, o = some (some t) ∧ x'.done = true ∧ Track rs rep text 0 [] x'.sp.calls (ts ++ [t], 0, true) ∧ errN x'.err = 0) ∨
  (o = some none ∧ Track rs rep text 0 [] x'.sp.calls (ts, errN x'.err, true)) ∨ (o = none ∧ Empties rs ∧ ∃ t, Going rs rep lim text x' (ts ++ [t]))

theorem tok_some {r : Rep} {d t : List UInt8} (h : tokR r d = some t) : r.tok ≠ 0 := by
  unfold tokR at h
  split at h
  · omega
  · split at h
    · omega
    · cases h

section
variable {rs : List Rep} {rep : Bool} {lim : Nat} {text : List UInt8} {tog : Bool}

theorem track_last {x : Sm TS} {ts : List (List UInt8)} (h : Going rs rep lim text x ts) {c : List UInt8 × Bool} (hc : okC (x.pend ++ x.rest) c) {tk' : List (List UInt8)} {e : Nat} (hs : rstep rs rep (x.pend ++ x.rest) x.sp.pos ts c = .inl (tk', e)) : Track rs rep text 0 [] (x.sp.calls ++ [c]) (tk', e, true) :=
  h.track [c] _ ⟨hc, .inl ⟨tk', e, hs, rfl, rfl⟩⟩

theorem setErr_set {x : Sm TS} (h : x.err = none ∨ (x.err = some 0 ∧ x.rest = [])) (c : Nat) : (x.setErr c) = { x with err := some c } := by
  unfold Sm.setErr
  rw [if_pos]
  rcases h with h | h
  · exact .inl h
  · exact .inr h.1

theorem going_took {x : Sm TS} {ts : List (List UInt8)} (h : Going rs rep lim text x ts) (hcall : x.pend ≠ [] ∨ x.err.isSome) :
    (∀ o x', Sm.took lim x (splitTape rs rep x.sp x.pend x.err.isSome) = .inl (o, x') → Ends rs rep lim text ts o x') ∧ (∀ x', Sm.took lim x (splitTape rs rep x.sp x.pend x.err.isSome) = .inr x' → Going rs rep lim text x' ts) := by
  have hok : okC (x.pend ++ x.rest) (x.pend, x.err.isSome) := by
    refine ⟨by simp, by simp, fun he => ?_, fun he => ?_⟩
    · rcases h.err with h1 | h1
      · rw [h1] at he; cases he
      · simp [h1.2]
    · rcases hcall with h1 | h1
      · exact h1
      · have he' : x.err.isSome = false := he
        rw [he'] at h1; cases h1
  have hz : errN x.err = 0 := by
    rcases h.err with h1 | h1
    · rw [h1]; rfl
    · rw [h1.1]; rfl
  have hlast := fun tk' e hs => track_last h hok (tk' := tk') (e := e) hs
  have hshort := h.short
  unfold splitTape
  unfold rstep at hlast
  cases hr : rs[tpos rs rep x.sp.pos]? with
  | none =>
    rw [hr] at hlast
    simp only
    constructor
    · intro o x' ht
      simp [Sm.took] at ht
      obtain ⟨rfl, rfl⟩ := ht
      refine .inr (.inr (.inl ⟨rfl, ?_⟩))
      have := hlast ts 0 rfl
      show Track rs rep text 0 [] (x.sp.calls ++ [(x.pend, x.err.isSome)]) (ts, errN x.err, true)
      rw [hz]; exact this
    · intro x' ht
      simp [Sm.took] at ht
  | some r =>
    rw [hr] at hlast
    simp only at hlast ⊢
    have hadv : (if r.all then (x.pend.length : Int) else r.adv) = advR r x.pend := rfl
    rw [hadv]
    have hrm : r ∈ rs := List.mem_of_getElem? hr
    unfold Sm.took
    simp only
    by_cases h1 : r.err = 1
    · have hc : codeR r.err = 1 := by simp [codeR, h1]
      rw [if_pos hc]
      have hl := hlast (ts ++ (tokR r x.pend).toList) 0 (by rw [if_neg (by omega), if_pos h1])
      cases htk : tokR r x.pend with
      | some t =>
        rw [htk] at hl
        refine ⟨fun o x' ht => ?_, fun x' ht => by cases ht⟩
        cases ht
        exact .inr (.inl ⟨t, rfl, rfl, hl, hz⟩)
      | none =>
        rw [htk] at hl
        refine ⟨fun o x' ht => ?_, fun x' ht => by cases ht⟩
        cases ht
        refine .inr (.inr (.inl ⟨rfl, ?_⟩))
        show Track rs rep text 0 [] (x.sp.calls ++ [(x.pend, x.err.isSome)]) (ts, errN x.err, true)
        rw [hz]; simpa using hl
    · have hc : ¬ codeR r.err = 1 := by unfold codeR; rw [if_neg h1]; split <;> omega
      rw [if_neg hc]
      by_cases h2 : r.err = 2
      · have hc2 : codeR r.err = 2 := by simp [codeR, h2]
        rw [if_pos hc2]
        have hl := hlast ts 4 (by rw [if_pos h2])
        refine ⟨fun o x' ht => ?_, fun x' ht => by cases ht⟩
        cases ht
        refine .inr (.inr (.inl ⟨rfl, ?_⟩))
        rw [setErr_set (x := { x with sp := ⟨tpos rs rep x.sp.pos + 1, x.sp.calls ++ [(x.pend, x.err.isSome)]⟩ }) h.err]
        exact hl
      · have hc2 : ¬ codeR r.err = 2 := by unfold codeR; rw [if_neg h1, if_neg h2]; omega
        rw [if_neg hc2]
        by_cases h3 : advR r x.pend < 0
        · rw [if_pos h3]
          have hl := hlast ts 2 (by rw [if_neg h2, if_neg h1, if_pos h3])
          refine ⟨fun o x' ht => ?_, fun x' ht => by cases ht⟩
          cases ht
          refine .inr (.inr (.inl ⟨rfl, ?_⟩))
          rw [setErr_set (x := { x with sp := ⟨tpos rs rep x.sp.pos + 1, x.sp.calls ++ [(x.pend, x.err.isSome)]⟩ }) h.err]
          exact hl
        · rw [if_neg h3]
          by_cases h4 : (x.pend.length : Int) < advR r x.pend
          · rw [if_pos h4]
            have hl := hlast ts 3 (by rw [if_neg h2, if_neg h1, if_neg h3, if_pos h4])
            refine ⟨fun o x' ht => ?_, fun x' ht => by cases ht⟩
            cases ht
            refine .inr (.inr (.inl ⟨rfl, ?_⟩))
            rw [setErr_set (x := { x with sp := ⟨tpos rs rep x.sp.pos + 1, x.sp.calls ++ [(x.pend, x.err.isSome)]⟩ }) h.err]
            exact hl
          · rw [if_neg h4]
            have hdrop : (x.pend ++ x.rest).drop (advR r x.pend).toNat = x.pend.drop (advR r x.pend).toNat ++ x.rest := by
              rw [List.drop_append_of_le_length (by omega)]
            have hlen : (x.pend.drop (advR r x.pend).toNat ++ x.rest).length < lim := by
              rw [← hdrop, List.length_drop]; omega
            cases htk : tokR r x.pend with
            | some t =>
              have hgo : ∀ emp, Going rs rep lim text { x with sp := ⟨tpos rs rep x.sp.pos + 1, x.sp.calls ++ [(x.pend, x.err.isSome)]⟩, pend := x.pend.drop (advR r x.pend).toNat, emp := emp } (ts ++ [t]) := fun emp =>
                { track := fun more res hm => by
                    show Track rs rep text 0 [] ((x.sp.calls ++ [(x.pend, x.err.isSome)]) ++ more) res
                    rw [List.append_assoc]
                    refine h.track _ _ ⟨hok, .inr ⟨_, _, _, ?_, hm⟩⟩
                    unfold rstep
                    rw [hr]
                    simp only
                    rw [if_neg h2, if_neg h1, if_neg h3, if_neg h4, htk]
                    simp only
                    rw [hdrop]
                  err := h.err
                  live := h.live
                  short := hlen }
              simp only
              split
              · refine ⟨fun o x' ht => ?_, fun x' ht => by cases ht⟩
                cases ht
                exact .inl ⟨t, rfl, hgo 0⟩
              · rename_i h5
                split
                · refine ⟨fun o x' ht => ?_, fun x' ht => by cases ht⟩
                  cases ht
                  refine .inr (.inr (.inr ⟨rfl, ⟨r, hrm, tok_some htk, ?_⟩, t, hgo _⟩))
                  have h6 : advR r x.pend = 0 := by
                    have : ¬ 0 < advR r x.pend := fun h => h5 (.inr h)
                    omega
                  unfold advR at h6
                  split at h6
                  · rename_i ha; exact .inl ha
                  · exact .inr h6
                · refine ⟨fun o x' ht => ?_, fun x' ht => by cases ht⟩
                  cases ht
                  exact .inl ⟨t, rfl, hgo _⟩
            | none =>
              simp only
              unfold Sm.after
              simp only
              by_cases h5 : x.err.isSome = true
              · rw [if_pos h5]
                have hl := hlast ts 0 (by rw [if_neg h2, if_neg h1, if_neg h3, if_neg h4, htk]; simp only; rw [if_pos h5])
                refine ⟨fun o x' ht => ?_, fun x' ht => by cases ht⟩
                cases ht
                refine .inr (.inr (.inl ⟨rfl, ?_⟩))
                show Track rs rep text 0 [] (x.sp.calls ++ [(x.pend, x.err.isSome)]) (ts, errN x.err, true)
                rw [hz]; exact hl
              · rw [if_neg h5]
                have hne : ¬ (x.pend.drop (advR r x.pend).toNat).length = lim := by
                  rw [List.length_append] at hlen; omega
                rw [if_neg hne]
                refine ⟨fun o x' ht => (by cases ht), fun x' ht => ?_⟩
                cases ht
                exact
                { track := fun more res hm => by
                    show Track rs rep text 0 [] ((x.sp.calls ++ [(x.pend, x.err.isSome)]) ++ more) res
                    rw [List.append_assoc]
                    refine h.track _ _ ⟨hok, .inr ⟨_, _, _, ?_, hm⟩⟩
                    unfold rstep
                    rw [hr]
                    simp only
                    rw [if_neg h2, if_neg h1, if_neg h3, if_neg h4, htk]
                    simp only
                    rw [if_neg h5, hdrop]
                  err := h.err
                  live := h.live
                  short := hlen }

theorem going_pre {x : Sm TS} {ts : List (List UInt8)} (h : Going rs rep lim text x ts) : (∀ o x', Sm.pre (splitTape rs rep) lim x = .inl (o, x') → Ends rs rep lim text ts o x') ∧ (∀ x', Sm.pre (splitTape rs rep) lim x = .inr x' → Going rs rep lim text x' ts) := by
  unfold Sm.pre
  split
  · rename_i hc
    exact going_took h hc
  · rename_i hc
    have hp : x.pend = [] := by
      cases hx : x.pend with
      | nil => rfl
      | cons a b => exact absurd (.inl (by rw [hx]; simp)) hc
    have he : x.err.isSome = false := by
      cases hx : x.err.isSome with
      | false => rfl
      | true => exact absurd (.inr hx) hc
    have hl := h.short
    unfold Sm.after
    rw [if_neg (by rw [he]; simp), if_neg (by rw [List.length_append] at hl; omega)]
    exact ⟨fun o x' ht => (by cases ht), fun x' ht => (by cases ht; exact h)⟩
theorem going_rd {x x' : Sm TS} {ts : List (List UInt8)} (h : Going rs rep lim text x ts) (hr : Sm.Rd lim tog 0 x x') : Going rs rep lim text x' ts := by
  rcases hr with ⟨h1, rfl⟩ | ⟨n, h1, h2, h3, rfl⟩
  · exact ⟨h.track, .inr ⟨rfl, h1⟩, h.live, h.short⟩
  · have e : (x.pend ++ x.rest.take n) ++ x.rest.drop n = x.pend ++ x.rest := by rw [List.append_assoc, List.take_append_drop]
    split
    · rename_i hb
      refine ⟨fun more res hm => h.track more res ?_, .inr ⟨rfl, ?_⟩, h.live, ?_⟩
      · rw [← e]; exact hm
      · have hn : n = x.rest.length := by simp at hb; exact hb.2
        show x.rest.drop n = []
        rw [hn, List.drop_length]
      · show ((x.pend ++ x.rest.take n) ++ x.rest.drop n).length < lim
        rw [e]; exact h.short
    · refine ⟨fun more res hm => h.track more res ?_, ?_, h.live, ?_⟩
      · rw [← e]; exact hm
      · rcases h.err with h4 | h4
        · exact .inl h4
        · rw [h4.2] at h2; simp at h2; omega
      · show ((x.pend ++ x.rest.take n) ++ x.rest.drop n).length < lim
        rw [e]; exact h.short
theorem going_loop : ∀ (k : Nat) {x : Sm TS} {ts : List (List UInt8)} {o : Out} {x' : Sm TS}, Going rs rep lim text x ts → Sm.LoopN (splitTape rs rep) lim tog 0 k x o x' → Ends rs rep lim text ts o x' := by
  intro k
  induction k with
  | zero => intro x ts o x' h hk; exact (going_pre h).1 _ _ hk
  | succ k ih =>
    rintro x ts o x' h ⟨x1, x2, h1, h2, h3⟩
    exact ih (going_rd ((going_pre h).2 _ h1) h2) h3
theorem going_scan {x : Sm TS} {ts : List (List UInt8)} {o : Out} {x' : Sm TS} (h : Going rs rep lim text x ts) (hs : Sm.Scan (splitTape rs rep) lim tog 0 x o x') : Ends rs rep lim text ts o x' := by
  rcases hs with ⟨h1, _⟩ | ⟨_, k, hk⟩
  · rw [h.live] at h1; cases h1
  · exact going_loop k h hk

/-- THE PLAIN LAW OF A SCRIPT: what its calls tell is what came of scanning. -/
theorem script_run {x x' : Sm TS} {n : Nat} {ts : List (List UInt8)} {ended pan : Bool} (hp : x.pend = []) (hr : x.rest = text) (he : x.err = none) (hd : x.done = false) (hsp : x.sp = ⟨0, []⟩) (hl : text.length < lim)
    (h : RunsTo (splitTape rs rep) lim tog 0 x n ts x' ended pan) :
    ∃ tk e fin, Track rs rep text 0 [] x'.sp.calls (tk, e, fin) ∧ (pan = true → Empties rs ∧ e = 0 ∧ ts.length < n ∧ ended = false ∧ ∃ t, tk = ts ++ [t]) ∧ (pan = false → tk = ts ∧ ts.length ≤ n ∧ (ended = true → fin = true ∧ ts.length < n ∧ e = errN x'.err) ∧ (ended = false → ts.length = n ∧ errN x'.err = 0)) := by
  obtain ⟨x1, h1, h2⟩ := h
  have hJ := h1.inv (J := fun ts y => Going rs rep lim text y ts ∨ (y.done = true ∧ Track rs rep text 0 [] y.sp.calls (ts, 0, true) ∧ errN y.err = 0)) (.inl
    { track := fun more res hm => by rw [hp, hr, hsp, List.nil_append] at hm; rw [hsp]; exact hm
      err := .inl he
      live := hd
      short := by rw [hp, hr]; exact hl }) (by
    rintro ts y t y' (hj | ⟨hj, _⟩) hs
    · rcases going_scan hj hs with ⟨t', e, hg⟩ | ⟨t', e, hg⟩ | ⟨e, _⟩ | ⟨e, _⟩
      · cases e; exact .inl hg
      · cases e; exact .inr hg
      · cases e
      · cases e
    · have := (done_scan hj hs).1
      cases this)
  rcases h2 with ⟨h3, rfl, rfl, rfl⟩ | ⟨h3, hs, rfl, rfl⟩ | ⟨h3, hs, rfl, rfl⟩
  · rcases hJ with hj | ⟨_, hj, hz⟩
    · refine ⟨ts, 0, false, ?_, (fun h => by cases h), fun _ => ⟨rfl, by omega, (fun h => by cases h), fun _ => ⟨h3, ?_⟩⟩⟩
      · have := hj.track [] (ts, 0, false) rfl
        rwa [List.append_nil] at this
      · rcases hj.err with h4 | h4
        · rw [h4]; rfl
        · rw [h4.1]; rfl
    · exact ⟨ts, 0, true, hj, (fun h => by cases h), fun _ => ⟨rfl, by omega, (fun h => by cases h), fun _ => ⟨h3, hz⟩⟩⟩
  · rcases hJ with hj | ⟨hd1, hj, hz⟩
    · rcases going_scan hj hs with ⟨t', e, hg⟩ | ⟨t', e, hg⟩ | ⟨e, hg⟩ | ⟨e, _⟩
      · cases e
      · cases e
      · exact ⟨ts, _, true, hg, (fun h => by cases h), fun _ => ⟨rfl, by omega, fun _ => ⟨rfl, h3, rfl⟩, fun h => by cases h⟩⟩
      · cases e
    · obtain ⟨_, rfl⟩ := done_scan hd1 hs
      exact ⟨ts, 0, true, hj, (fun h => by cases h), fun _ => ⟨rfl, by omega, fun _ => ⟨rfl, h3, hz.symm⟩, fun h => by cases h⟩⟩
  · rcases hJ with hj | ⟨hd1, hj, hz⟩
    · rcases going_scan hj hs with ⟨t', e, hg⟩ | ⟨t', e, hg⟩ | ⟨e, hg⟩ | ⟨_, hem, t, hg⟩
      · cases e
      · cases e
      · cases e
      · refine ⟨ts ++ [t], 0, false, ?_, fun _ => ⟨hem, rfl, h3, rfl, t, rfl⟩, fun h => by cases h⟩
        have := hg.track [] (ts ++ [t], 0, false) rfl
        rwa [List.append_nil] at this
    · have := (done_scan hd1 hs).1
      cases this
end
end Go.Proofs.YtkclapimgmnldaaDoor

/-
  A split function by a rule, as a plain machine: the tokens of a whole text, and what scanning comes to. No program in sight.
-/
namespace Go.Proofs.YtkclapimgmnldaaDoor
set_option linter.unusedVariables false
set_option linter.unusedSimpArgs false
set_option maxRecDepth 20000

/-- a rule -/
structure Rl where
  brks : List Bool
  keep : Bool
  skip : Bool
  stop : Int
  fail : Int
def Rl.brk (u : Rl) (b : UInt8) : Bool := u.brks.getD b.toNat false
/-- the first thing that happens -/
inductive REv where
  | fail (r : List UInt8)
  | stop (cur r : List UInt8)
  | tok (t r : List UInt8)
  | over (cur : List UInt8)
def rEv (u : Rl) : List UInt8 → List UInt8 → REv
  | cur, [] => .over cur
  | cur, b :: r =>
    if (b.toNat : Int) = u.fail then .fail (b :: r)
    else if (b.toNat : Int) = u.stop then .stop cur (b :: r)
    else if u.brk b = false then rEv u (cur ++ [b]) r
    else if cur = [] ∧ u.skip = true then rEv u [] r
    else if u.keep = true then .tok (cur ++ [b]) r
    else .tok cur r
/-- what the split function answers, but for its calls -/
def ansR (u : Rl) (d : List UInt8) (eof : Bool) : Int × Option (List UInt8) × Nat :=
  match rEv u [] d with
  | .fail _ => (0, none, 2)
  | .stop cur r => ((d.length - r.length : Nat), if cur = [] then none else some cur, 1)
  | .tok t r => ((d.length - r.length : Nat), some t, 0)
  | .over cur => if eof = true ∧ cur ≠ [] then ((d.length : Nat), some cur, 0) else ((d.length - cur.length : Nat), none, 0)
abbrev RS := List (List UInt8 × Bool)
def splitRule (u : Rl) (x : RS) (d : List UInt8) (eof : Bool) : Ans RS := ⟨x ++ [(d, eof)], (ansR u d eof).1, (ansR u d eof).2.1, (ansR u d eof).2.2⟩
/-- the tokens of a whole text, and whether it fails -/
def toksR (u : Rl) : List UInt8 → List UInt8 → List (List UInt8) × Bool
  | cur, [] => (if cur = [] then [] else [cur], false)
  | cur, b :: r =>
    if (b.toNat : Int) = u.fail then ([], true)
    else if (b.toNat : Int) = u.stop then (if cur = [] then [] else [cur], false)
    else if u.brk b = false then toksR u (cur ++ [b]) r
    else if cur = [] ∧ u.skip = true then toksR u [] r
    else if u.keep = true then ((cur ++ [b]) :: (toksR u [] r).1, (toksR u [] r).2)
    else (cur :: (toksR u [] r).1, (toksR u [] r).2)
/-- what must be held at once has room -/
def fitsR (u : Rl) (lim : Nat) : List UInt8 → List UInt8 → Prop
  | cur, [] => cur.length < lim
  | cur, b :: r =>
    if (b.toNat : Int) = u.fail then cur.length < lim
    else if (b.toNat : Int) = u.stop then cur.length < lim
    else if u.brk b = false then fitsR u lim (cur ++ [b]) r
    else if cur = [] ∧ u.skip = true then fitsR u lim [] r
    else cur.length < lim ∧ fitsR u lim [] r

section
variable {u : Rl}
theorem rEv_append : ∀ (l1 l2 cur : List UInt8), rEv u cur (l1 ++ l2) = match rEv u cur l1 with
    | .fail r => .fail (r ++ l2) | .stop c r => .stop c (r ++ l2) | .tok t r => .tok t (r ++ l2) | .over c => rEv u c l2 := by
  intro l1
  induction l1 with
  | nil => intro l2 cur; rfl
  | cons b r ih =>
    intro l2 cur
    simp only [List.cons_append, rEv]
    split
    · rfl
    · split
      · rfl
      · split
        · exact ih l2 _
        · split
          · exact ih l2 _
          · split <;> rfl
theorem toksR_ev : ∀ (l cur : List UInt8), toksR u cur l = match rEv u cur l with
    | .fail _ => ([], true) | .stop c _ => (if c = [] then [] else [c], false) | .tok t r => (t :: (toksR u [] r).1, (toksR u [] r).2) | .over c => (if c = [] then [] else [c], false) := by
  intro l
  induction l with
  | nil => intro cur; rfl
  | cons b r ih =>
    intro cur
    simp only [toksR, rEv]
    split
    · rfl
    · split
      · rfl
      · split
        · exact ih _
        · split
          · exact ih _
          · split <;> rfl
theorem toksR_over : ∀ (l1 l2 cur c : List UInt8), rEv u cur l1 = .over c → toksR u cur (l1 ++ l2) = toksR u c l2 := by
  intro l1 l2 cur c h
  rw [toksR_ev (l1 ++ l2), rEv_append, h, toksR_ev l2]
theorem fitsR_over {lim : Nat} : ∀ (l1 l2 cur c : List UInt8), rEv u cur l1 = .over c → fitsR u lim cur (l1 ++ l2) → fitsR u lim c l2 := by
  intro l1
  induction l1 with
  | nil => intro l2 cur c h hf; cases h; exact hf
  | cons b r ih =>
    intro l2 cur c h hf
    simp only [List.cons_append, rEv, fitsR] at h hf
    split at h
    · cases h
    · rename_i h1
      rw [if_neg h1] at hf
      split at h
      · cases h
      · rename_i h2
        rw [if_neg h2] at hf
        split at h
        · rename_i h3
          rw [if_pos h3] at hf
          exact ih _ _ _ h hf
        · rename_i h3
          rw [if_neg h3] at hf
          split at h
          · rename_i h4
            rw [if_pos h4] at hf
            exact ih _ _ _ h hf
          · split at h <;> cases h
theorem fitsR_back {lim : Nat} : ∀ (l1 l2 cur c : List UInt8), rEv u cur l1 = .over c → fitsR u lim c l2 → fitsR u lim cur (l1 ++ l2) := by
  intro l1
  induction l1 with
  | nil => intro l2 cur c h hf; cases h; exact hf
  | cons b r ih =>
    intro l2 cur c h hf
    simp only [List.cons_append, rEv, fitsR] at h ⊢
    split at h
    · cases h
    · rename_i h1
      rw [if_neg h1]
      split at h
      · cases h
      · rename_i h2
        rw [if_neg h2]
        split at h
        · rename_i h3
          rw [if_pos h3]
          exact ih _ _ _ h hf
        · rename_i h3
          rw [if_neg h3]
          split at h
          · rename_i h4
            rw [if_pos h4]
            exact ih _ _ _ h hf
          · split at h <;> cases h
theorem fitsR_cur {lim : Nat} : ∀ (l cur : List UInt8), fitsR u lim cur l → 0 < lim → cur.length < lim := by
  intro l
  induction l with
  | nil => intro cur h _; exact h
  | cons b r ih =>
    intro cur h hl
    simp only [fitsR] at h
    split at h
    · exact h
    · split at h
      · exact h
      · split at h
        · have := ih _ h hl
          rw [List.length_append] at this
          simp at this
          omega
        · split at h
          · rename_i h4
            rw [h4.1]; exact hl
          · exact h.1
theorem over_self : ∀ (l cur c : List UInt8), rEv u cur l = .over c → rEv u [] cur = .over cur → rEv u [] c = .over c := by
  intro l
  induction l with
  | nil => intro cur c h hc; cases h; exact hc
  | cons b r ih =>
    intro cur c h hc
    simp only [rEv] at h
    split at h
    · cases h
    · rename_i h1
      split at h
      · cases h
      · rename_i h2
        split at h
        · rename_i h3
          refine ih _ _ h ?_
          rw [rEv_append, hc]
          simp only [rEv]
          rw [if_neg h1, if_neg h2, if_pos h3]
        · split at h
          · exact ih _ _ h rfl
          · split at h <;> cases h
theorem over_suffix : ∀ (l cur c : List UInt8), rEv u cur l = .over c → ∃ p, cur ++ l = p ++ c := by
  intro l
  induction l with
  | nil => intro cur c h; cases h; exact ⟨[], by simp⟩
  | cons b r ih =>
    intro cur c h
    simp only [rEv] at h
    split at h
    · cases h
    · split at h
      · cases h
      · split at h
        · obtain ⟨p, hp⟩ := ih _ _ h
          exact ⟨p, by rw [← hp]; simp⟩
        · split at h
          · rename_i h4
            obtain ⟨p, hp⟩ := ih _ _ h
            refine ⟨b :: p, ?_⟩
            rw [h4.1, List.cons_append, ← hp]; rfl
          · split at h <;> cases h
theorem tok_rest : ∀ (l cur t r : List UInt8), rEv u cur l = .tok t r → ∃ p, l = p ++ r ∧ p ≠ [] := by
  intro l
  induction l with
  | nil => intro cur t r h; cases h
  | cons b l ih =>
    intro cur t r h
    simp only [rEv] at h
    split at h
    · cases h
    · split at h
      · cases h
      · split at h
        · obtain ⟨p, hp, _⟩ := ih _ _ _ h
          exact ⟨b :: p, by rw [hp]; rfl, by simp⟩
        · split at h
          · obtain ⟨p, hp, _⟩ := ih _ _ _ h
            exact ⟨b :: p, by rw [hp]; rfl, by simp⟩
          · split at h
            · cases h; exact ⟨[b], rfl, by simp⟩
            · cases h; exact ⟨[b], rfl, by simp⟩
theorem fitsR_tok {lim : Nat} : ∀ (l cur t r l2 : List UInt8), rEv u cur l = .tok t r → fitsR u lim cur (l ++ l2) → fitsR u lim [] (r ++ l2) := by
  intro l
  induction l with
  | nil => intro cur t r l2 h; cases h
  | cons b l ih =>
    intro cur t r l2 h hf
    simp only [List.cons_append, rEv, fitsR] at h hf
    split at h
    · cases h
    · rename_i h1
      rw [if_neg h1] at hf
      split at h
      · cases h
      · rename_i h2
        rw [if_neg h2] at hf
        split at h
        · rename_i h3
          rw [if_pos h3] at hf
          exact ih _ _ _ _ h hf
        · rename_i h3
          rw [if_neg h3] at hf
          split at h
          · rename_i h4
            rw [if_pos h4] at hf
            exact ih _ _ _ _ h hf
          · rename_i h4
            rw [if_neg h4] at hf
            split at h <;> (cases h; exact hf.2)

/- the answer, from where the walk of the data stands -/
theorem rEv_fail {cur r : List UInt8} {b : UInt8} (h : (b.toNat : Int) = u.fail) : rEv u cur (b :: r) = .fail (b :: r) := by simp only [rEv]; rw [if_pos h]
theorem rEv_stop {cur r : List UInt8} {b : UInt8} (h1 : ¬ (b.toNat : Int) = u.fail) (h : (b.toNat : Int) = u.stop) : rEv u cur (b :: r) = .stop cur (b :: r) := by simp only [rEv]; rw [if_neg h1, if_pos h]
theorem rEv_more {cur r : List UInt8} {b : UInt8} (h1 : ¬ (b.toNat : Int) = u.fail) (h2 : ¬ (b.toNat : Int) = u.stop) (h : u.brk b = false) : rEv u cur (b :: r) = rEv u (cur ++ [b]) r := by simp only [rEv]; rw [if_neg h1, if_neg h2, if_pos h]
theorem rEv_skip {r : List UInt8} {b : UInt8} (h1 : ¬ (b.toNat : Int) = u.fail) (h2 : ¬ (b.toNat : Int) = u.stop) (h3 : ¬ u.brk b = false) (h : u.skip = true) : rEv u [] (b :: r) = rEv u [] r := by simp only [rEv]; rw [if_neg h1, if_neg h2, if_neg h3, if_pos ⟨trivial, h⟩]
theorem rEv_keep {cur r : List UInt8} {b : UInt8} (h1 : ¬ (b.toNat : Int) = u.fail) (h2 : ¬ (b.toNat : Int) = u.stop) (h3 : ¬ u.brk b = false) (h4 : ¬ (cur = [] ∧ u.skip = true)) (h : u.keep = true) : rEv u cur (b :: r) = .tok (cur ++ [b]) r := by simp only [rEv]; rw [if_neg h1, if_neg h2, if_neg h3, if_neg h4, if_pos h]
theorem rEv_cut {cur r : List UInt8} {b : UInt8} (h1 : ¬ (b.toNat : Int) = u.fail) (h2 : ¬ (b.toNat : Int) = u.stop) (h3 : ¬ u.brk b = false) (h4 : ¬ (cur = [] ∧ u.skip = true)) (h : u.keep = false) : rEv u cur (b :: r) = .tok cur r := by simp only [rEv]; rw [if_neg h1, if_neg h2, if_neg h3, if_neg h4, if_neg (by rw [h]; simp)]
theorem ans_fail {d r : List UInt8} {eof : Bool} (h : rEv u [] d = .fail r) : ansR u d eof = (0, none, 2) := by unfold ansR; rw [h]
theorem ans_stop {d c r : List UInt8} {eof : Bool} (h : rEv u [] d = .stop c r) : ansR u d eof = (((d.length - r.length : Nat) : Int), if c = [] then none else some c, 1) := by unfold ansR; rw [h]
theorem ans_tok {d t r : List UInt8} {eof : Bool} (h : rEv u [] d = .tok t r) : ansR u d eof = (((d.length - r.length : Nat) : Int), some t, 0) := by unfold ansR; rw [h]
theorem ans_over1 {d c : List UInt8} (h : rEv u [] d = .over c) (hc : c ≠ []) : ansR u d true = (((d.length : Nat) : Int), some c, 0) := by unfold ansR; rw [h]; simp only; rw [if_pos ⟨trivial, hc⟩]
theorem ans_over0 {d c : List UInt8} {eof : Bool} (h : rEv u [] d = .over c) (hc : eof = false ∨ c = []) : ansR u d eof = (((d.length - c.length : Nat) : Int), none, 0) := by
  unfold ansR; rw [h]; simp only
  rw [if_neg]
  rintro ⟨h1, h2⟩
  rcases hc with h3 | h3
  · rw [h3] at h1; cases h1
  · exact h2 h3
theorem cur_more {d : List UInt8} {k f : Nat} {b : UInt8} (hb : d[k]? = some b) (hf : f ≤ k) : (d.take k).drop f ++ [b] = (d.take (k + 1)).drop f := by
  have hk := (List.getElem?_eq_some_iff.1 hb).1
  rw [List.take_add_one, hb]
  simp only [Option.toList_some]
  rw [List.drop_append_of_le_length (by simp; omega)]
theorem cur_nil {d : List UInt8} {k f : Nat} (hf : f ≤ k) (hk : k ≤ d.length) : (d.take k).drop f = [] ↔ k = f := by
  constructor
  · intro h
    have := congrArg List.length h
    simp at this
    omega
  · rintro rfl
    apply List.drop_eq_nil_of_le
    simp
    omega

/-- scanning goes on -/
structure RGo (u : Rl) (lim endE : Nat) (all : List (List UInt8) × Bool) (x : Sm RS) (ts : List (List UInt8)) : Prop where
  toks : (ts ++ (toksR u [] (x.pend ++ x.rest)).1, (toksR u [] (x.pend ++ x.rest)).2) = all
  fits : fitsR u lim [] (x.pend ++ x.rest)
  err : x.err = none ∨ (x.err = some endE ∧ x.rest = [])
  live : x.done = false
/-- it has ended -/
def REnd (endE : Nat) (all : List (List UInt8) × Bool) (ts : List (List UInt8)) (x : Sm RS) : Prop :=
  ts = all.1 ∧ (x.err = none ∨ x.err = some endE ∨ x.err = some 4) ∧ (endE = 0 → (all.2 = true ∧ x.err = some 4) ∨ (all.2 = false ∧ (x.err = none ∨ x.err = some endE)))
/-- what an end of one round is -/
def REnds (u : Rl) (lim endE : Nat) (all : List (List UInt8) × Bool) (m : Nat) (ts : List (List UInt8)) (o : Out) (x' : Sm RS) : Prop :=
  (∃ t, o = some (some t) ∧ RGo u lim endE all x' (ts ++ [t]) ∧ (x'.pend ++ x'.rest).length < m) ∨ (∃ t, o = some (some t) ∧ x'.done = true ∧ REnd endE all (ts ++ [t]) x') ∨ (o = some none ∧ REnd endE all ts x')

variable {lim endE : Nat} {all : List (List UInt8) × Bool} {tog : Bool}
theorem rgo_took (hl : 0 < lim) {x : Sm RS} {ts : List (List UInt8)} (h : RGo u lim endE all x ts) (hcall : x.pend ≠ [] ∨ x.err.isSome) :
    (∀ o x', Sm.took lim x (splitRule u x.sp x.pend x.err.isSome) = .inl (o, x') → REnds u lim endE all (x.pend ++ x.rest).length ts o x') ∧
    (∀ x', Sm.took lim x (splitRule u x.sp x.pend x.err.isSome) = .inr x' → RGo u lim endE all x' ts ∧ (x'.pend ++ x'.rest).length ≤ (x.pend ++ x.rest).length ∧ x'.err = none) := by
  have htk := h.toks
  have hee : x.err = none ∨ x.err = some endE := by
    rcases h.err with h1 | h1
    · exact .inl h1
    · exact .inr h1.1
  have he3 : x.err = none ∨ x.err = some endE ∨ x.err = some 4 := by
    rcases hee with h1 | h1
    · exact .inl h1
    · exact .inr (.inl h1)
  rw [toksR_ev, rEv_append] at htk
  unfold splitRule Sm.took
  cases hev : rEv u [] x.pend with
  | fail r =>
    rw [hev] at htk
    have hA : ansR u x.pend x.err.isSome = (0, none, 2) := by unfold ansR; rw [hev]
    rw [hA]
    simp only at htk ⊢
    rw [if_neg (by omega), if_pos trivial]
    refine ⟨fun o x' ht => ?_, fun x' ht => (by cases ht)⟩
    cases ht
    have hset : ∀ y : Sm RS, (y.err = none ∨ y.err = some endE) → ((y.setErr 4).err = none ∨ (y.setErr 4).err = some endE ∨ (y.setErr 4).err = some 4) ∧ (endE = 0 → (y.setErr 4).err = some 4) := by
      intro y hy
      unfold Sm.setErr
      split
      · exact ⟨.inr (.inr rfl), fun _ => rfl⟩
      · rename_i hne
        rcases hy with h1 | h1
        · exact absurd (.inl h1) hne
        · refine ⟨.inr (.inl h1), fun hz => ?_⟩
          rw [hz] at h1
          exact absurd (.inr h1) hne
    have hs2 := hset { x with sp := x.sp ++ [(x.pend, x.err.isSome)] } hee
    exact .inr (.inr ⟨rfl, by rw [← htk]; simp, hs2.1, fun hz => .inl ⟨by rw [← htk], hs2.2 hz⟩⟩)
  | stop c r =>
    rw [hev] at htk
    have hA : ansR u x.pend x.err.isSome = (((x.pend.length - r.length : Nat) : Int), if c = [] then none else some c, 1) := by unfold ansR; rw [hev]
    rw [hA]
    simp only at htk ⊢
    rw [if_pos trivial]
    by_cases hc : c = []
    · rw [if_pos hc] at htk ⊢
      refine ⟨fun o x' ht => ?_, fun x' ht => (by cases ht)⟩
      cases ht
      exact .inr (.inr ⟨rfl, by rw [← htk]; simp, he3, fun _ => .inr ⟨by rw [← htk], hee⟩⟩)
    · rw [if_neg hc] at htk ⊢
      refine ⟨fun o x' ht => ?_, fun x' ht => (by cases ht)⟩
      cases ht
      exact .inr (.inl ⟨c, rfl, rfl, by rw [← htk], he3, fun _ => .inr ⟨by rw [← htk], hee⟩⟩)
  | tok t r =>
    rw [hev] at htk
    have hA : ansR u x.pend x.err.isSome = (((x.pend.length - r.length : Nat) : Int), some t, 0) := by unfold ansR; rw [hev]
    rw [hA]
    simp only at htk ⊢
    obtain ⟨p, hp, hpn⟩ := tok_rest _ _ _ _ hev
    have hpl := List.length_pos_iff.2 hpn
    have hpd : x.pend.drop (x.pend.length - r.length) = r := by
      rw [hp, List.length_append, Nat.add_sub_cancel, List.drop_left]
    have hlen : x.pend.length = p.length + r.length := by rw [hp, List.length_append]
    rw [if_neg (by omega), if_neg (by omega), if_neg (by omega), if_neg (by omega), if_pos (.inr (by omega)), Int.toNat_natCast, hpd]
    refine ⟨fun o x' ht => ?_, fun x' ht => (by cases ht)⟩
    cases ht
    refine .inl ⟨t, rfl, ⟨?_, ?_, h.err, h.live⟩, ?_⟩
    · rw [← htk]; simp
    · exact fitsR_tok _ _ _ _ _ hev h.fits
    · show (r ++ x.rest).length < _
      rw [List.length_append, List.length_append]; omega
  | over c =>
    rw [hev] at htk
    simp only at htk
    obtain ⟨p, hp⟩ := over_suffix _ _ _ hev
    rw [List.nil_append] at hp
    have hpd : x.pend.drop (x.pend.length - c.length) = c := by
      rw [hp, List.length_append, Nat.add_sub_cancel, List.drop_left]
    have hlen : x.pend.length = p.length + c.length := by rw [hp, List.length_append]
    have hself := over_self _ _ _ hev rfl
    by_cases heof : x.err.isSome = true
    · have hrest : x.rest = [] := by
        rcases h.err with h1 | h1
        · rw [h1] at heof; cases heof
        · exact h1.2
      by_cases hc : c = []
      · have hA : ansR u x.pend x.err.isSome = (((x.pend.length - c.length : Nat) : Int), none, 0) := by unfold ansR; rw [hev]; simp only; rw [if_neg (by simp [hc])]
        rw [hA]
        simp only
        rw [if_neg (by omega), if_neg (by omega), if_neg (by omega), if_neg (by omega), Int.toNat_natCast, hpd]
        unfold Sm.after
        simp only
        rw [if_pos heof]
        refine ⟨fun o x' ht => ?_, fun x' ht => (by cases ht)⟩
        cases ht
        rw [hrest] at htk
        simp only [rEv, hc, if_true] at htk
        exact .inr (.inr ⟨rfl, by rw [← htk]; simp, he3, fun _ => .inr ⟨by rw [← htk], hee⟩⟩)
      · have hA : ansR u x.pend x.err.isSome = (((x.pend.length : Nat) : Int), some c, 0) := by unfold ansR; rw [hev]; simp only; rw [if_pos ⟨heof, hc⟩]
        rw [hA]
        have hcl := List.length_pos_iff.2 hc
        simp only
        rw [if_neg (by omega), if_neg (by omega), if_neg (by omega), if_neg (by omega), if_pos (.inr (by omega)), Int.toNat_natCast]
        refine ⟨fun o x' ht => ?_, fun x' ht => (by cases ht)⟩
        cases ht
        rw [hrest] at htk
        simp only [rEv, if_neg hc] at htk
        refine .inl ⟨c, rfl, ⟨?_, ?_, h.err, h.live⟩, ?_⟩
        · rw [← htk]; simp [hrest, toksR]
        · simp [hrest, fitsR, hl]
        · simp [hrest]; omega
    · have hA : ansR u x.pend x.err.isSome = (((x.pend.length - c.length : Nat) : Int), none, 0) := by unfold ansR; rw [hev]; simp only; rw [if_neg (by simp [heof])]
      rw [hA]
      simp only
      rw [if_neg (by omega), if_neg (by omega), if_neg (by omega), if_neg (by omega), Int.toNat_natCast, hpd]
      unfold Sm.after
      simp only
      have hfit := fitsR_over _ _ _ _ hev h.fits
      have hcl := fitsR_cur _ _ hfit hl
      rw [if_neg heof, if_neg (by omega)]
      have hen : x.err = none := by
        cases hx : x.err with
        | none => rfl
        | some k => rw [hx] at heof; simp at heof
      refine ⟨fun o x' ht => (by cases ht), fun x' ht => ?_⟩
      cases ht
      refine ⟨⟨?_, ?_, h.err, h.live⟩, ?_, hen⟩
      · show (ts ++ (toksR u [] (c ++ x.rest)).1, (toksR u [] (c ++ x.rest)).2) = all
        rw [toksR_over _ _ _ _ hself, ← toksR_over _ _ _ _ hev]
        exact h.toks
      · exact fitsR_back _ _ _ _ hself hfit
      · show (c ++ x.rest).length ≤ _
        rw [List.length_append, List.length_append]; omega
theorem rgo_pre (hl : 0 < lim) {x : Sm RS} {ts : List (List UInt8)} (h : RGo u lim endE all x ts) :
    (∀ o x', Sm.pre (splitRule u) lim x = .inl (o, x') → REnds u lim endE all (x.pend ++ x.rest).length ts o x') ∧ (∀ x', Sm.pre (splitRule u) lim x = .inr x' → RGo u lim endE all x' ts ∧ (x'.pend ++ x'.rest).length ≤ (x.pend ++ x.rest).length ∧ x'.err = none) := by
  unfold Sm.pre
  split
  · rename_i hc
    exact rgo_took hl h hc
  · rename_i hc
    have hp : x.pend = [] := by
      cases hx : x.pend with
      | nil => rfl
      | cons a b => exact absurd (.inl (by rw [hx]; simp)) hc
    have he : x.err = none := by
      cases hx : x.err with
      | none => rfl
      | some k => exact absurd (.inr (by rw [hx]; rfl)) hc
    unfold Sm.after
    rw [if_neg (by rw [he]; simp), if_neg (by rw [hp]; simp; omega)]
    exact ⟨fun o x' ht => (by cases ht), fun x' ht => (by cases ht; exact ⟨h, Nat.le_refl _, he⟩)⟩
theorem rgo_rd {x x' : Sm RS} {ts : List (List UInt8)} (h : RGo u lim endE all x ts) (he : x.err = none) (hr : Sm.Rd lim tog endE x x') : RGo u lim endE all x' ts ∧ (x'.pend ++ x'.rest).length = (x.pend ++ x.rest).length := by
  rcases hr with ⟨h1, rfl⟩ | ⟨n, h1, h2, h3, rfl⟩
  · exact ⟨⟨h.toks, h.fits, .inr ⟨rfl, h1⟩, h.live⟩, rfl⟩
  · have e : (x.pend ++ x.rest.take n) ++ x.rest.drop n = x.pend ++ x.rest := by rw [List.append_assoc, List.take_append_drop]
    split
    · rename_i hb
      have hn : n = x.rest.length := by simp at hb; exact hb.2
      refine ⟨⟨?_, ?_, .inr ⟨rfl, ?_⟩, h.live⟩, ?_⟩
      · show (ts ++ (toksR u [] ((x.pend ++ x.rest.take n) ++ x.rest.drop n)).1, (toksR u [] ((x.pend ++ x.rest.take n) ++ x.rest.drop n)).2) = all
        rw [e]; exact h.toks
      · show fitsR u lim [] ((x.pend ++ x.rest.take n) ++ x.rest.drop n)
        rw [e]; exact h.fits
      · show x.rest.drop n = []
        rw [hn, List.drop_length]
      · show ((x.pend ++ x.rest.take n) ++ x.rest.drop n).length = _
        rw [e]
    · refine ⟨⟨?_, ?_, .inl he, h.live⟩, ?_⟩
      · show (ts ++ (toksR u [] ((x.pend ++ x.rest.take n) ++ x.rest.drop n)).1, (toksR u [] ((x.pend ++ x.rest.take n) ++ x.rest.drop n)).2) = all
        rw [e]; exact h.toks
      · show fitsR u lim [] ((x.pend ++ x.rest.take n) ++ x.rest.drop n)
        rw [e]; exact h.fits
      · show ((x.pend ++ x.rest.take n) ++ x.rest.drop n).length = _
        rw [e]
theorem REnds.mono {m m' : Nat} {ts : List (List UInt8)} {o : Out} {x' : Sm RS} (h : REnds u lim endE all m ts o x') (hm : m ≤ m') : REnds u lim endE all m' ts o x' := by
  rcases h with ⟨t, h1, h2, h3⟩ | h | h
  · exact .inl ⟨t, h1, h2, by omega⟩
  · exact .inr (.inl h)
  · exact .inr (.inr h)
theorem rgo_loop (hl : 0 < lim) : ∀ (k : Nat) {x : Sm RS} {ts : List (List UInt8)} {o : Out} {x' : Sm RS}, RGo u lim endE all x ts → Sm.LoopN (splitRule u) lim tog endE k x o x' → REnds u lim endE all (x.pend ++ x.rest).length ts o x' := by
  intro k
  induction k with
  | zero => intro x ts o x' h hk; exact (rgo_pre hl h).1 _ _ hk
  | succ k ih =>
    rintro x ts o x' h ⟨x1, x2, h1, h2, h3⟩
    obtain ⟨g1, g2, g3⟩ := (rgo_pre hl h).2 _ h1
    obtain ⟨g4, g5⟩ := rgo_rd g1 g3 h2
    exact (ih g4 h3).mono (by omega)
theorem rgo_scan (hl : 0 < lim) {x : Sm RS} {ts : List (List UInt8)} {o : Out} {x' : Sm RS} (h : RGo u lim endE all x ts) (hs : Sm.Scan (splitRule u) lim tog endE x o x') : REnds u lim endE all (x.pend ++ x.rest).length ts o x' := by
  rcases hs with ⟨h1, _⟩ | ⟨_, k, hk⟩
  · rw [h.live] at h1; cases h1
  · exact rgo_loop hl k h hk

/-- the calls followed: each is as the page tells -/
def TrackR (u : Rl) : List UInt8 → RS → Prop
  | rest, [] => True
  | rest, c :: cs => okC rest c ∧ TrackR u (if (ansR u c.1 c.2).2.2 = 0 then rest.drop (ansR u c.1 c.2).1.toNat else rest) cs
/-- scanning goes on, and the calls have been followed so far -/
structure RTr (u : Rl) (endE : Nat) (text : List UInt8) (x : Sm RS) : Prop where
  track : ∀ more, TrackR u (x.pend ++ x.rest) more → TrackR u text (x.sp ++ more)
  err : x.err = none ∨ (x.err = some endE ∧ x.rest = [])
theorem ansR_adv (d : List UInt8) (b : Bool) : 0 ≤ (ansR u d b).1 ∧ (ansR u d b).1 ≤ d.length := by
  unfold ansR
  cases rEv u [] d with
  | fail r => simp only; omega
  | stop c r => simp only; omega
  | tok t r => simp only; omega
  | over c =>
    simp only
    split <;> (simp only; omega)
variable {text : List UInt8}
/-- what an end of one round is, for the calls -/
def RTEnds (u : Rl) (endE : Nat) (text : List UInt8) (o : Out) (x' : Sm RS) : Prop := TrackR u text x'.sp ∧ x'.sp ≠ [] ∧ (∀ t, o = some (some t) → x'.done = true ∨ RTr u endE text x')
theorem rtr_took {x : Sm RS} (h : RTr u endE text x) (hcall : x.pend ≠ [] ∨ x.err.isSome) :
    (∀ o x', Sm.took lim x (splitRule u x.sp x.pend x.err.isSome) = .inl (o, x') → RTEnds u endE text o x') ∧ (∀ x', Sm.took lim x (splitRule u x.sp x.pend x.err.isSome) = .inr x' → RTr u endE text x') := by
  have hok : okC (x.pend ++ x.rest) (x.pend, x.err.isSome) := by
    refine ⟨by simp, by simp, fun he => ?_, fun he => ?_⟩
    · rcases h.err with h1 | h1
      · rw [h1] at he; cases he
      · simp [h1.2]
    · rcases hcall with h1 | h1
      · exact h1
      · have he' : x.err.isSome = false := he
        rw [he'] at h1; cases h1
  have hlast : TrackR u text (x.sp ++ [(x.pend, x.err.isSome)]) := h.track _ ⟨hok, trivial⟩
  have hne : x.sp ++ [(x.pend, x.err.isSome)] ≠ [] := by simp
  have hset : ∀ (y : Sm RS) (c : Nat), (y.setErr c).sp = y.sp := fun y c => by unfold Sm.setErr; split <;> rfl
  unfold splitRule Sm.took
  simp only
  cases hA : ansR u x.pend x.err.isSome with
  | mk adv r2 =>
    obtain ⟨tok, code⟩ := r2
    simp only
    split
    · split
      · refine ⟨fun o x' ht => ?_, fun x' ht => (by cases ht)⟩
        cases ht
        exact ⟨hlast, hne, fun _ _ => .inl rfl⟩
      · refine ⟨fun o x' ht => ?_, fun x' ht => (by cases ht)⟩
        cases ht
        exact ⟨hlast, hne, fun _ ht => by cases ht⟩
    · rename_i hc1
      split
      · refine ⟨fun o x' ht => ?_, fun x' ht => (by cases ht)⟩
        cases ht
        refine ⟨?_, ?_, fun _ ht => by cases ht⟩ <;> rw [hset]
        · exact hlast
        · exact hne
      · rename_i hc2
        split
        · refine ⟨fun o x' ht => ?_, fun x' ht => (by cases ht)⟩
          cases ht
          refine ⟨?_, ?_, fun _ ht => by cases ht⟩ <;> rw [hset]
          · exact hlast
          · exact hne
        · split
          · refine ⟨fun o x' ht => ?_, fun x' ht => (by cases ht)⟩
            cases ht
            refine ⟨?_, ?_, fun _ ht => by cases ht⟩ <;> rw [hset]
            · exact hlast
            · exact hne
          · rename_i hn1 hn2
            have hc0 : code = 0 := by
              have : (ansR u x.pend x.err.isSome).2.2 = 0 ∨ (ansR u x.pend x.err.isSome).2.2 = 1 ∨ (ansR u x.pend x.err.isSome).2.2 = 2 := by
                unfold ansR
                cases rEv u [] x.pend with
                | fail r => simp
                | stop c r => simp
                | tok t r => simp
                | over c => simp only; split <;> simp
              rw [hA] at this
              simp only at this
              omega
            have hdrop : (x.pend ++ x.rest).drop adv.toNat = x.pend.drop adv.toNat ++ x.rest := by
              rw [List.drop_append_of_le_length (by omega)]
            have hgo : ∀ emp, RTr u endE text { x with sp := x.sp ++ [(x.pend, x.err.isSome)], pend := x.pend.drop adv.toNat, emp := emp } := fun emp =>
              ⟨fun more hm => by
                show TrackR u text ((x.sp ++ [(x.pend, x.err.isSome)]) ++ more)
                rw [List.append_assoc]
                refine h.track _ ⟨hok, ?_⟩
                show TrackR u (if (ansR u x.pend x.err.isSome).2.2 = 0 then (x.pend ++ x.rest).drop (ansR u x.pend x.err.isSome).1.toNat else x.pend ++ x.rest) more
                rw [hA]
                simp only
                rw [if_pos hc0, hdrop]
                exact hm, h.err⟩
            split
            · split
              · refine ⟨fun o x' ht => ?_, fun x' ht => (by cases ht)⟩
                cases ht
                exact ⟨hlast, hne, fun _ _ => .inr (hgo 0)⟩
              · split
                · refine ⟨fun o x' ht => ?_, fun x' ht => (by cases ht)⟩
                  cases ht
                  exact ⟨hlast, hne, fun _ _ => .inr (hgo _)⟩
                · refine ⟨fun o x' ht => ?_, fun x' ht => (by cases ht)⟩
                  cases ht
                  exact ⟨hlast, hne, fun _ _ => .inr (hgo _)⟩
            · unfold Sm.after
              simp only
              split
              · refine ⟨fun o x' ht => ?_, fun x' ht => (by cases ht)⟩
                cases ht
                exact ⟨hlast, hne, fun _ ht => by cases ht⟩
              · split
                · refine ⟨fun o x' ht => ?_, fun x' ht => (by cases ht)⟩
                  cases ht
                  refine ⟨?_, ?_, fun _ ht => by cases ht⟩ <;> rw [hset]
                  · exact hlast
                  · exact hne
                · refine ⟨fun o x' ht => (by cases ht), fun x' ht => ?_⟩
                  cases ht
                  exact hgo _
theorem rtr_scan (hl : 0 < lim) {x : Sm RS} {o : Out} {x' : Sm RS} (h : RTr u endE text x) (hd : x.done = false) (hs : Sm.Scan (splitRule u) lim tog endE x o x') : RTEnds u endE text o x' := by
  rcases hs with ⟨h1, _⟩ | ⟨hd', k, hk⟩
  · rw [hd] at h1; cases h1
  · clear hd hd'
    revert x
    induction k with
    | zero =>
      intro x h hk
      have hk' : Sm.pre (splitRule u) lim x = .inl (o, x') := hk
      unfold Sm.pre at hk'
      split at hk'
      · rename_i hc
        exact (rtr_took h hc).1 _ _ hk'
      · rename_i hc
        have hp : x.pend = [] := by
          cases hx : x.pend with
          | nil => rfl
          | cons a b => exact absurd (.inl (by rw [hx]; simp)) hc
        have he : x.err = none := by
          cases hx : x.err with
          | none => rfl
          | some k => exact absurd (.inr (by rw [hx]; rfl)) hc
        unfold Sm.after at hk'
        rw [if_neg (by rw [he]; simp), if_neg (by rw [hp]; simp; omega)] at hk'
        cases hk'
    | succ k ih =>
      intro x h hk
      obtain ⟨x1, x2, h1, h2, h3⟩ := hk
      have g1 : RTr u endE text x1 := by
        unfold Sm.pre at h1
        split at h1
        · rename_i hc
          exact (rtr_took h hc).2 _ h1
        · unfold Sm.after at h1
          split at h1
          · cases h1
          · split at h1
            · cases h1
            · cases h1; exact h
      refine ih ?_ h3
      rcases h2 with ⟨h4, rfl⟩ | ⟨n, h4, h5, _, rfl⟩
      · exact ⟨g1.track, .inr ⟨rfl, h4⟩⟩
      · have e : (x1.pend ++ x1.rest.take n) ++ x1.rest.drop n = x1.pend ++ x1.rest := by rw [List.append_assoc, List.take_append_drop]
        split
        · rename_i hb
          have hn : n = x1.rest.length := by simp at hb; exact hb.2
          refine ⟨fun more hm => g1.track more ?_, .inr ⟨rfl, ?_⟩⟩
          · rw [← e]; exact hm
          · show x1.rest.drop n = []
            rw [hn, List.drop_length]
        · refine ⟨fun more hm => g1.track more ?_, ?_⟩
          · rw [← e]; exact hm
          · rcases g1.err with h6 | h6
            · exact .inl h6
            · rw [h6.2] at h5; simp at h5; omega
end
end Go.Proofs.YtkclapimgmnldaaDoor
