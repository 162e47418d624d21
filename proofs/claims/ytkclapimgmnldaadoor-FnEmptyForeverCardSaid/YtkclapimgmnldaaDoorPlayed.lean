/-
  A split function that answers by a script, as a plain machine: some calls of Scan, and what they come to. No program in sight.
-/
import Derived.Test.YtkclapimgmnldaaDoorModel
namespace Go.Proofs.YtkclapimgmnldaaDoor
set_option linter.unusedVariables false
set_option linter.unusedSimpArgs false
set_option maxRecDepth 20000

/-- a reply of a script -/
structure Rep where
  adv : Int
  all : Bool
  tok : Int
  frm : Int
  till : Int
  text : ByteArray
  err : Int
/-- place -/
def placeZ (k n : Int) : Int := (k.tmod (n + 1) + n + 1).tmod (n + 1)
/-- the token of a reply -/
def tokR (r : Rep) (d : List UInt8) : Option (List UInt8) :=
  if r.tok = 1 then some ((d.take (max (placeZ r.frm d.length) (placeZ r.till d.length)).toNat).drop (min (placeZ r.frm d.length) (placeZ r.till d.length)).toNat)
  else if r.tok = 2 then some r.text.data.toList
  else none
/-- the tape's own state: where it is, the calls so far -/
structure TS where
  pos : Nat
  calls : List (List UInt8 × Bool)
/-- where the tape goes on -/
def tpos (rs : List Rep) (rep : Bool) (p : Nat) : Nat := if p = rs.length ∧ rep = true then 0 else p
def codeR (e : Int) : Nat := if e = 1 then 1 else if e = 2 then 2 else 0
def splitTape (rs : List Rep) (rep : Bool) (x : TS) (d : List UInt8) (eof : Bool) : Ans TS :=
  match rs[tpos rs rep x.pos]? with
  | none => ⟨⟨tpos rs rep x.pos, x.calls ++ [(d, eof)]⟩, 0, none, 1⟩
  | some r => ⟨⟨tpos rs rep x.pos + 1, x.calls ++ [(d, eof)]⟩, if r.all then d.length else r.adv, tokR r d, codeR r.err⟩

section
variable {σ : Type}
/-- some calls of Scan that give tokens -/
inductive Scans (split : σ → List UInt8 → Bool → Ans σ) (lim : Nat) (tog : Bool) (endE : Nat) (x0 : Sm σ) : List (List UInt8) → Sm σ → Prop
  | nil : Scans split lim tog endE x0 [] x0
  | snoc (ts : List (List UInt8)) (x1 x2 : Sm σ) (t : List UInt8) : Scans split lim tog endE x0 ts x1 → Sm.Scan split lim tog endE x1 (some (some t)) x2 → Scans split lim tog endE x0 (ts ++ [t]) x2

/-- what at most n calls of Scan come to, up to the first that gives no token -/
def RunsTo (split : σ → List UInt8 → Bool → Ans σ) (lim : Nat) (tog : Bool) (endE : Nat) (x0 : Sm σ) (n : Nat) (ts : List (List UInt8)) (x' : Sm σ) (ended pan : Bool) : Prop :=
  ∃ x1, Scans split lim tog endE x0 ts x1 ∧ ((ts.length = n ∧ x' = x1 ∧ ended = false ∧ pan = false) ∨ (ts.length < n ∧ Sm.Scan split lim tog endE x1 (some none) x' ∧ ended = true ∧ pan = false) ∨ (ts.length < n ∧ Sm.Scan split lim tog endE x1 none x' ∧ ended = false ∧ pan = true))

/-- a property that each call of Scan keeps -/
theorem Scans.inv {split : σ → List UInt8 → Bool → Ans σ} {lim : Nat} {tog : Bool} {endE : Nat} {x0 : Sm σ} (J : List (List UInt8) → Sm σ → Prop) (h0 : J [] x0) (hs : ∀ ts x t x', J ts x → Sm.Scan split lim tog endE x (some (some t)) x' → J (ts ++ [t]) x') {ts : List (List UInt8)} {x : Sm σ} (h : Scans split lim tog endE x0 ts x) : J ts x := by
  induction h with
  | nil => exact h0
  | snoc ts x1 x2 t _ h2 ih => exact hs ts x1 t x2 ih h2

/-- each answer is final: the first call of Scan gives its token, and it is done -/
theorem first_final {split : σ → List UInt8 → Bool → Ans σ} {lim : Nat} {tog : Bool} {endE : Nat} {x x' : Sm σ} {o : Out} {tk : Option (List UInt8)} (hc : ∀ x d b, (split x d b).code = 1 ∧ (split x d b).tok = tk) (hl : 0 < lim) (hp : x.pend = []) (hr : x.rest ≠ []) (he : x.err = none) (hd : x.done = false)
    (h : Sm.Scan split lim tog endE x o x') : o = some tk ∧ x'.done = true ∧ (x'.err = none ∨ x'.err = some endE) := by
  rcases h with ⟨h1, _⟩ | ⟨_, k, h⟩
  · rw [hd] at h1; cases h1
  have hpre : Sm.pre split lim x = .inr x := by
    unfold Sm.pre Sm.after
    rw [hp, he]
    simp
    omega
  cases k with
  | zero =>
    have h' : Sm.pre split lim x = .inl (o, x') := h
    rw [hpre] at h'; cases h'
  | succ k =>
    obtain ⟨s1, s2, h1, h2, h3⟩ := h
    rw [hpre] at h1
    cases h1
    have hs2 : s2.pend ≠ [] ∧ (s2.err = none ∨ s2.err = some endE) := by
      rcases h2 with ⟨h4, _⟩ | ⟨n, h4, h5, _, rfl⟩
      · exact absurd h4 hr
      · have hne : x.pend ++ x.rest.take n ≠ [] := by
          rw [hp, List.nil_append]
          intro e
          have := congrArg List.length e
          rw [List.length_take, List.length_nil] at this
          omega
        split
        · exact ⟨hne, .inr rfl⟩
        · exact ⟨hne, .inl he⟩
    have hpre2 : Sm.pre split lim s2 = .inl (some tk, { s2 with done := true, sp := (split s2.sp s2.pend s2.err.isSome).sp }) := by
      unfold Sm.pre
      rw [if_pos (.inl hs2.1)]
      unfold Sm.took
      rw [if_pos (hc _ _ _).1, (hc _ _ _).2]
      cases tk <;> rfl
    cases k with
    | zero =>
      have h' : Sm.pre split lim s2 = .inl (o, x') := h3
      rw [hpre2] at h'
      cases h'
      exact ⟨rfl, rfl, hs2.2⟩
    | succ k =>
      obtain ⟨_, _, h4, _⟩ := h3
      rw [hpre2] at h4; cases h4
theorem done_scan {split : σ → List UInt8 → Bool → Ans σ} {lim : Nat} {tog : Bool} {endE : Nat} {x x' : Sm σ} {o : Out} (hd : x.done = true) (h : Sm.Scan split lim tog endE x o x') : o = some none ∧ x' = x := by
  rcases h with ⟨_, h1, h2⟩ | ⟨h1, _⟩
  · exact ⟨h1, h2⟩
  · rw [hd] at h1; cases h1

/-- what a run comes to where each answer is final -/
theorem final_run {split : σ → List UInt8 → Bool → Ans σ} {lim : Nat} {tog : Bool} {endE : Nat} {x x' : Sm σ} {n : Nat} {ts : List (List UInt8)} {ended pan : Bool} {tk : Option (List UInt8)} (hc : ∀ x d b, (split x d b).code = 1 ∧ (split x d b).tok = tk) (hl : 0 < lim) (hp : x.pend = []) (hr : x.rest ≠ []) (he : x.err = none) (hd : x.done = false)
    (hn : tk.toList.length < n) (h : RunsTo split lim tog endE x n ts x' ended pan) : ts = tk.toList ∧ ended = true ∧ pan = false ∧ (x'.err = none ∨ x'.err = some endE) := by
  obtain ⟨x1, h1, h2⟩ := h
  have hJ : (ts = [] ∧ x1 = x) ∨ (∃ t, tk = some t ∧ ts = [t] ∧ x1.done = true ∧ (x1.err = none ∨ x1.err = some endE)) := by
    refine h1.inv (J := fun ts x1 => (ts = [] ∧ x1 = x) ∨ (∃ t, tk = some t ∧ ts = [t] ∧ x1.done = true ∧ (x1.err = none ∨ x1.err = some endE))) (.inl ⟨rfl, rfl⟩) ?_
    rintro ts y t y' (⟨rfl, rfl⟩ | ⟨t', e, rfl, h3, h4⟩) hs
    · obtain ⟨e1, e2, e3⟩ := first_final hc hl hp hr he hd hs
      exact .inr ⟨t, (Option.some.inj e1).symm, rfl, e2, e3⟩
    · have := (done_scan h3 hs).1
      cases this
  rcases hJ with ⟨rfl, rfl⟩ | ⟨t, rfl, rfl, hx, hxe⟩
  · rcases h2 with ⟨h3, rfl, rfl, rfl⟩ | ⟨h3, hs, rfl, rfl⟩ | ⟨h3, hs, rfl, rfl⟩
    · simp at h3; omega
    · obtain ⟨e1, e2, e3⟩ := first_final hc hl hp hr he hd hs
      obtain rfl := Option.some.inj e1
      exact ⟨rfl, rfl, rfl, e3⟩
    · have := (first_final hc hl hp hr he hd hs).1
      cases this
  · rcases h2 with ⟨h3, rfl, rfl, rfl⟩ | ⟨h3, hs, rfl, rfl⟩ | ⟨h3, hs, rfl, rfl⟩
    · simp at h3 hn; omega
    · obtain ⟨_, rfl⟩ := done_scan hx hs
      exact ⟨rfl, rfl, rfl, hxe⟩
    · have := (done_scan hx hs).1
      cases this

/-- a call of Scan behind the end of the input, or at an empty input: one answer -/
theorem scan_end {split : σ → List UInt8 → Bool → Ans σ} {lim : Nat} {tog : Bool} {endE : Nat} {x x' : Sm σ} {o : Out} (hl : 0 < lim) (hp : x.pend = []) (hr : x.rest = []) (he : x.err = none ∨ x.err = some endE) (hd : x.done = false)
    (hi : ∀ y, Sm.took lim { x with err := some endE } (split x.sp [] true) = .inr y → False) (h : Sm.Scan split lim tog endE x o x') : Sm.took lim { x with err := some endE } (split x.sp [] true) = .inl (o, x') := by
  rcases h with ⟨h1, _⟩ | ⟨_, k, h⟩
  · rw [hd] at h1; cases h1
  have key : ∀ k y, y.pend = [] → y.err = some endE → y.sp = x.sp → y = { x with err := some endE } → Sm.LoopN split lim tog endE k y o x' → Sm.took lim { x with err := some endE } (split x.sp [] true) = .inl (o, x') := by
    intro k y hp1 he1 hs1 hy hk
    have hpre : Sm.pre split lim y = Sm.took lim { x with err := some endE } (split x.sp [] true) := by
      unfold Sm.pre
      rw [if_pos (.inr (by rw [he1]; rfl)), hp1, he1, hs1, hy]
      rfl
    cases k with
    | zero =>
      have h' : Sm.pre split lim y = .inl (o, x') := hk
      rw [← hpre]; exact h'
    | succ k =>
      obtain ⟨s1, s2, h1, h2, h3⟩ := hk
      rw [hpre] at h1
      exact (hi _ h1).elim
  rcases he with he | he
  · have hpre : Sm.pre split lim x = .inr x := by
      unfold Sm.pre Sm.after
      rw [hp, he]
      simp
      omega
    cases k with
    | zero =>
      have h' : Sm.pre split lim x = .inl (o, x') := h
      rw [hpre] at h'; cases h'
    | succ k =>
      obtain ⟨s1, s2, h1, h2, h3⟩ := h
      rw [hpre] at h1
      cases h1
      rcases h2 with ⟨_, rfl⟩ | ⟨n, h4, h5, _, rfl⟩
      · exact key k { x with err := some endE } hp rfl rfl rfl h3
      · rw [hr] at h5; simp at h5; omega
  · refine key k x hp he rfl ?_ h
    cases x
    simp only at he
    subst he
    rfl
end

/-- empty tokens without end, at the end of an empty input: Scan panics -/
theorem empty_run {r : Rep} (ha : r.all = false) (h0 : r.adv = 0) (ht : r.tok = 2) (hx : r.text = ⟨#[]⟩) (hre : r.err = 0) {lim : Nat} (hl : 0 < lim) {tog : Bool} {endE : Nat} {x x' : Sm TS} (hp : x.pend = []) (hr : x.rest = []) (he : x.err = none) (hd : x.done = false) (hem : x.emp = 0) (hpos : x.sp.pos ≤ 1)
    {n : Nat} (hn : 1000 ≤ n) {ts : List (List UInt8)} {ended pan : Bool} (h : RunsTo (splitTape [r] true) lim tog endE x n ts x' ended pan) : pan = true ∧ ended = false ∧ ts.length < n := by
  have hsp : ∀ y : TS, y.pos ≤ 1 → ∃ y' : TS, y'.pos ≤ 1 ∧ splitTape [r] true y [] true = ⟨y', 0, some [], 0⟩ := by
    intro y hy
    have ht0 : tpos [r] true y.pos = 0 := by unfold tpos; simp; omega
    refine ⟨_, ?_, by unfold splitTape; rw [ht0]; simp [ha, h0, tokR, ht, hx, codeR, hre]; rfl⟩
    simp
  have step : ∀ (k : Nat) (y : Sm TS) (o : Out) (y' : Sm TS), (y.pend = [] ∧ y.rest = [] ∧ (y.err = none ∨ y.err = some endE) ∧ y.done = false ∧ y.sp.pos ≤ 1 ∧ y.emp = k) → Sm.Scan (splitTape [r] true) lim tog endE y o y' →
      (o = some (some []) ∧ k + 1 ≤ 100 ∧ (y'.pend = [] ∧ y'.rest = [] ∧ (y'.err = none ∨ y'.err = some endE) ∧ y'.done = false ∧ y'.sp.pos ≤ 1 ∧ y'.emp = k + 1)) ∨ o = none := by
    rintro k y o y' ⟨h1, h2, h3, h4, h5, h6⟩ hs
    obtain ⟨sp', hsp1, hsp2⟩ := hsp y.sp h5
    have htook : Sm.took lim { y with err := some endE } (splitTape [r] true y.sp [] true) = if 100 < k + 1 then .inl (none, { y with err := some endE, sp := sp', pend := [], emp := k + 1 }) else .inl (some (some []), { y with err := some endE, sp := sp', pend := [], emp := k + 1 }) := by
      rw [hsp2]
      unfold Sm.took
      simp [h1, h6]
    have := scan_end hl h1 h2 h3 h4 (fun z hz => by rw [htook] at hz; split at hz <;> cases hz) hs
    rw [htook] at this
    split at this
    · cases this; exact .inr rfl
    · cases this
      exact .inl ⟨rfl, by omega, rfl, h2, .inr rfl, h4, hsp1, rfl⟩
  obtain ⟨x1, h1, h2⟩ := h
  have hJ := h1.inv (J := fun ts y => ts.length ≤ 100 ∧ (y.pend = [] ∧ y.rest = [] ∧ (y.err = none ∨ y.err = some endE) ∧ y.done = false ∧ y.sp.pos ≤ 1 ∧ y.emp = ts.length)) ⟨by simp, hp, hr, .inl he, hd, hpos, hem⟩ (by
    rintro ts y t y' ⟨_, hj⟩ hs
    rcases step _ _ _ _ hj hs with ⟨_, h3, h4⟩ | h3
    · exact ⟨by simpa using h3, by simpa using h4⟩
    · cases h3)
  rcases h2 with ⟨h3, rfl, rfl, rfl⟩ | ⟨h3, hs, rfl, rfl⟩ | ⟨h3, hs, rfl, rfl⟩
  · have := hJ.1; omega
  · rcases step _ _ _ _ hJ.2 hs with ⟨h4, _⟩ | h4
    · cases h4
    · cases h4
  · exact ⟨rfl, rfl, h3⟩
end Go.Proofs.YtkclapimgmnldaaDoor
