/-
  The scanner as a plain machine: no program in sight. What one call of Scan does to what is pending, unread, and to the split function's own state; how much a read hands out is left open.
-/
import Derived.Test.YtkclapimgmnldaaDoorProg
import Derived.WalkKit
import Derived.WalkLawsBesides
import Derived.WalkSpells
import Derived.Lib.Hide
import Derived.LaidEql
import Derived.BigQuiet
import Derived.Deep.QuietTactic
import Derived.StillTailTactics
import Derived.Laws.CopyOwn
import Derived.Laws.EntriesVeiled
import Derived.Orders
import Derived.Laws.World
import Derived.Lib.BufferWrite
import Derived.Lib.MinMax
namespace Go.Proofs.YtkclapimgmnldaaDoor
set_option linter.unusedVariables false
set_option linter.unusedSimpArgs false
set_option maxRecDepth 20000

/-- The plain state of a scanner: what is in the buffer and not consumed, what the reader still has, the error (a code), the count of empty tokens, whether it is done, and the split function's own state. -/
structure Sm (σ : Type) where
  pend : List UInt8
  rest : List UInt8
  err : Option Nat
  emp : Nat
  done : Bool
  sp : σ

/-- What a split function answers: its state, the advance, the token if any, and 0 (no error), 1 (the final token) or 2 (its own error). -/
structure Ans (σ : Type) where
  sp : σ
  adv : Int
  tok : Option (List UInt8)
  code : Nat

/-- What a call of Scan comes to: false (some none), true with a token (some (some t)), or a panic (none). -/
abbrev Out : Type := Option (Option (List UInt8))

/- The codes of the errors. -/
abbrev cEOF : Nat := 0
abbrev cTooLong : Nat := 1
abbrev cNegative : Nat := 2
abbrev cFar : Nat := 3
abbrev cSplit : Nat := 4
abbrev cRead : Nat := 5
abbrev cFinal : Nat := 6

def Sm.setErr {σ : Type} (s : Sm σ) (c : Nat) : Sm σ :=
  if s.err = none ∨ s.err = some cEOF then { s with err := some c } else s

/-- What is left to do where the split function gave no token. -/
def Sm.after {σ : Type} (lim : Nat) (s : Sm σ) : (Out × Sm σ) ⊕ Sm σ :=
  if s.err.isSome then .inl (some none, { s with pend := [] })
  else if s.pend.length = lim then .inl (some none, s.setErr cTooLong)
  else .inr s

/-- What the split function's answer makes of the state. -/
def Sm.took {σ : Type} (lim : Nat) (s : Sm σ) (r : Ans σ) : (Out × Sm σ) ⊕ Sm σ :=
  if r.code = 1 then
    match r.tok with
    | some t => .inl (some (some t), { s with done := true, sp := r.sp })
    | none => .inl (some none, { s with done := true, sp := r.sp })
  else if r.code = 2 then .inl (some none, ({ s with sp := r.sp }).setErr cSplit)
  else if r.adv < 0 then .inl (some none, ({ s with sp := r.sp }).setErr cNegative)
  else if (s.pend.length : Int) < r.adv then .inl (some none, ({ s with sp := r.sp }).setErr cFar)
  else
    match r.tok with
    | some t =>
      if s.err = none ∨ 0 < r.adv then .inl (some (some t), { s with sp := r.sp, pend := s.pend.drop r.adv.toNat, emp := 0 })
      else if 100 < s.emp + 1 then .inl (none, { s with sp := r.sp, pend := s.pend.drop r.adv.toNat, emp := s.emp + 1 })
      else .inl (some (some t), { s with sp := r.sp, pend := s.pend.drop r.adv.toNat, emp := s.emp + 1 })
    | none => Sm.after lim { s with sp := r.sp, pend := s.pend.drop r.adv.toNat }

/-- One round of Scan's loop up to the read: it ends, or it must read. -/
def Sm.pre {σ : Type} (split : σ → List UInt8 → Bool → Ans σ) (lim : Nat) (s : Sm σ) : (Out × Sm σ) ⊕ Sm σ :=
  if s.pend ≠ [] ∨ s.err.isSome then Sm.took lim s (split s.sp s.pend s.err.isSome) else Sm.after lim s

/-- One read, for a reader that hands out at least one byte as long as there are any. -/
def Sm.Rd {σ : Type} (lim : Nat) (tog : Bool) (endE : Nat) (s s' : Sm σ) : Prop :=
  (s.rest = [] ∧ s' = { s with err := some endE }) ∨
  (∃ n, 1 ≤ n ∧ n ≤ s.rest.length ∧ s.pend.length + n ≤ lim ∧
    s' = if tog && n == s.rest.length then { s with pend := s.pend ++ s.rest.take n, rest := s.rest.drop n, err := some endE }
         else { s with pend := s.pend ++ s.rest.take n, rest := s.rest.drop n, emp := 0 })

/-- k reads and what comes of them. -/
def Sm.LoopN {σ : Type} (split : σ → List UInt8 → Bool → Ans σ) (lim : Nat) (tog : Bool) (endE : Nat) : Nat → Sm σ → Out → Sm σ → Prop
  | 0, s, o, s' => Sm.pre split lim s = .inl (o, s')
  | k + 1, s, o, s' => ∃ s1 s2, Sm.pre split lim s = .inr s1 ∧ Sm.Rd lim tog endE s1 s2 ∧ Sm.LoopN split lim tog endE k s2 o s'

/-- A call of Scan. -/
def Sm.Scan {σ : Type} (split : σ → List UInt8 → Bool → Ans σ) (lim : Nat) (tog : Bool) (endE : Nat) (s : Sm σ) (o : Out) (s' : Sm σ) : Prop :=
  (s.done = true ∧ o = some none ∧ s' = s) ∨ (s.done = false ∧ ∃ k, Sm.LoopN split lim tog endE k s o s')

/-- What the measure of the loop counts. -/
def Sm.left {σ : Type} (s : Sm σ) : Nat := s.rest.length + (if s.err.isSome then 0 else 1)

end Go.Proofs.YtkclapimgmnldaaDoor

/-
  Memory: what a slice of bytes reads as, which blocks a step may have turned, the errors that the program keeps, and the scanner's own state in memory.
-/
namespace Go.Proofs.YtkclapimgmnldaaDoor
set_option linter.unusedVariables false
set_option linter.unusedSimpArgs false
set_option maxRecDepth 20000
open Go.RowKit

/-- a byte as a value -/
abbrev bv (c : UInt8) : Value := .int .u8 (c.toNat : Int)

/-- Two worlds that differ in nothing but how often the tape was asked. -/
def Alk (w' w : World) : Prop := w'.heap = w.heap ∧ w'.os = w.os ∧ w'.output = w.output ∧ w'.tape = w.tape
theorem Alk.drewN (w : World) (n : Nat) : Alk (w.drewN n) w := ⟨rfl, rfl, rfl, rfl⟩

/-- Only the blocks of a list, and new ones, may have turned. -/
structure Off (own : List Nat) (w w' : World) : Prop where
  os : w'.os = w.os
  tape : w'.tape = w.tape
  output : w'.output = w.output
  size : w.heap.size ≤ w'.heap.size
  block : ∀ k, k < w.heap.size → k ∉ own → w'.heap[k]? = w.heap[k]?

/-- The blocks of the second list are of the first, or new. -/
def Fresh (own own' : List Nat) (w : World) : Prop := ∀ k, k ∈ own' → k ∈ own ∨ w.heap.size ≤ k

theorem Off.refl (own : List Nat) (w : World) : Off own w w := ⟨rfl, rfl, rfl, Nat.le_refl _, fun _ _ _ => rfl⟩
theorem Off.drewN {own : List Nat} {w w' : World} (h : Off own w w') (n : Nat) : Off own w (w'.drewN n) := ⟨h.os, h.tape, h.output, h.size, h.block⟩
theorem Off.drew {own : List Nat} {w w' : World} (h : Off own w w') : Off own w w'.drew := ⟨h.os, h.tape, h.output, h.size, h.block⟩
theorem Off.alk {own : List Nat} {w w' w2 : World} (h : Off own w w') (ha : Alk w2 w') : Off own w w2 :=
  ⟨ha.2.1.trans h.os, ha.2.2.2.trans h.tape, ha.2.2.1.trans h.output, by rw [ha.1]; exact h.size, fun k hk hn => by rw [ha.1]; exact h.block k hk hn⟩
theorem Off.mono {own own' : List Nat} {w w' : World} (h : Off own w w') (hs : ∀ k, k ∈ own → k ∈ own') : Off own' w w' :=
  ⟨h.os, h.tape, h.output, h.size, fun k hk hn => h.block k hk fun hm => hn (hs k hm)⟩
theorem Off.trans {own own' : List Nat} {a b c : World} (h : Off own a b) (k : Off own' b c) (hf : Fresh own own' a) : Off own a c :=
  ⟨k.os.trans h.os, k.tape.trans h.tape, k.output.trans h.output, Nat.le_trans h.size k.size, fun i hi hn =>
    (k.block i (Nat.lt_of_lt_of_le hi h.size) fun hm => by rcases hf i hm with h1 | h1; exact hn h1; omega).trans (h.block i hi hn)⟩
theorem Fresh.refl (own : List Nat) (w : World) : Fresh own own w := fun _ h => .inl h
theorem Fresh.trans {o1 o2 o3 : List Nat} {a b : World} (h : Fresh o1 o2 a) (k : Fresh o2 o3 b) (hs : a.heap.size ≤ b.heap.size) : Fresh o1 o3 a := fun x hx => by
  rcases k x hx with h1 | h1
  · exact h x h1
  · exact .inr (by omega)
theorem Off.setCell {own : List Nat} {w w' : World} (h : Off own w w') {p : Addr} (hp : p.block ∈ own) (u : Value) : Off own w (w'.setCell p u) :=
  h.trans (own' := own) ⟨rfl, rfl, rfl, by simp, fun k _ hn => Below.heap_setCell _ _ _ _ (fun e => hn (e ▸ hp))⟩ (Fresh.refl _ _)
theorem Off.alloc {own : List Nat} {w w' : World} (h : Off own w w') (o : Obj) : Off own w (w'.alloc o) :=
  h.trans (own' := own) ⟨rfl, rfl, rfl, by simp, fun k hk _ => Below.heap_alloc _ _ _ hk⟩ (Fresh.refl _ _)
theorem Off.setRow {own : List Nat} {w w' : World} (h : Off own w w') {g : Nat} (hp : g ∈ own) (cs : Array Value) : Off own w (w'.setRow g cs) :=
  h.trans (own' := own) ⟨rfl, rfl, rfl, by simp [World.setRow], fun k _ hn => setRow_other w' g k cs (fun e => hn (e ▸ hp))⟩ (Fresh.refl _ _)
theorem Off.below {own : List Nat} {w w' : World} (h : Off own w w') {B : Nat} (hB : B ≤ w.heap.size) (ho : ∀ k, k ∈ own → B ≤ k) : Below B w w' :=
  ⟨h.os, h.tape, h.output, h.size, fun k hk => h.block k (by omega) fun hm => by have := ho k hm; omega⟩
theorem Off.cell {own : List Nat} {w w' : World} (h : Off own w w') {p : Addr} (hs : p.block < w.heap.size) (hp : p.block ∉ own) : w'.cell? p = w.cell? p :=
  World.cell?_of_block (h.block p.block hs hp)

/-- A slice at an address reads as these bytes. -/
def Bytes8 (w : World) (a : Option Addr) (d : List UInt8) : Prop :=
  ∀ i c, d[i]? = some c → ∃ b o, a = some ⟨b, o, none⟩ ∧ w.cell? ⟨b, o + i, none⟩ = some (bv c)
theorem Bytes8.drewN {w : World} {a : Option Addr} {d : List UInt8} (h : Bytes8 w a d) (n : Nat) : Bytes8 (w.drewN n) a d := h
theorem Bytes8.nil (w : World) (a : Option Addr) : Bytes8 w a [] := fun i c h => by simp at h
theorem Bytes8.at {w : World} {b o : Nat} {d : List UInt8} (h : Bytes8 w (some ⟨b, o, none⟩) d) (i : Nat) (hi : i < d.length) : w.cell? ⟨b, o + i, none⟩ = some (bv d[i]) := by
  obtain ⟨b', o', e, hc⟩ := h i d[i] (List.getElem?_eq_getElem hi)
  simp at e
  obtain ⟨rfl, rfl⟩ := e
  exact hc
theorem Bytes8.form {w : World} {a : Option Addr} {d : List UInt8} (h : Bytes8 w a d) (hd : d ≠ []) : ∃ b o, a = some ⟨b, o, none⟩ := by
  cases d with
  | nil => exact absurd rfl hd
  | cons c r => obtain ⟨b, o, e, _⟩ := h 0 c rfl; exact ⟨b, o, e⟩
theorem Bytes8.part {w : World} {b o : Nat} {d : List UInt8} (h : Bytes8 w (some ⟨b, o, none⟩) d) (k n : Nat) : Bytes8 w (some ⟨b, o + k, none⟩) ((d.drop k).take n) := by
  intro i c hc
  refine ⟨b, o + k, rfl, ?_⟩
  have h1 : i < ((d.drop k).take n).length := by
    rcases Nat.lt_or_ge i ((d.drop k).take n).length with h1 | h1
    · exact h1
    · rw [List.getElem?_eq_none h1] at hc; cases hc
  simp only [List.length_take, List.length_drop] at h1
  have h2 : d[k + i]? = some c := by rw [List.getElem?_take_of_lt (by omega), List.getElem?_drop] at hc; exact hc
  obtain ⟨b', o', e, hcell⟩ := h (k + i) c h2
  simp at e
  obtain ⟨rfl, rfl⟩ := e
  rw [Nat.add_assoc]
  exact hcell

/-- The errors that package-level variables hold: code c lies at E c. -/
def errV (E : Nat → Addr) : Option Nat → Value
  | none => .nilIface
  | some c => .iface 124 (.pointer (some (E c)))

/-- code c's error is known: its pointee lies in memory, and no other code's is the same -/
structure ErrAt (w : World) (E : Nat → Addr) (base : Nat) : Prop where
  inj : ∀ c d, c < 7 → d < 7 → E c = E d → c = d
  lies : ∀ c, c < 7 → (E c).block < base ∧ ∃ cs t, w.heap[(E c).block]? = some (.cells cs t (0, 0))

theorem ErrAt.below {w w' : World} {E : Nat → Addr} {base : Nat} (h : ErrAt w E base) (hb : Below base w w') : ErrAt w' E base :=
  ⟨h.inj, fun c hc => ⟨(h.lies c hc).1, by obtain ⟨cs, t, e⟩ := (h.lies c hc).2; exact ⟨cs, t, (hb.block _ (h.lies c hc).1).trans e⟩⟩⟩

theorem info_ptr : (Tryd.prog.info? 124).map (·.comparable) = some true := by kernel_rfl
theorem info_pointee : (Tryd.prog.info? 141).map (·.size) = some 1 := by kernel_rfl

/-- '==' between two errors of the program's own -/
theorem eql_errs {w : World} {E : Nat → Addr} {base : Nat} (h : ErrAt w E base) (c d : Nat) (hc : c < 7) (hd : d < 7) :
    (binOp .eql 83 (.iface 124 (.pointer (some (E c)))) (.iface 124 (.pointer (some (E d))))).run Tryd.prog w = .ok (.bool (c == d)) w := by
  obtain ⟨i, hi, hcmp⟩ := Option.map_eq_some_iff.1 info_ptr
  obtain ⟨j, hj, hsz⟩ := Option.map_eq_some_iff.1 info_pointee
  by_cases e : c = d
  · subst e
    rw [run_eql_iface_ptr_same w (E c) Tryd.underlying83 Tryd.underlying124 hi hcmp hj]; simp
  · obtain ⟨_, ca, ta, ha⟩ := h.lies c hc
    obtain ⟨_, cb, tb, hb⟩ := h.lies d hd
    rw [run_eql_iface_ptr_other w Tryd.underlying83 Tryd.underlying124 hi hcmp hj (by omega) (fun e' => e (h.inj c d hc hd e')) ha hb]
    simp [e]

end Go.Proofs.YtkclapimgmnldaaDoor

/-
  A region that draws its order: operations that only read, then one that may do anything and waits for all of them, then again operations that only read. The kit's 'wp_region_still_tail' asks that what stands behind the one operation be a chain; this law asks only that each of these waits for the one operation or for one behind it.
-/
namespace Go.Proofs.YtkclapimgmnldaaDoor
set_option linter.unusedVariables false
set_option linter.unusedSimpArgs false
set_option maxRecDepth 20000
open Go

section
variable {P : Program} {ops : Array Oper} {md : Region.Mode} {w : World}

/-- each operation behind n waits for one from n on -/
def linkB (md : Region.Mode) (ops : Array Oper) (n : Nat) : Bool :=
  (List.range ops.size).all fun t => decide (t ≤ n) || (List.range t).any fun j => decide (n ≤ j) && Region.waitsFor md ops t j

theorem mid_waits {n : Nat} {listed : Array Bool} (hs : Region.sinkB md ops n = true) (hc : linkB md ops n = true) (inv : HeadInv md ops n listed) :
    ∀ (d i : Nat), n - i = d → i < n → listed.getD i true = false → ∀ t, n ≤ t → t ∉ Region.ready md ops listed := by
  intro d
  induction d using Nat.strongRecOn with
  | _ d ih =>
    intro i hd hi hun t ht hr
    obtain ⟨_, ot, hot, hall⟩ := mem_ready.1 hr
    have htlt : t < ops.size := (Array.getElem?_eq_some_iff.1 hot).1
    have nope : ∀ j, Region.waitsFor md ops t j = true → listed.getD j false = false → False := fun j hj hl => by
      obtain ⟨o', ho', e, he, hb, hon⟩ := Region.waitsFor_spec hj
      obtain rfl : o' = ot := Option.some.inj (ho'.symm.trans hot)
      have h2 := hall e he hb
      rw [hon, hl] at h2
      cases h2
    by_cases htn : t = n
    · subst htn
      obtain ⟨j, hj, hj2⟩ := List.any_eq_true.1 (List.all_eq_true.1 hs i (List.mem_range.2 hi))
      simp only [Bool.and_eq_true, decide_eq_true_eq] at hj2
      by_cases hjt : j = t
      · subst hjt; exact nope i hj2.2 (getD_both hun)
      · have hjle : j < t := by have := List.mem_range.1 hj; omega
        cases hl : listed.getD j false with
        | true =>
          obtain ⟨oj, hoj, e, he, hb, hon⟩ := Region.waitsFor_spec hj2.2
          have h2 := inv.closed j oj hoj hl e he hb
          rw [hon, getD_both hun] at h2
          cases h2
        | false => exact ih (t - j) (by omega) j rfl hjle (getD_in (by rw [inv.size]; omega) hl) t (Nat.le_refl _) hr
    · have h1 := List.all_eq_true.1 hc t (List.mem_range.2 htlt)
      simp only [Bool.or_eq_true, decide_eq_true_eq, List.any_eq_true, Bool.and_eq_true, List.mem_range] at h1
      rcases h1 with h1 | ⟨j, hj, hnj, hw⟩
      · omega
      · exact nope j hw (getD_both (inv.tail j hnj (by omega)))

theorem wpAnyL_one {n i : Nat} {oi : Oper} {v : Value} {L : Array Bool → Act → Prop} (hi : ops[i]? = some oi) (hsel : ∀ (j : Nat) (o : Oper) cs b, ops[j]? = some o → o.op ≠ .select cs b)
    (hs : Region.sinkB md ops n = true) (hc : linkB md ops n = true) (hin : i < n)
    (hdone : ∀ listed a, L listed a → ∀ j ∈ Region.ready md ops listed, n ≤ j) :
    ∀ (f : Nat) (listed : Array Bool) (a : Act), HeadInv md ops n listed →
      (∀ j oj, ops[j]? = some oj → j ≠ i → listed.getD j true = false → (∀ e ∈ oj.after, Region.binds md e = true → e.on ≠ i) → oi.apart ops oj = true) →
      i ∈ Region.ready md ops listed → YieldsAt P ops w oi v a →
      wpAnyL P md ops w n L f (listed.setIfInBounds i true) (a.put oi.dst v) → wpAnyL P md ops w n L (f + 1) listed a := by
  intro f
  induction f with
  | zero =>
    intro listed a inv _ hr hy H
    refine ⟨fun h => (by rw [h] at hr; cases hr), fun j hj => ?_⟩
    have hjn : j < n := Nat.lt_of_not_le fun h => mid_waits hs hc inv _ i rfl hin (mem_ready.1 hr).1 j h hj
    refine ⟨hjn, ?_⟩
    by_cases hji : j = i
    · subst hji; exact hy.stOp hi H
    · have := hdone _ _ H j (ready_mono hj hji)
      omega
  | succ f ih =>
    intro listed a inv hfree hr hy H
    have hun := (mem_ready.1 hr).1
    refine ⟨fun h => (by rw [h] at hr; cases hr), fun j hj => ?_⟩
    have hjn : j < n := Nat.lt_of_not_le fun h => mid_waits hs hc inv _ i rfl hin hun j h hj
    refine ⟨hjn, ?_⟩
    by_cases hji : j = i
    · subst hji; exact hy.stOp hi H
    · obtain ⟨hjun, oj, hoj, hall⟩ := mem_ready.1 hj
      have hnot : ∀ e ∈ oj.after, Region.binds md e = true → e.on ≠ i := fun e he hb heq => by
        have h1 := hall e he hb
        rw [heq, getD_both hun] at h1
        cases h1
      have h2 := stOp_put hoj (hfree j oj hoj hji hjun hnot) (fun cs b => hsel i oi cs b hi) (fun cs b => hsel j oj cs b hoj) hy (H.2 j (ready_mono hj hji)).2
      refine stOp_mono (fun a' h3 => ih (listed.setIfInBounds j true) a' (inv.set hj hjn) (fun k ok hk hki hunk hno => hfree k ok hk hki ?_ hno) (ready_mono hr (Ne.symm hji)) h3.1 ?_) h2
      · by_cases hjk : j = k
        · subst hjk; exact hjun
        · rw [getD_set_ne true hjk] at hunk; exact hunk
      · rw [Array.setIfInBounds_comm _ _ hji]
        exact h3.2

/-- the head in the text's order; then n alone is ready; then the rest in the text's order -/
def midHead (md : Region.Mode) (ops : Array Oper) (n : Nat) : Nat → Nat → Array Bool → Bool
  | 0, _, listed => decide (Region.ready md ops listed = [n]) && Region.lexFrom md ops (ops.size - n - 1) (n + 1) (listed.setIfInBounds n true)
  | f + 1, k, listed => (Region.ready md ops listed).contains k && Region.free md ops listed k && midHead md ops n f (k + 1) (listed.setIfInBounds k true)

def midB (md : Region.Mode) (ops : Array Oper) (n : Nat) : Bool :=
  Region.noSelect ops && decide (n < ops.size) && Region.sinkB md ops n && linkB md ops n && midHead md ops n n 0 (Array.replicate ops.size false)

theorem wpAnyL_mid {n : Nat} {Lq : Act → Prop} (hsel : Region.noSelect ops = true) (hs : Region.sinkB md ops n = true) (hc : linkB md ops n = true) :
    ∀ (l : List Oper) (k : Nat) (listed : Array Bool) (a : Act), (∀ j, j < l.length → l[j]? = ops[k + j]?) → k + l.length = n → HeadInv md ops n listed →
    midHead md ops n l.length k listed = true → wpStill P ops w Lq l a →
    wpAnyL P md ops w n (fun listed' a' => (Region.ready md ops listed' = [n] ∧ Region.lexFrom md ops (ops.size - n - 1) (n + 1) (listed'.setIfInBounds n true) = true) ∧ Lq a') l.length listed a
  | [], k, listed, a, _, _, _, hB, h => by
    simp only [List.length_nil, midHead, Bool.and_eq_true, decide_eq_true_eq] at hB
    exact ⟨hB, h⟩
  | o :: l, k, listed, a, hl, hk, inv, hB, h => by
    have h0 : ops[k]? = some o := by simpa using (hl 0 (by simp)).symm
    simp only [List.length_cons, midHead, Bool.and_eq_true] at hB
    obtain ⟨⟨hr, hf⟩, hB'⟩ := hB
    have hkn : k < n := by simp only [List.length_cons] at hk; omega
    have hr' : k ∈ Region.ready md ops listed := by simpa using hr
    have hst : stOp P ops w k (wpStill P ops w Lq l) a := by unfold stOp; simp only [h0]; exact h
    obtain ⟨v, hy, hK⟩ := yieldsAt_of_stOp h0 hst
    exact wpAnyL_one h0 (Region.noSelect_spec hsel) hs hc hkn (fun listed' a' hL j hj => by rw [hL.1.1] at hj; simp at hj; omega) l.length listed a inv (Region.free_spec h0 hf) hr' hy
      (wpAnyL_mid hsel hs hc l (k + 1) _ _ (fun j hj => by have := hl (j + 1) (by simp; omega); simpa [Nat.add_assoc, Nat.add_comm 1 j] using this) (by simp only [List.length_cons] at hk; omega) (inv.set hr' hkn) hB' hK)

theorem wpOp_of_one {Q : Exit → Act → World → Prop} {n : Nat} {o : Oper} {K : Act → World → Prop} {a : Act} (ho : ops[n]? = some o) (h : wpList P ops (Exit.then K Q) [o] a w) : wpOp P ops Q n K a w := by
  unfold wpOp
  simp only [ho]
  unfold wpList at h
  split
  · rename_i hw
    rw [if_pos hw] at h
    rcases h with h | ⟨h1, a0, w0, h2⟩
    · left
      unfold Oper.wp at h ⊢
      generalize (execOp a.eval o).run P w = r at h ⊢
      cases r with
      | ok x w' =>
        cases x <;> exact h
      | halt x w' => cases x <;> exact h
    · exact .inr ⟨h1, a0, w0, h2⟩
  · rename_i hw
    rw [if_neg hw] at h
    exact h

/-- THE LAW: read, do, read. -/
theorem wp_region_mid {id : Nat} {Q : Exit → Act → World → Prop} {a : Act} {w : World} {l : List Oper} (n : Nat) (hm : P.follows .mixedOrders = true) (hB : midB .any l.toArray n = true)
    (h : wpStill P l.toArray w.drew (fun a' => wpList P l.toArray (Exit.then (fun a'' w'' => wpStill P l.toArray w'' (fun a3 => Q .normal a3 w'') (l.drop (n + 1)) a'') Q) ((l.drop n).take 1) a' w.drew) (l.take n) a) : (Code.region id l.toArray true).wp P Q a w := by
  simp only [midB, Bool.and_eq_true, decide_eq_true_eq] at hB
  obtain ⟨⟨⟨⟨hsel, hn⟩, hs⟩, hc⟩, hlex⟩ := hB
  have hn' : n < l.length := by simpa using hn
  have htl : (l.take n).length = n := by simp; omega
  have inv0 : HeadInv .any l.toArray n (Array.replicate l.toArray.size false) :=
    ⟨by simp, fun j oj _ hl => (by rw [getD_replicate_false] at hl; cases hl), fun t _ ht => getD_in (by simpa using ht) (getD_replicate_false _ _)⟩
  have H := wpAnyL_mid (md := .any) hsel hs hc (l.take n) 0 _ a (fun j hj => by
    have hj' : j < n := by rw [htl] at hj; exact hj
    simp [hj']) (by simpa using htl) inv0 (by rw [htl]; exact hlex) h
  refine wp_region_any hm ?_
  have ho : l.toArray[n]? = some l[n] := by simp [hn']
  have hd1 : (l.drop n).take 1 = [l[n]] := by
    rw [List.drop_eq_getElem_cons hn']; rfl
  obtain ⟨g, hg⟩ : ∃ g, l.toArray.size - n = g + 1 := ⟨l.toArray.size - n - 1, by omega⟩
  have hgs : g = (l.drop (n + 1)).length := by simp at hg ⊢; omega
  have hgt : l.toArray.size - n - 1 = g := by omega
  have := wpAny_of_head (Q' := Q) (g := l.toArray.size - n) (fun listed a' hL => by
    obtain ⟨⟨hrd, htail⟩, hw⟩ := hL
    rw [hg]
    refine ⟨fun h1 => (by rw [hrd] at h1; cases h1), fun i hi => ?_⟩
    rw [hrd] at hi
    obtain rfl : i = n := by simpa using hi
    rw [hd1] at hw
    refine wpOp_mono (fun a'' w'' h3 => ?_) (wpOp_of_one ho hw)
    rw [hgs]
    refine wpAny_of_still (Q := fun a3 => Q .normal a3 w'') (fun _ h => h) _ _ _ ?_
    refine wpAnyS_lex hsel (l.drop (i + 1)) (i + 1) _ a'' (fun j => by simp [List.getElem?_drop]) ?_ h3
    rw [← hgs, ← hgt]; exact htail) _ _ _ H
  rw [htl, show n + (l.toArray.size - n) = l.toArray.size by omega] at this
  exact this
end
end Go.Proofs.YtkclapimgmnldaaDoor

/-
  Contracts of the small functions of bufio that the scanner is made of.
-/
namespace Go.Proofs.YtkclapimgmnldaaDoor
set_option linter.unusedVariables false
set_option linter.unusedSimpArgs false
set_option maxRecDepth 20000
open Go.RowKit

/-- 'Hid' under a name that the walk does not open -/
theorem eql_errs_all {w : World} {E : Nat → Addr} {base : Nat} (h : ErrAt w E base) (c d n : Nat) (hc : c < 7) (hd : d < 7) :
    (binOp .eql 83 (.iface 124 (.pointer (some (E c)))) (.iface 124 (.pointer (some (E d))))).run Tryd.prog (w.drewN n) = .ok (.bool (c == d)) (w.drewN n) :=
  eql_errs (w := w.drewN n) ⟨h.inj, h.lies⟩ c d hc hd
theorem eql_errs_drew {w : World} {E : Nat → Addr} {base : Nat} (h : ErrAt w E base) (c d : Nat) (hc : c < 7) (hd : d < 7) :
    (binOp .eql 83 (.iface 124 (.pointer (some (E c)))) (.iface 124 (.pointer (some (E d))))).run Tryd.prog w.drew = .ok (.bool (c == d)) w.drew :=
  eql_errs (w := w.drew) ⟨h.inj, h.lies⟩ c d hc hd

set_option maxHeartbeats 400000 in
theorem setErr_nil (B : Nat) (p : Addr) (w : World) (hc : w.cell? ⟨B, 7, none⟩ = some .nilIface) (hf : w.frozen? ⟨B, 7, none⟩ = false) :
    Calls Tryd.prog 56 #[.pointer (some ⟨B, 0, none⟩), .iface 124 (.pointer (some p))] w fun e w' => e = .returned (.tuple #[]) ∧ ∃ n, w' = (w.setCell ⟨B, 7, none⟩ (.iface 124 (.pointer (some p)))).drewN n := by
  go_enter Tryd.func56, Tryd.ntmps56
  go_wp2
  go_quiet (fail)
  go_wp2
  go_end0
  exact ⟨rfl, _, rfl⟩

set_option maxHeartbeats 400000 in
theorem setErr_eof (B : Nat) (p : Addr) (w : World) (E : Nat → Addr) (base : Nat) (hE : ErrAt w E base) (hc : w.cell? ⟨B, 7, none⟩ = some (.iface 124 (.pointer (some (E 0))))) (hf : w.frozen? ⟨B, 7, none⟩ = false)
    (hg : w.cell? ⟨6, 0, none⟩ = some (.iface 124 (.pointer (some (E 0))))) :
    Calls Tryd.prog 56 #[.pointer (some ⟨B, 0, none⟩), .iface 124 (.pointer (some p))] w fun e w' => e = .returned (.tuple #[]) ∧ ∃ n, w' = (w.setCell ⟨B, 7, none⟩ (.iface 124 (.pointer (some p)))).drewN n := by
  have h1 := fun n => eql_errs_all hE 0 0 n (by omega) (by omega)
  go_enter Tryd.func56, Tryd.ntmps56
  go_wp2
  go_quiet (fail)
  go_wp2
  go_end0
  exact ⟨rfl, _, rfl⟩

set_option maxHeartbeats 400000 in
theorem setErr_other (B c : Nat) (p : Addr) (w : World) (E : Nat → Addr) (base : Nat) (hE : ErrAt w E base) (hc7 : c < 7) (hc0 : c ≠ 0) (hc : w.cell? ⟨B, 7, none⟩ = some (.iface 124 (.pointer (some (E c)))))
    (hg : w.cell? ⟨6, 0, none⟩ = some (.iface 124 (.pointer (some (E 0))))) :
    Calls Tryd.prog 56 #[.pointer (some ⟨B, 0, none⟩), .iface 124 (.pointer (some p))] w fun e w' => e = .returned (.tuple #[]) ∧ ∃ n, w' = w.drewN n := by
  have h1 := fun n => eql_errs_all hE c 0 n hc7 (by omega)
  have hb : (c == 0) = false := by simpa using hc0
  clear hc0
  go_enter Tryd.func56, Tryd.ntmps56
  go_wp2
  go_quiet (fail)
  go_wp2
  go_end0
  exact ⟨rfl, _, rfl⟩
end Go.Proofs.YtkclapimgmnldaaDoor

/-
  A region that draws its order, by an invariant over what has come up so far: each operation is met once, whatever the order.
-/
namespace Go.Proofs.YtkclapimgmnldaaDoor
set_option linter.unusedVariables false
set_option linter.unusedSimpArgs false

section
variable {P : Program} {ops : Array Oper} {Q : Exit → Act → World → Prop}
theorem wpOp_of {i : Nat} {o : Oper} {K : Act → World → Prop} {a : Act} {w : World} (ho : ops[i]? = some o) (hg : o.guard = none) (h : o.wp P a w K Q) : wpOp P ops Q i K a w := by
  unfold wpOp
  rw [ho]
  simp only [Region.wanted, hg]
  exact .inl h
theorem wpAny_inv (J : (Nat → Bool) → Act → World → Prop)
    (hstep : ∀ f a w i o, J f a w → ops[i]? = some o → f i = false → (∀ e ∈ o.after, Region.binds .any e = true → f e.on = true) → wpOp P ops Q i (fun a' w' => J (fun k => f k || k == i) a' w') a w)
    (hend : ∀ f a w, J f a w → (∀ i, i < ops.size → (∀ o, ops[i]? = some o → (∀ e ∈ o.after, Region.binds .any e = true → f e.on = true) → f i = true)) → Q .normal a w) :
    ∀ (fuel : Nat) (listed : Array Bool) (a : Act) (w : World), listed.size = ops.size → listed.toList.countP (fun b => !b) ≤ fuel → J (fun k => listed.getD k false) a w → wpAny P .any ops Q fuel listed a w := by
  have hfin : ∀ (listed : Array Bool) (a : Act) (w : World), listed.size = ops.size → J (fun k => listed.getD k false) a w → Region.ready .any ops listed = [] → Q .normal a w := by
    intro listed a w hs hJ hr
    refine hend _ a w hJ fun i hi o ho he => ?_
    cases hl : listed.getD i false with
    | true => rfl
    | false =>
      have : i ∈ Region.ready .any ops listed := by
        rw [mem_ready]
        refine ⟨?_, o, ho, he⟩
        have hi' : i < listed.size := by omega
        simp only [Array.getD, hi', dif_pos] at hl ⊢
        exact hl
      rw [hr] at this
      cases this
  intro fuel
  induction fuel with
  | zero =>
    intro listed a w hs hc hJ
    have hr : Region.ready .any ops listed = [] := by
      refine List.eq_nil_iff_forall_not_mem.2 fun i hi => ?_
      rw [mem_ready] at hi
      obtain ⟨h1, o, ho, _⟩ := hi
      have hlt : i < listed.size := by
        have := (Array.getElem?_eq_some_iff.1 ho).1
        omega
      simp only [Array.getD, hlt, dif_pos] at h1
      have h0 : listed.toList.countP (fun b => !b) = 0 := by omega
      rw [List.countP_eq_zero] at h0
      have := h0 (listed[i]) (by simp)
      simp at this
      cases (this.symm.trans h1)
    exact ⟨hr, hfin listed a w hs hJ hr⟩
  | succ fuel ih =>
    intro listed a w hs hc hJ
    refine ⟨hfin listed a w hs hJ, fun i hi => ?_⟩
    rw [mem_ready] at hi
    obtain ⟨h1, o, ho, he⟩ := hi
    have hlt : i < listed.size := by
      have := (Array.getElem?_eq_some_iff.1 ho).1
      omega
    have h1' : listed[i] = false := by
      simp only [Array.getD, hlt, dif_pos] at h1
      exact h1
    have hf : listed.getD i false = false := by
      simp only [Array.getD, hlt, dif_pos]
      exact h1'
    refine wpOp_mono (fun a' w' h => ih _ a' w' (by simpa using hs) ?_ ?_) (hstep _ a w i o hJ ho hf he)
    · have e : (listed.setIfInBounds i true).toList = listed.toList.set i true := by simp
      rw [e, List.countP_set (by simpa using hlt)]
      have : listed.toList[i]'(by simpa using hlt) = false := by simpa using h1'
      rw [this]
      have hpos : 0 < listed.toList.countP (fun b => !b) := by
        rw [List.countP_pos_iff]
        exact ⟨false, by rw [← this]; exact List.getElem_mem _, rfl⟩
      show listed.toList.countP (fun b => !b) - 1 + 0 ≤ fuel
      omega
    · have e : (fun k => (listed.setIfInBounds i true).getD k false) = fun k => listed.getD k false || k == i := by
        funext k
        by_cases hk : k = i
        · subst hk
          simp [Array.getD, hlt]
        · rw [getD_set_ne false (Ne.symm hk)]
          simp [hk]
      rw [e]
      exact h
theorem wp_region_inv {id : Nat} {a : Act} {w : World} (hm : P.follows .mixedOrders = true) (J : (Nat → Bool) → Act → World → Prop) (h0 : J (fun _ => false) a w.drew)
    (hstep : ∀ f a w i o, J f a w → ops[i]? = some o → f i = false → (∀ e ∈ o.after, Region.binds .any e = true → f e.on = true) → wpOp P ops Q i (fun a' w' => J (fun k => f k || k == i) a' w') a w)
    (hend : ∀ f a w, J f a w → (∀ i, i < ops.size → (∀ o, ops[i]? = some o → (∀ e ∈ o.after, Region.binds .any e = true → f e.on = true) → f i = true)) → Q .normal a w) : (Code.region id ops true).wp P Q a w := by
  refine wp_region_any hm ?_
  refine wpAny_inv J hstep hend ops.size _ a _ (by simp) ?_ ?_
  · refine Nat.le_trans (List.countP_le_length) (by simp)
  · have e : (fun k => (Array.replicate ops.size false).getD k false) = fun _ => false := by
      funext k
      simp only [Array.getD]
      split <;> simp
    rw [e]
    exact h0
end
end Go.Proofs.YtkclapimgmnldaaDoor

/-
  The thin package's reader: what one call of Read hands out.
-/
namespace Go.Proofs.YtkclapimgmnldaaDoor
set_option linter.unusedVariables false
set_option linter.unusedSimpArgs false
set_option maxRecDepth 20000
open Go.RowKit

set_option maxHeartbeats 400000 in
theorem read_end (R : Nat) (p : Value) (t : TypeId) (y : Value) (w : World) (h0 : w.cell? ⟨R, 0, none⟩ = some (.string ⟨#[]⟩)) (h3 : w.cell? ⟨R, 3, none⟩ = some (.iface t y)) :
    Calls Tryd.prog 79 #[.pointer (some ⟨R, 0, none⟩), p] w fun en w' => en = .returned (.tuple #[.int .i64 0, .iface t y]) ∧ ∃ n, w' = w.drewN n := by
  go_enter Tryd.func79, Tryd.ntmps79
  go_wp2
  go_quiet (fail)
  go_wp2
  go_ret2
  exact ⟨rfl, _, rfl⟩

theorem info_u8 : (Tryd.prog.info? 5).map (·.size) = some 1 := by kernel_rfl

/-- copy out of a string, as many bytes as there is room for -/
theorem run_copy_str (w : World) (g o dLen dCap n : Nat) (s : ByteArray) (cur : Array Value) (t : TypeId)
    (hg : w.heap[g]? = some (.cells cur t (0, 0))) (hn : n = Nat.min s.size dLen) (hfit : o + n ≤ cur.size) :
    (Builtin.copy_ #[101, 9] 3 #[.slice (some ⟨g, o, none⟩) dLen dCap, .string s]).run Tryd.prog w =
      .ok (.int .i64 (n : Int)) (w.setRow g (cur.toList.take o ++ (s.data.toList.take n).map bv ++ cur.toList.drop (o + n)).toArray) := by
  have hsz : s.data.toList.length = s.size := by rw [Array.length_toList]; rfl
  have hlen : ((s.data.toList.take n).map bv).length = n := by
    rw [List.length_map, List.length_take, hsz]; exact Nat.min_eq_left (by rw [hn]; exact Nat.min_le_left _ _)
  have hst := run_storeCells_at Tryd.prog g o t ((s.data.toList.take n).map bv) 0 cur w hg (by rw [hlen]; simpa using hfit) (fun v hv => by
    simp only [List.mem_map] at hv
    obtain ⟨b, _, rfl⟩ := hv
    rfl)
  rw [hlen] at hst
  simp only [Nat.add_zero] at hst
  have htk : List.take n (List.map (fun b : UInt8 => Value.int IntKind.u8 (b.toNat : Int)) s.data.toList) = (s.data.toList.take n).map bv := by
    rw [← List.map_take]
  obtain ⟨i, hq, hi⟩ := Option.map_eq_some_iff.1 info_u8
  simp [Builtin.copy_, run_underlying Tryd.underlying101, Builtin.lenOf, Builtin.firstCells, sizeOf, typeInfo, hq, ← hn]
  rw [htk, hst]
  simp [Result.andThen, goInt]

theorem heap_setCell_ne (w : World) {g k i : Nat} (h : k ≠ g) (v : Value) : (w.setCell ⟨g, i, none⟩ v).heap[k]? = w.heap[k]? := Below.heap_setCell w ⟨g, i, none⟩ v k h

/-- the row behind a read -/
def rowOf (cur : Array Value) (o n : Nat) (s : ByteArray) : Array Value := (cur.toList.take o ++ (s.data.toList.take n).map bv ++ cur.toList.drop (o + n)).toArray
/-- the error that comes with a read -/
def readErr (tog b : Bool) (y : Value) : Value := if tog && b then y else .nilIface

def PiecePost (w : World) (R D : Nat) (row : Array Value) (s : ByteArray) (n pn pb po pc : Nat) (ev : Value) (en : Ending) (w' : World) : Prop :=
  en = .returned (.tuple #[.int .i64 (n : Int), ev]) ∧
    ∃ pa', (pn = 0 ∨ pa' = some ⟨pb, po + 1, none⟩) ∧ ∃ q, w' = (((w.setCell ⟨R, 1, none⟩ (.slice pa' pn (pc - 1))).setRow D row).setCell ⟨R, 0, none⟩ (.string (s.extract n s.size))).drewN q

section
variable (R D o k c n : Nat) (s : ByteArray) (tog b : Bool) (t : TypeId) (y : Value) (w : World)

set_option maxHeartbeats 1000000 in
theorem read_plain (h0 : w.cell? ⟨R, 0, none⟩ = some (.string s)) (pa : Option Addr) (pc : Nat) (h1 : w.cell? ⟨R, 1, none⟩ = some (.slice pa 0 pc)) (h2 : w.cell? ⟨R, 2, none⟩ = some (.bool tog))
    (h3 : w.cell? ⟨R, 3, none⟩ = some (.iface t y)) (hne : s.toList.isEmpty = false) (hf : ∀ o, w.frozen? ⟨R, o, none⟩ = false)
    (hRD : R ≠ D) (cur : Array Value) (hD : w.heap[D]? = some (.cells cur 5 (0, 0))) (hn : n = Nat.min s.size k) (hfit : o + n ≤ cur.size) (hns : n ≤ s.size) (_hs : s.size ≤ 140737488355328) (hb : (s.extract n s.size).toList.isEmpty = b) :
    Calls Tryd.prog 79 #[.pointer (some ⟨R, 0, none⟩), .slice (some ⟨D, o, none⟩) k c] w fun en w' => en = .returned (.tuple #[.int .i64 (n : Int), readErr tog b (.iface t y)]) ∧
      ∃ q, w' = ((w.setRow D (rowOf cur o n s)).setCell ⟨R, 0, none⟩ (.string (s.extract n s.size))).drewN q := by
  have HC : ∀ w' : World, w'.heap[D]? = some (.cells cur 5 (0, 0)) → (Builtin.copy_ #[101, 9] 3 #[.slice (some ⟨D, o, none⟩) k c, .string s]).run Tryd.prog w' = .ok (.int .i64 (n : Int)) (w'.setRow D (rowOf cur o n s)) :=
    fun w' h => run_copy_str w' D o k c n s cur 5 h hn hfit
  have HC := Lib.hid HC
  have HD := Lib.hid hD
  generalize rowOf cur o n s = row at HC ⊢
  clear hn hD hfit
  have hcell : ∀ cs i, (w.setRow D cs).cell? ⟨R, i, none⟩ = w.cell? ⟨R, i, none⟩ := fun cs i => World.cell?_of_block (a := ⟨R, i, none⟩) (setRow_other w D R cs hRD)
  have hfz : ∀ cs i, (w.setRow D cs).frozen? ⟨R, i, none⟩ = w.frozen? ⟨R, i, none⟩ := fun cs i => World.frozen?_of_block (a := ⟨R, i, none⟩) (setRow_other w D R cs hRD)
  go_enter Tryd.func79, Tryd.ntmps79
  cases tog <;> cases b
  all_goals
    go_wp2_with fail
    rw [HC.out _ HD.out]
    go_wp2_with fail
    try (go_quiet (fail); go_wp2_with fail)
    go_ret2
    first | exact ⟨rfl, 0, rfl⟩ | exact ⟨rfl, _, rfl⟩

set_option maxHeartbeats 1000000 in
theorem read_piece (h0 : w.cell? ⟨R, 0, none⟩ = some (.string s)) (pb po pn pc : Nat) (q : Int) (h1 : w.cell? ⟨R, 1, none⟩ = some (.slice (some ⟨pb, po, none⟩) (pn + 1) pc)) (hq : w.cell? ⟨pb, po, none⟩ = some (.int .i64 q)) (h2 : w.cell? ⟨R, 2, none⟩ = some (.bool tog))
    (hpc : pn + 1 ≤ pc) (hpc2 : pc ≤ 9223372036854775807) (hk : 1 ≤ k) (hkc : k ≤ c) (_hc : c ≤ 4194304)
    (h3 : w.cell? ⟨R, 3, none⟩ = some (.iface t y)) (hne : s.toList.isEmpty = false) (hf : ∀ o, w.frozen? ⟨R, o, none⟩ = false)
    (hRD : R ≠ D) (cur : Array Value) (hD : w.heap[D]? = some (.cells cur 5 (0, 0))) (m : Nat) (hm : (m : Int) = min (k : Int) (max 1 q)) (hn : n = Nat.min s.size m) (hfit : o + n ≤ cur.size) (hns : n ≤ s.size) (_hs : s.size ≤ 140737488355328) (hb : (s.extract n s.size).toList.isEmpty = b) :
    Calls Tryd.prog 79 #[.pointer (some ⟨R, 0, none⟩), .slice (some ⟨D, o, none⟩) k c] w (PiecePost w R D (rowOf cur o n s) s n pn pb po pc (readErr tog b (.iface t y))) := by
  have HC : ∀ w' : World, w'.heap[D]? = some (.cells cur 5 (0, 0)) → (Builtin.copy_ #[101, 9] 3 #[.slice (some ⟨D, o, none⟩) m c, .string s]).run Tryd.prog w' = .ok (.int .i64 (n : Int)) (w'.setRow D (rowOf cur o n s)) :=
    fun w' h => run_copy_str w' D o m c n s cur 5 h hn hfit
  have HC := Lib.hid HC
  have HD := Lib.hid hD
  generalize rowOf cur o n s = row at HC ⊢
  have hmk : m ≤ k := by omega
  have hm1 : 1 ≤ m := by omega
  have hm' : min (k : Int) (max 1 q) = (m : Int) := hm.symm
  clear hn hD hfit hm
  have hcell : ∀ v cs i, ((w.setCell ⟨R, 1, none⟩ v).setRow D cs).cell? ⟨R, i, none⟩ = (w.setCell ⟨R, 1, none⟩ v).cell? ⟨R, i, none⟩ := fun v cs i => World.cell?_of_block (a := ⟨R, i, none⟩) (setRow_other _ D R cs hRD)
  have hfz : ∀ v cs i, ((w.setCell ⟨R, 1, none⟩ v).setRow D cs).frozen? ⟨R, i, none⟩ = w.frozen? ⟨R, i, none⟩ := fun v cs i => (World.frozen?_of_block (a := ⟨R, i, none⟩) (setRow_other _ D R cs hRD)).trans (World.frozen?_setCell ..)
  have HD2 := Lib.hid fun v => (heap_setCell_ne w (g := R) (k := D) (i := 1) (Ne.symm hRD) v).trans HD.out
  go_enter Tryd.func79, Tryd.ntmps79
  by_cases hp1 : pc = 1
  · subst hp1
    obtain rfl : pn = 0 := by omega
    cases tog <;> cases b
    all_goals
      go_wp2_with fail
      rw [HC.out _ (HD2.out _)]
      go_wp2_with fail
      try (go_quiet (fail); go_wp2_with fail)
      go_ret2
      refine ⟨rfl, some ⟨pb, po, none⟩, Or.inl rfl, ?_⟩
      first | exact ⟨0, rfl⟩ | exact ⟨_, rfl⟩
  · cases tog <;> cases b
    all_goals
      go_wp2_with fail
      rw [HC.out _ (HD2.out _)]
      go_wp2_with fail
      try (go_quiet (fail); go_wp2_with fail)
      go_ret2
      refine ⟨rfl, some ⟨pb, po + 1, none⟩, Or.inr rfl, ?_⟩
      first | exact ⟨0, rfl⟩ | exact ⟨_, rfl⟩
end
end Go.Proofs.YtkclapimgmnldaaDoor
