/-
  Memory: what a slice of bytes reads as, which blocks a step may have turned, the errors that the program keeps, and the scanner's own state in memory.
-/
import Derived.Test.YtkclapimgmnldaaDoorProg
import Derived.Test.YtkclapimgmnldaaDoorModel
import Derived.WalkKit
import Derived.WalkLawsBesides
import Derived.WalkSpells
import Derived.Lib.Hide
import Derived.LaidEql
import Derived.BigQuiet
import Derived.Deep.QuietTactic
import Derived.StillTailTactics
import Derived.Laws.CopyOwn
import Derived.Laws.EntriesVeiled
namespace Go.Proofs.YtkclapimgmnldaaDoor
set_option linter.unusedVariables false
set_option linter.unusedSimpArgs false
set_option maxRecDepth 20000
open Go.RowKit

/-- a byte as a value -/
abbrev bv (c : UInt8) : Value := .int .u8 (c.toNat : Int)

/-- Two worlds that differ in nothing but how often the tape was asked. -/
def Alk (w' w : World) : Prop := w'.heap = w.heap ∧ w'.os = w.os ∧ w'.output = w.output ∧ w'.tape = w.tape
theorem Alk.drewN (w : World) (n : Nat) : Alk (w.drewN n) w := ⟨rfl, rfl, rfl, rfl⟩

/-- Only the blocks of a list, and new ones, may have turned. -/
structure Off (own : List Nat) (w w' : World) : Prop where
  os : w'.os = w.os
  tape : w'.tape = w.tape
  output : w'.output = w.output
  size : w.heap.size ≤ w'.heap.size
  block : ∀ k, k < w.heap.size → k ∉ own → w'.heap[k]? = w.heap[k]?

/-- The blocks of the second list are of the first, or new. -/
def Fresh (own own' : List Nat) (w : World) : Prop := ∀ k, k ∈ own' → k ∈ own ∨ w.heap.size ≤ k

theorem Off.refl (own : List Nat) (w : World) : Off own w w := ⟨rfl, rfl, rfl, Nat.le_refl _, fun _ _ _ => rfl⟩
theorem Off.drewN {own : List Nat} {w w' : World} (h : Off own w w') (n : Nat) : Off own w (w'.drewN n) := ⟨h.os, h.tape, h.output, h.size, h.block⟩
theorem Off.drew {own : List Nat} {w w' : World} (h : Off own w w') : Off own w w'.drew := ⟨h.os, h.tape, h.output, h.size, h.block⟩
theorem Off.alk {own : List Nat} {w w' w2 : World} (h : Off own w w') (ha : Alk w2 w') : Off own w w2 :=
  ⟨ha.2.1.trans h.os, ha.2.2.2.trans h.tape, ha.2.2.1.trans h.output, by rw [ha.1]; exact h.size, fun k hk hn => by rw [ha.1]; exact h.block k hk hn⟩
theorem Off.mono {own own' : List Nat} {w w' : World} (h : Off own w w') (hs : ∀ k, k ∈ own → k ∈ own') : Off own' w w' :=
  ⟨h.os, h.tape, h.output, h.size, fun k hk hn => h.block k hk fun hm => hn (hs k hm)⟩
theorem Off.trans {own own' : List Nat} {a b c : World} (h : Off own a b) (k : Off own' b c) (hf : Fresh own own' a) : Off own a c :=
  ⟨k.os.trans h.os, k.tape.trans h.tape, k.output.trans h.output, Nat.le_trans h.size k.size, fun i hi hn =>
    (k.block i (Nat.lt_of_lt_of_le hi h.size) fun hm => by rcases hf i hm with h1 | h1; exact hn h1; omega).trans (h.block i hi hn)⟩
theorem Fresh.refl (own : List Nat) (w : World) : Fresh own own w := fun _ h => .inl h
theorem Fresh.trans {o1 o2 o3 : List Nat} {a b : World} (h : Fresh o1 o2 a) (k : Fresh o2 o3 b) (hs : a.heap.size ≤ b.heap.size) : Fresh o1 o3 a := fun x hx => by
  rcases k x hx with h1 | h1
  · exact h x h1
  · exact .inr (by omega)
theorem Off.setCell {own : List Nat} {w w' : World} (h : Off own w w') {p : Addr} (hp : p.block ∈ own) (u : Value) : Off own w (w'.setCell p u) :=
  h.trans (own' := own) ⟨rfl, rfl, rfl, by simp, fun k _ hn => Below.heap_setCell _ _ _ _ (fun e => hn (e ▸ hp))⟩ (Fresh.refl _ _)
theorem Off.alloc {own : List Nat} {w w' : World} (h : Off own w w') (o : Obj) : Off own w (w'.alloc o) :=
  h.trans (own' := own) ⟨rfl, rfl, rfl, by simp, fun k hk _ => Below.heap_alloc _ _ _ hk⟩ (Fresh.refl _ _)
theorem Off.setRow {own : List Nat} {w w' : World} (h : Off own w w') {g : Nat} (hp : g ∈ own) (cs : Array Value) : Off own w (w'.setRow g cs) :=
  h.trans (own' := own) ⟨rfl, rfl, rfl, by simp [World.setRow], fun k _ hn => setRow_other w' g k cs (fun e => hn (e ▸ hp))⟩ (Fresh.refl _ _)
theorem Off.below {own : List Nat} {w w' : World} (h : Off own w w') {B : Nat} (hB : B ≤ w.heap.size) (ho : ∀ k, k ∈ own → B ≤ k) : Below B w w' :=
  ⟨h.os, h.tape, h.output, h.size, fun k hk => h.block k (by omega) fun hm => by have := ho k hm; omega⟩
theorem Off.cell {own : List Nat} {w w' : World} (h : Off own w w') {p : Addr} (hs : p.block < w.heap.size) (hp : p.block ∉ own) : w'.cell? p = w.cell? p :=
  World.cell?_of_block (h.block p.block hs hp)

/-- A slice at an address reads as these bytes. -/
def Bytes8 (w : World) (a : Option Addr) (d : List UInt8) : Prop :=
  ∀ i c, d[i]? = some c → ∃ b o, a = some ⟨b, o, none⟩ ∧ w.cell? ⟨b, o + i, none⟩ = some (bv c)
theorem Bytes8.drewN {w : World} {a : Option Addr} {d : List UInt8} (h : Bytes8 w a d) (n : Nat) : Bytes8 (w.drewN n) a d := h
theorem Bytes8.nil (w : World) (a : Option Addr) : Bytes8 w a [] := fun i c h => by simp at h
theorem Bytes8.at {w : World} {b o : Nat} {d : List UInt8} (h : Bytes8 w (some ⟨b, o, none⟩) d) (i : Nat) (hi : i < d.length) : w.cell? ⟨b, o + i, none⟩ = some (bv d[i]) := by
  obtain ⟨b', o', e, hc⟩ := h i d[i] (List.getElem?_eq_getElem hi)
  simp at e
  obtain ⟨rfl, rfl⟩ := e
  exact hc
theorem Bytes8.form {w : World} {a : Option Addr} {d : List UInt8} (h : Bytes8 w a d) (hd : d ≠ []) : ∃ b o, a = some ⟨b, o, none⟩ := by
  cases d with
  | nil => exact absurd rfl hd
  | cons c r => obtain ⟨b, o, e, _⟩ := h 0 c rfl; exact ⟨b, o, e⟩
theorem Bytes8.part {w : World} {b o : Nat} {d : List UInt8} (h : Bytes8 w (some ⟨b, o, none⟩) d) (k n : Nat) : Bytes8 w (some ⟨b, o + k, none⟩) ((d.drop k).take n) := by
  intro i c hc
  refine ⟨b, o + k, rfl, ?_⟩
  have h1 : i < ((d.drop k).take n).length := by
    rcases Nat.lt_or_ge i ((d.drop k).take n).length with h1 | h1
    · exact h1
    · rw [List.getElem?_eq_none h1] at hc; cases hc
  simp only [List.length_take, List.length_drop] at h1
  have h2 : d[k + i]? = some c := by rw [List.getElem?_take_of_lt (by omega), List.getElem?_drop] at hc; exact hc
  obtain ⟨b', o', e, hcell⟩ := h (k + i) c h2
  simp at e
  obtain ⟨rfl, rfl⟩ := e
  rw [Nat.add_assoc]
  exact hcell

/-- The errors that package-level variables hold: code c lies at E c. -/
def errV (E : Nat → Addr) : Option Nat → Value
  | none => .nilIface
  | some c => .iface 124 (.pointer (some (E c)))

/-- code c's error is known: its pointee lies in memory, and no other code's is the same -/
structure ErrAt (w : World) (E : Nat → Addr) (base : Nat) : Prop where
  inj : ∀ c d, c < 7 → d < 7 → E c = E d → c = d
  lies : ∀ c, c < 7 → (E c).block < base ∧ ∃ cs t, w.heap[(E c).block]? = some (.cells cs t (0, 0))

theorem ErrAt.below {w w' : World} {E : Nat → Addr} {base : Nat} (h : ErrAt w E base) (hb : Below base w w') : ErrAt w' E base :=
  ⟨h.inj, fun c hc => ⟨(h.lies c hc).1, by obtain ⟨cs, t, e⟩ := (h.lies c hc).2; exact ⟨cs, t, (hb.block _ (h.lies c hc).1).trans e⟩⟩⟩

theorem info_ptr : (Tryd.prog.info? 124).map (·.comparable) = some true := by kernel_rfl
theorem info_pointee : (Tryd.prog.info? 141).map (·.size) = some 1 := by kernel_rfl

/-- '==' between two errors of the program's own -/
theorem eql_errs {w : World} {E : Nat → Addr} {base : Nat} (h : ErrAt w E base) (c d : Nat) (hc : c < 7) (hd : d < 7) :
    (binOp .eql 83 (.iface 124 (.pointer (some (E c)))) (.iface 124 (.pointer (some (E d))))).run Tryd.prog w = .ok (.bool (c == d)) w := by
  obtain ⟨i, hi, hcmp⟩ := Option.map_eq_some_iff.1 info_ptr
  obtain ⟨j, hj, hsz⟩ := Option.map_eq_some_iff.1 info_pointee
  by_cases e : c = d
  · subst e
    rw [run_eql_iface_ptr_same w (E c) Tryd.underlying83 Tryd.underlying124 hi hcmp hj]; simp
  · obtain ⟨_, ca, ta, ha⟩ := h.lies c hc
    obtain ⟨_, cb, tb, hb⟩ := h.lies d hd
    rw [run_eql_iface_ptr_other w Tryd.underlying83 Tryd.underlying124 hi hcmp hj (by omega) (fun e' => e (h.inj c d hc hd e')) ha hb]
    simp [e]

end Go.Proofs.YtkclapimgmnldaaDoor
