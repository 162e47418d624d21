/-
  Scan's code in pieces, its frame, and the scanner's state in memory.
-/
import Derived.Test.YtkclapimgmnldaaDoorQA
import Derived.Shelf.Abstract
namespace Go.Proofs.YtkclapimgmnldaaDoor
set_option linter.unusedVariables false
set_option linter.unusedSimpArgs false
set_option maxRecDepth 20000
open Go.RowKit

def loopOf : Code → Option Code
  | .loop c => some c
  | .seq a b => (loopOf a).or (loopOf b)
  | .block _ c => loopOf c
  | .scope c => loopOf c
  | .cond _ a b => (loopOf a).or (loopOf b)
  | _ => none
def sL : Code → Code | .seq a _ => a | c => c
def sR : Code → Code | .seq _ b => b | c => c
def inB : Code → Code | .block _ c => c | c => c
def cT : Code → Code | .cond _ a _ => a | c => c
noncomputable def body1 : Code := inB ((Tryd.f47.body.bind loopOf).getD .skip)
noncomputable def m1 : Code := sL body1
noncomputable def m1r : Code := sR (cT (sR m1))
noncomputable def m2 : Code := sL (sR body1)
noncomputable def m3 : Code := sL (sR (sR body1))
noncomputable def m4 : Code := sL (sR (sR (sR body1)))
noncomputable def m4g : Code := sR (cT (sR m4))
noncomputable def m5 : Code := sR (sR (sR (sR body1)))
noncomputable def m5b : Code := inB ((loopOf m5).getD .skip)

/-- the frame of Scan: slot 0 is the receiver, 2 the result, 3 to 5 what the split function answered -/
def fr (B : Nat) (v2 v3 v4 v5 : Value) (f : Nat → Value) : Act := ⟨#[.pointer (some ⟨B, 0, none⟩), f 1, v2, v3, v4, v5, f 6, f 7, f 8, f 9, f 10, f 11, f 12, f 13, f 14, f 15, f 16, f 17, f 18, f 19, f 20, f 21, f 22, f 23, f 24, f 25, f 26, f 27, f 28, f 29, f 30, f 31, f 32, f 33, f 34, f 35, f 36, f 37, f 38, f 39, f 40, f 41, f 42, f 43, f 44, f 45, f 46, f 47, f 48, f 49, f 50, f 51, f 52, f 53, f 54, f 55, f 56, f 57, f 58, f 59, f 60, f 61, f 62, f 63, f 64, f 65, f 66, f 67, f 68, f 69, f 70, f 71, f 72, f 73, f 74, f 75, f 76, f 77, f 78, f 79, f 80, f 81, f 82, f 83, f 84, f 85, f 86, f 87, f 88, f 89, f 90, f 91, f 92, f 93, f 94, f 95, f 96, f 97, f 98, f 99, f 100, f 101, f 102, f 103, f 104, f 105, f 106, f 107, f 108, f 109, f 110, f 111, f 112, f 113, f 114, f 115, f 116, f 117, f 118, f 119, f 120, f 121, f 122, f 123, f 124, f 125, f 126, f 127, f 128, f 129, f 130, f 131, f 132, f 133, f 134, f 135, f 136, f 137, f 138, f 139, f 140, f 141, f 142, f 143, f 144, f 145, f 146, f 147, f 148, f 149, f 150, f 151, f 152, f 153, f 154, f 155, f 156, f 157, f 158, f 159, f 160, f 161, f 162, f 163, f 164, f 165, f 166, f 167, f 168, f 169, f 170, f 171, f 172, f 173, f 174, f 175, f 176, f 177, f 178, f 179, f 180, f 181, f 182, f 183, f 184, f 185, f 186, f 187, f 188, f 189, f 190, f 191, f 192, f 193, f 194, f 195, f 196, f 197, f 198, f 199, f 200, f 201, f 202, f 203, f 204, f 205, f 206, f 207, f 208, f 209, f 210, f 211, f 212, f 213, f 214, f 215, f 216, f 217, f 218, f 219, f 220, f 221, f 222, f 223, f 224, f 225, f 226, f 227, f 228, f 229, f 230, f 231, f 232, f 233, f 234, f 235, f 236, f 237, f 238, f 239, f 240, f 241, f 242, f 243, f 244, f 245, f 246, f 247, f 248, f 249, f 250, f 251, f 252, f 253, f 254, f 255, f 256, f 257, f 258, f 259, f 260, f 261, f 262, f 263, f 264, f 265, f 266, f 267, f 268, f 269, f 270, f 271, f 272, f 273, f 274, f 275, f 276, f 277, f 278, f 279, f 280, f 281, f 282, f 283, f 284, f 285, f 286, f 287, f 288, f 289, f 290, f 291, f 292, f 293, f 294, f 295, f 296, f 297, f 298, f 299, f 300, f 301, f 302, f 303, f 304, f 305, f 306, f 307, f 308, f 309, f 310, f 311, f 312, f 313, f 314, f 315, f 316, f 317, f 318, f 319, f 320, f 321, f 322, f 323, f 324, f 325, f 326, f 327, f 328, f 329, f 330, f 331, f 332, f 333], []⟩
def Fr (B : Nat) (a : Act) : Prop := ∃ v2 v3 v4 v5 f, a = fr B v2 v3 v4 v5 f

theorem toList_range (a : List Value) (n : Nat) (h : a.length = n) : a = (List.range n).map (fun i => a.getD i undef) := by
  apply List.ext_getElem
  · simp [h]
  · intro i h1 h2
    simp [h1]

set_option maxRecDepth 100000 in
theorem Fr.mk' (B : Nat) (a : Act) (h0 : a.tmps[0]? = some (.pointer (some ⟨B, 0, none⟩))) (hs : a.tmps.size = 334) (hd : a.defers = []) : a = fr B (a.tmps.getD 2 undef) (a.tmps.getD 3 undef) (a.tmps.getD 4 undef) (a.tmps.getD 5 undef) (fun i => a.tmps.getD i undef) := by
  obtain ⟨⟨t⟩, d⟩ := a
  simp only at hd
  subst hd
  have h := toList_range t 334 (by simpa using hs)
  have h0' : t.getD 0 undef = .pointer (some ⟨B, 0, none⟩) := by
    rw [List.getD_eq_getElem?_getD]; rw [show t[0]? = _ from by simpa using h0]; rfl
  have e : ∀ i, (List.toArray t).getD i undef = t.getD i undef := fun i => by simp
  simp only [e]
  unfold fr
  congr 1
  congr 1
  rw [← h0']
  exact h
theorem Fr.of (B : Nat) (a : Act) (h0 : a.tmps[0]? = some (.pointer (some ⟨B, 0, none⟩))) (hs : a.tmps.size = 334) (hd : a.defers = []) : Fr B a := ⟨_, _, _, _, _, Fr.mk' B a h0 hs hd⟩

/-- What does not change while a scanner runs. -/
structure Cfg where
  B : Nat
  R : Nat
  f : FuncId
  first : Array Value
  cap : Array Value
  max : Int
  lim : Nat
  tog : Bool
  endE : Nat
  E : Nat → Addr
  base : Nat

/-- The program's errors as the scanner reads them. -/
structure Glob (w : World) (E : Nat → Addr) (base : Nat) : Prop where
  errs : ErrAt w E base
  eof : w.cell? ⟨6, 0, none⟩ = some (.iface 124 (.pointer (some (E 0))))
  tooLong : w.cell? ⟨2, 0, none⟩ = some (.iface 124 (.pointer (some (E 1))))
  neg : w.cell? ⟨3, 0, none⟩ = some (.iface 124 (.pointer (some (E 2))))
  far : w.cell? ⟨4, 0, none⟩ = some (.iface 124 (.pointer (some (E 3))))
  fin : w.cell? ⟨1, 0, none⟩ = some (.iface 124 (.pointer (some (E 6))))
  lt : 6 < base ∧ 2 < base ∧ 3 < base ∧ 4 < base ∧ 1 < base

theorem Glob.below {w w' : World} {E : Nat → Addr} {base : Nat} (h : Glob w E base) (hb : Below base w w') : Glob w' E base :=
  ⟨h.errs.below hb, (hb.cell (p := ⟨_, 0, none⟩) h.lt.1).trans h.eof, (hb.cell (p := ⟨_, 0, none⟩) h.lt.2.1).trans h.tooLong, (hb.cell (p := ⟨_, 0, none⟩) h.lt.2.2.1).trans h.neg,
    (hb.cell (p := ⟨_, 0, none⟩) h.lt.2.2.2.1).trans h.far, (hb.cell (p := ⟨_, 0, none⟩) h.lt.2.2.2.2).trans h.fin, h.lt⟩

/-- The scanner's eleven cells. -/
abbrev scCells (cf : Cfg) {σ : Type} (x : Sm σ) (tokv : Value) (called : Bool) (ba : Option Addr) (L s e : Nat) : Array Value :=
  #[.iface 98 (.pointer (some ⟨cf.R, 0, none⟩)), .func (.func cf.f) cf.first cf.cap, .int .i64 cf.max, tokv, .slice ba L L, .int .i64 (s : Int), .int .i64 (e : Int), errV cf.E x.err, .int .i64 (x.emp : Int), .bool called, .bool x.done]

/-- All but the scanner's own block. -/
structure SRest {σ : Type} (cf : Cfg) (SI : σ → List Nat → World → Prop) (x : Sm σ) (ba : Option Addr) (L s e : Nat) (bytes : List UInt8) (pa : Option Addr) (pcs : List Int) (pc : Nat) (pl bl osp : List Nat) (w : World) : Prop where
  hR : w.heap[cf.R]? = some (.cells #[.string ⟨x.rest.toArray⟩, .slice pa pcs.length pc, .bool cf.tog, errV cf.E (some cf.endE)] 116 (0, 0))
  hp : ∀ i c, pcs[i]? = some c → ∃ b o, pa = some ⟨b, o, none⟩ ∧ b ∈ pl ∧ w.cell? ⟨b, o + i, none⟩ = some (.int .i64 c)
  hpc : pcs.length ≤ pc ∧ pc ≤ 9223372036854775807
  hb : (ba = none ∧ L = 0 ∧ bl = []) ∨ (∃ D, ba = some ⟨D, 0, none⟩ ∧ bl = [D] ∧ w.heap[D]? = some (.cells (bytes.map bv).toArray 5 (0, 0)))
  hlen : bytes.length = L
  hse : s ≤ e ∧ e ≤ L
  hpend : x.pend = (bytes.drop s).take (e - s)
  hlim : max L cf.max.toNat = cf.lim
  hbig : cf.lim ≤ 4194304
  hrest : x.rest.length ≤ 140737488355328
  hsp : SI x.sp osp w
  herr : ∀ c, x.err = some c → c < 7
  hend : cf.endE < 7
  hg : Glob w cf.E cf.base
  hnd : (cf.B :: cf.R :: (pl ++ bl ++ osp)).Nodup
  hlt : ∀ k, k ∈ cf.B :: cf.R :: (pl ++ bl ++ osp) → cf.base ≤ k ∧ k < w.heap.size
  hemp : x.emp ≤ 101

/-- The scanner lies in memory with the plain state x. -/
structure SInv {σ : Type} (cf : Cfg) (SI : σ → List Nat → World → Prop) (x : Sm σ) (tokv : Value) (called : Bool) (ba : Option Addr) (L s e : Nat) (bytes : List UInt8) (pa : Option Addr) (pcs : List Int) (pc : Nat) (pl bl osp : List Nat) (w : World) : Prop where
  hB : w.heap[cf.B]? = some (.cells (scCells cf x tokv called ba L s e) 106 (0, 0))
  r : SRest cf SI x ba L s e bytes pa pcs pc pl bl osp w

/-- the blocks that a scanner owns -/
abbrev ownOf (cf : Cfg) (pl bl osp : List Nat) : List Nat := cf.B :: cf.R :: (pl ++ bl ++ osp)

/-- The same, what is inside left open. -/
def SOk {σ : Type} (cf : Cfg) (SI : σ → List Nat → World → Prop) (x : Sm σ) (tokv : Value) (called : Bool) (ba : Option Addr) (L : Nat) (own : List Nat) (w : World) : Prop :=
  ∃ s e bytes pa pcs pc pl bl osp, SInv cf SI x tokv called ba L s e bytes pa pcs pc pl bl osp w ∧ own = ownOf cf pl bl osp

/-- What a split function's error is as a value. -/
def codeV (E : Nat → Addr) (c : Nat) : Value := if c = 1 then errV E (some 6) else if c = 2 then errV E (some 4) else .nilIface

/-- A token as a value: nil, or a slice that reads so, in the data or in new memory. -/
def TokAt (w' : World) (ins : Bool) (n : Nat) (a : Option Addr) (tokv : Value) : Option (List UInt8) → Prop
  | none => tokv = .slice none 0 0
  | some t => ∃ p c', tokv = .slice (some p) t.length c' ∧ t.length ≤ c' ∧ c' ≤ 9223372036854775807 ∧ Bytes8 w' (some p) t ∧ (t ≠ [] → p.block < w'.heap.size ∧ ((∃ q, a = some q ∧ p.block = q.block) ∨ n ≤ p.block)) ∧ (ins = true → t ≠ [] → ∃ q, a = some q ∧ p.block = q.block)

/-- What a call of a split function leaves. -/
def SplitPost {σ : Type} (E : Nat → Addr) (SI : σ → List Nat → World → Prop) (ins : Bool) (r : Ans σ) (o : List Nat) (a : Option Addr) (w : World) (en : Ending) (w' : World) : Prop :=
  ∃ tokv o', en = .returned (.tuple #[.int .i64 r.adv, tokv, codeV E r.code]) ∧ SI r.sp o' w' ∧ Off o w w' ∧ Fresh o o' w ∧ o'.Nodup ∧ (∀ k, k ∈ o' → k < w'.heap.size) ∧ TokAt w' ins w.heap.size a tokv r.tok

/-- A split function keeps its word. -/
structure SplitOK {σ : Type} (cf : Cfg) (SI : σ → List Nat → World → Prop) (split : σ → List UInt8 → Bool → Ans σ) (ins : Bool) (fu : σ → Nat := fun _ => 18446744073709551616) : Prop where
  enters : ∀ args w, (callFunc cf.f args).run Tryd.prog w = .ok (.enter cf.f args) w
  stable : ∀ x o w w', SI x o w → (∀ k, k ∈ o → w'.heap[k]? = w.heap[k]?) → Below cf.base w w' → SI x o w'
  calls : ∀ w x o a n c d eof, SI x o w → Glob w cf.E cf.base → (∀ k, k ∈ o → cf.base ≤ k ∧ k < w.heap.size) → o.Nodup → Bytes8 w a d → d.length = n → n ≤ c → c ≤ 4194304 → (d = [] → eof = true) →
    (d ≠ [] → ∃ p, a = some p ∧ p.block ∉ o ∧ p.block < w.heap.size ∧ cf.base ≤ p.block) → 0 < fu x →
    Calls Tryd.prog cf.f (cf.first ++ (#[.slice a n c, .bool eof] ++ cf.cap)) w (SplitPost cf.E SI ins (split x d eof) o a w)
  fuel : ∀ x d b, (split x d b).code = 1 ∨ (split x d b).code = 2 ∨ fu x ≤ fu (split x d b).sp + 1

theorem heap_setCell_at {w : World} {g i : Nat} {c : Array Value} {t : TypeId} {fz : Nat × Nat} (h : w.heap[g]? = some (.cells c t fz)) (v : Value) : (w.setCell ⟨g, i, none⟩ v).heap[g]? = some (.cells (c.setIfInBounds i v) t fz) := by
  simp [World.setCell, Array.getElem?_modify, h]
theorem heap_setCell_not {w : World} {g k i : Nat} (h : k ≠ g) (v : Value) : (w.setCell ⟨g, i, none⟩ v).heap[k]? = w.heap[k]? := Below.heap_setCell w ⟨g, i, none⟩ v k h
theorem cell_of_heap {w : World} {g i : Nat} {c : Array Value} {t : TypeId} {fz : Nat × Nat} (h : w.heap[g]? = some (.cells c t fz)) : w.cell? ⟨g, i, none⟩ = c[i]? := by
  simp [World.cell?, h]
theorem frozen_of_heap {w : World} {g : Nat} {c : Array Value} {t : TypeId} (h : w.heap[g]? = some (.cells c t (0, 0))) (i : Nat) : w.frozen? ⟨g, i, none⟩ = false := by
  simp [World.frozen?, h]

section
variable {σ : Type} {cf : Cfg} {SI : σ → List Nat → World → Prop} {split : σ → List UInt8 → Bool → Ans σ} {ins : Bool} {fu : σ → Nat} {x : Sm σ} {tokv : Value} {called : Bool} {ba : Option Addr} {L s e : Nat} {bytes : List UInt8} {pa : Option Addr} {pcs : List Int} {pc : Nat} {pl bl osp : List Nat} {w w' : World}

theorem SRest.sizes (h : SRest cf SI x ba L s e bytes pa pcs pc pl bl osp w) : cf.base ≤ w.heap.size := by
  have := h.hlt cf.B (by simp)
  omega

/-- All but the scanner's own block stays where only that block, or others' blocks, have turned. -/
theorem SRest.frame (hs : SplitOK cf SI split ins fu) (h : SRest cf SI x ba L s e bytes pa pcs pc pl bl osp w) (hb : Below cf.base w w') (hk : ∀ k, k ∈ cf.R :: (pl ++ bl ++ osp) → w'.heap[k]? = w.heap[k]?) :
    SRest cf SI x ba L s e bytes pa pcs pc pl bl osp w' where
  hR := (hk _ (by simp)).trans h.hR
  hp := fun i c hc => by
    obtain ⟨b, o, e1, hm, hcell⟩ := h.hp i c hc
    exact ⟨b, o, e1, hm, (World.cell?_of_block (a := ⟨b, o + i, none⟩) (hk b (by simp [hm]))).trans hcell⟩
  hpc := h.hpc
  hb := by
    rcases h.hb with h1 | ⟨D, e1, e2, h1⟩
    · exact .inl h1
    · exact .inr ⟨D, e1, e2, (hk D (by simp [e2])).trans h1⟩
  hlen := h.hlen
  hse := h.hse
  hpend := h.hpend
  hlim := h.hlim
  hbig := h.hbig
  hrest := h.hrest
  hsp := hs.stable _ _ _ _ h.hsp (fun k hk' => hk k (by simp [hk'])) hb
  herr := h.herr
  hend := h.hend
  hg := h.hg.below hb
  hnd := h.hnd
  hlt := fun k hk' => ⟨(h.hlt k hk').1, Nat.lt_of_lt_of_le (h.hlt k hk').2 hb.size⟩
  hemp := h.hemp

/-- .. and where what SRest says of the plain state is the same. -/
theorem SRest.with (h : SRest cf SI x ba L s e bytes pa pcs pc pl bl osp w) (x' : Sm σ) (h1 : x'.rest = x.rest) (h2 : x'.pend = x.pend) (h3 : x'.sp = x.sp) (h4 : ∀ c, x'.err = some c → c < 7) (h5 : x'.emp ≤ 101) :
    SRest cf SI x' ba L s e bytes pa pcs pc pl bl osp w :=
  ⟨by rw [h1]; exact h.hR, h.hp, h.hpc, h.hb, h.hlen, h.hse, by rw [h2]; exact h.hpend, h.hlim, h.hbig, by rw [h1]; exact h.hrest, by rw [h3]; exact h.hsp, h4, h.hend, h.hg, h.hnd, h.hlt, h5⟩

theorem SRest.notB (h : SRest cf SI x ba L s e bytes pa pcs pc pl bl osp w) {k : Nat} (hk : k ∈ cf.R :: (pl ++ bl ++ osp)) : k ≠ cf.B := fun e1 => by
  have := (List.nodup_cons.1 h.hnd).1
  exact this (e1 ▸ hk)
theorem SRest.frozenB (hB : w.heap[cf.B]? = some (.cells (scCells cf x tokv called ba L s e) 106 (0, 0))) : ∀ o, w.frozen? ⟨cf.B, o, none⟩ = false := frozen_of_heap hB

/-- a store into the scanner's own block -/
theorem SRest.store (hs : SplitOK cf SI split ins fu) (h : SRest cf SI x ba L s e bytes pa pcs pc pl bl osp w) (i : Nat) (v : Value) : SRest cf SI x ba L s e bytes pa pcs pc pl bl osp (w.setCell ⟨cf.B, i, none⟩ v) :=
  h.frame hs ((Below.refl _ _).setCell (h.hlt cf.B (by simp)).1 v) fun _ hk => heap_setCell_not (h.notB hk) v
theorem SRest.draws (hs : SplitOK cf SI split ins fu) (h : SRest cf SI x ba L s e bytes pa pcs pc pl bl osp w) (n : Nat) : SRest cf SI x ba L s e bytes pa pcs pc pl bl osp (w.drewN n) :=
  h.frame hs (below_drewN (Below.refl _ _) n) fun _ _ => rfl
end
end Go.Proofs.YtkclapimgmnldaaDoor

/-
  Scan's first piece: the call of the split function and what comes of its answer.
-/
namespace Go.Proofs.YtkclapimgmnldaaDoor
set_option linter.unusedVariables false
set_option linter.unusedSimpArgs false
set_option maxRecDepth 20000
open Go.RowKit

section
variable {σ : Type} {cf : Cfg} {SI : σ → List Nat → World → Prop} {split : σ → List UInt8 → Bool → Ans σ} {ins : Bool} {x : Sm σ} {tokv : Value} {called : Bool} {ba : Option Addr} {L s e : Nat} {bytes : List UInt8} {pa : Option Addr} {pcs : List Int} {pc : Nat} {pl bl osp : List Nat} {w : World}

theorem SInv.c0 (h : SInv cf SI x tokv called ba L s e bytes pa pcs pc pl bl osp w) : w.cell? ⟨cf.B, 0, none⟩ = some (.iface 98 (.pointer (some ⟨cf.R, 0, none⟩))) := cell_of_heap h.hB
theorem SInv.c1 (h : SInv cf SI x tokv called ba L s e bytes pa pcs pc pl bl osp w) : w.cell? ⟨cf.B, 1, none⟩ = some (.func (.func cf.f) cf.first cf.cap) := cell_of_heap h.hB
theorem SInv.c2 (h : SInv cf SI x tokv called ba L s e bytes pa pcs pc pl bl osp w) : w.cell? ⟨cf.B, 2, none⟩ = some (.int .i64 cf.max) := cell_of_heap h.hB
theorem SInv.c3 (h : SInv cf SI x tokv called ba L s e bytes pa pcs pc pl bl osp w) : w.cell? ⟨cf.B, 3, none⟩ = some tokv := cell_of_heap h.hB
theorem SInv.c4 (h : SInv cf SI x tokv called ba L s e bytes pa pcs pc pl bl osp w) : w.cell? ⟨cf.B, 4, none⟩ = some (.slice ba L L) := cell_of_heap h.hB
theorem SInv.c5 (h : SInv cf SI x tokv called ba L s e bytes pa pcs pc pl bl osp w) : w.cell? ⟨cf.B, 5, none⟩ = some (.int .i64 (s : Int)) := cell_of_heap h.hB
theorem SInv.c6 (h : SInv cf SI x tokv called ba L s e bytes pa pcs pc pl bl osp w) : w.cell? ⟨cf.B, 6, none⟩ = some (.int .i64 (e : Int)) := cell_of_heap h.hB
theorem SInv.c7 (h : SInv cf SI x tokv called ba L s e bytes pa pcs pc pl bl osp w) : w.cell? ⟨cf.B, 7, none⟩ = some (errV cf.E x.err) := cell_of_heap h.hB
theorem SInv.c8 (h : SInv cf SI x tokv called ba L s e bytes pa pcs pc pl bl osp w) : w.cell? ⟨cf.B, 8, none⟩ = some (.int .i64 (x.emp : Int)) := cell_of_heap h.hB
theorem SInv.c9 (h : SInv cf SI x tokv called ba L s e bytes pa pcs pc pl bl osp w) : w.cell? ⟨cf.B, 9, none⟩ = some (.bool called) := cell_of_heap h.hB
theorem SInv.c10 (h : SInv cf SI x tokv called ba L s e bytes pa pcs pc pl bl osp w) : w.cell? ⟨cf.B, 10, none⟩ = some (.bool x.done) := cell_of_heap h.hB
end

set_option maxRecDepth 100000 in
set_option maxHeartbeats 1000000 in
/-- nothing pending, no error: no call -/
theorem m1_skip (B s : Nat) (a : Act) (w : World) (Q : Exit → Act → World → Prop) (hF : Fr B a)
    (h5 : w.cell? ⟨B, 5, none⟩ = some (.int .i64 (s : Int))) (h6 : w.cell? ⟨B, 6, none⟩ = some (.int .i64 (s : Int))) (h7 : w.cell? ⟨B, 7, none⟩ = some .nilIface)
    (hn : ∀ a' n, Fr B a' → Q .normal a' (w.drewN n)) : Code.wp Tryd.prog m1 Q a w := by
  obtain ⟨v2, v3, v4, v5, f, rfl⟩ := hF
  have HN := Lib.hid hn
  clear hn
  have hd : decide ((s : Int) < (s : Int)) = false := by simp
  conv => arg 2; whnf
  unfold fr
  go_wp2
  go_quiet (fail)
  go_wp2
  exact HN.out _ _ (Fr.of _ _ rfl rfl rfl)

set_option maxRecDepth 100000 in
set_option maxHeartbeats 2000000 in
/-- something pending or an error: the split function is called with what is pending -/
theorem m1_call (B s e L : Nat) (ba : Option Addr) (f : FuncId) (first cap : Array Value) (ev : Value) (eof : Bool) (a : Act) (w : World) (Q : Exit → Act → World → Prop) (hF : Fr B a)
    (h1 : w.cell? ⟨B, 1, none⟩ = some (.func (.func f) first cap)) (h4 : w.cell? ⟨B, 4, none⟩ = some (.slice ba L L))
    (h5 : w.cell? ⟨B, 5, none⟩ = some (.int .i64 (s : Int))) (h6 : w.cell? ⟨B, 6, none⟩ = some (.int .i64 (e : Int))) (h7 : w.cell? ⟨B, 7, none⟩ = some ev)
    (hev : (ev = .nilIface ∧ eof = false) ∨ (∃ t y, ev = .iface t y ∧ eof = true)) (hc : s < e ∨ eof = true) (hse : s ≤ e) (heL : e ≤ L) (_hL : L ≤ 4194304)
    (hent : ∀ args w, (callFunc f args).run Tryd.prog w = .ok (.enter f args) w)
    (R : Ending → World → Prop)
    (dp : Option Addr) (hdp : (L = s ∧ dp = ba) ∨ (¬ L = s ∧ dp = ba.map (·.add s)))
    (hcall : ∀ n, Calls Tryd.prog f (first ++ (#[.slice dp (e - s) (L - s), .bool eof] ++ cap)) (w.drewN n) R)
    (hgo : ∀ a' w' adv tokv er, R (.returned (.tuple #[.int .i64 adv, tokv, er])) w' → (∃ v2 g, a' = fr B v2 (.int .i64 adv) tokv er g) → Code.wp Tryd.prog m1r Q a' w')
    (hR : ∀ en w', R en w' → ∃ adv tokv er, en = .returned (.tuple #[.int .i64 adv, tokv, er])) : Code.wp Tryd.prog m1 Q a w := by
  obtain ⟨v2, v3, v4, v5, g, rfl⟩ := hF
  have HG := Lib.hid hgo
  have HR := Lib.hid hR
  have HC := Lib.hid hcall
  clear hgo hR hcall
  conv => arg 2; whnf
  unfold fr
  rcases hev with ⟨rfl, rfl⟩ | ⟨t, y, rfl, rfl⟩
  · have hd : decide (s < e) = true := by simp at hc; simp; omega
    have hlt : s < e := by simpa using hc
    clear hc
    rcases hdp with ⟨h, _⟩ | ⟨hLs, rfl⟩
    · omega
    go_wp2
    go_quiet (fail)
    go_wp2
    refine wp_region_mid 22 (by kernel_rfl) (by kernel_rfl) ?_
    simp only [List.take_succ_cons, List.take_zero, List.drop_succ_cons, List.drop_zero]
    repeat still_step
    refine wpStill_nil ?_
    go_wp2_with fail
    refine (HC.out _).mono ?_
    intro en w' hr
    obtain ⟨adv, tokv, er, rfl⟩ := HR.out _ _ hr
    go_wp2_with fail
    repeat still_step
    refine wpStill_nil ?_
    rename_i K hK
    refine hK _ _ ?_
    exact HG.out _ _ _ _ _ hr ⟨_, _, Fr.mk' _ _ rfl rfl rfl⟩
  · by_cases hlt : s < e
    · have hd : decide (s < e) = true := by simpa using hlt
      clear hc
      rcases hdp with ⟨h, _⟩ | ⟨hLs, rfl⟩
      · omega
      go_wp2
      go_quiet (fail)
      go_wp2
      refine wp_region_mid 22 (by kernel_rfl) (by kernel_rfl) ?_
      simp only [List.take_succ_cons, List.take_zero, List.drop_succ_cons, List.drop_zero]
      repeat still_step
      refine wpStill_nil ?_
      go_wp2_with fail
      refine (HC.out _).mono ?_
      intro en w' hr
      obtain ⟨adv, tokv, er, rfl⟩ := HR.out _ _ hr
      go_wp2_with fail
      repeat still_step
      refine wpStill_nil ?_
      rename_i K hK
      refine hK _ _ ?_
      exact HG.out _ _ _ _ _ hr ⟨_, _, Fr.mk' _ _ rfl rfl rfl⟩
    · obtain rfl : s = e := by omega
      clear hc
      rcases hdp with ⟨rfl, rfl⟩ | ⟨hLs, rfl⟩
      · have hd : decide ((L : Int) < (L : Int)) = false := by simp
        simp only [Nat.sub_self] at HC
        go_wp2
        go_quiet (fail)
        go_wp2
        refine wp_region_mid 22 (by kernel_rfl) (by kernel_rfl) ?_
        simp only [List.take_succ_cons, List.take_zero, List.drop_succ_cons, List.drop_zero]
        repeat still_step
        refine wpStill_nil ?_
        go_wp2_with fail
        refine (HC.out _).mono ?_
        intro en w' hr
        obtain ⟨adv, tokv, er, rfl⟩ := HR.out _ _ hr
        go_wp2_with fail
        repeat still_step
        refine wpStill_nil ?_
        rename_i K hK
        refine hK _ _ ?_
        exact HG.out _ _ _ _ _ hr ⟨_, _, Fr.mk' _ _ rfl rfl rfl⟩
      · have hd : decide ((s : Int) < (s : Int)) = false := by simp
        simp only [Nat.sub_self] at HC
        go_wp2
        go_quiet (fail)
        go_wp2
        refine wp_region_mid 22 (by kernel_rfl) (by kernel_rfl) ?_
        simp only [List.take_succ_cons, List.take_zero, List.drop_succ_cons, List.drop_zero]
        repeat still_step
        refine wpStill_nil ?_
        go_wp2_with fail
        refine (HC.out _).mono ?_
        intro en w' hr
        obtain ⟨adv, tokv, er, rfl⟩ := HR.out _ _ hr
        go_wp2_with fail
        repeat still_step
        refine wpStill_nil ?_
        rename_i K hK
        refine hK _ _ ?_
        exact HG.out _ _ _ _ _ hr ⟨_, _, Fr.mk' _ _ rfl rfl rfl⟩
end Go.Proofs.YtkclapimgmnldaaDoor

/-
  What comes of the split function's answer, piece by piece: setErr, advance, and Scan's own text behind the call.
-/
namespace Go.Proofs.YtkclapimgmnldaaDoor
set_option linter.unusedVariables false
set_option linter.unusedSimpArgs false
set_option maxRecDepth 20000
open Go.RowKit

/-- the world behind setErr -/
def errW (w : World) (B : Nat) (E : Nat → Addr) (x : Option Nat) (c : Nat) : World :=
  if x = none ∨ x = some 0 then w.setCell ⟨B, 7, none⟩ (.iface 124 (.pointer (some (E c)))) else w

theorem setErr_any (B c : Nat) (w : World) (E : Nat → Addr) (base : Nat) (x : Option Nat) (hg : Glob w E base) (hx : ∀ d, x = some d → d < 7)
    (hc : w.cell? ⟨B, 7, none⟩ = some (errV E x)) (hf : w.frozen? ⟨B, 7, none⟩ = false) :
    Calls Tryd.prog 56 #[.pointer (some ⟨B, 0, none⟩), .iface 124 (.pointer (some (E c)))] w fun e w' => e = .returned (.tuple #[]) ∧ ∃ n, w' = (errW w B E x c).drewN n := by
  cases x with
  | none => simpa [errW] using setErr_nil B (E c) w hc hf
  | some d =>
    by_cases hd : d = 0
    · subst hd; simpa [errW] using setErr_eof B (E c) w E base hg.errs hc hf hg.eof
    · have := setErr_other B d (E c) w E base hg.errs (hx d rfl) hd hc hg.eof
      simpa [errW, hd] using this

theorem errW_drewN (w : World) (B : Nat) (E : Nat → Addr) (x : Option Nat) (c q : Nat) : errW (w.drewN q) B E x c = (errW w B E x c).drewN q := by
  unfold errW; split <;> rfl

section advance
variable (B s e : Nat) (n : Int) (w : World) (E : Nat → Addr) (base : Nat) (x : Option Nat)

set_option maxHeartbeats 400000 in
theorem advance_neg (hg : Glob w E base) (hx : ∀ d, x = some d → d < 7) (hc : w.cell? ⟨B, 7, none⟩ = some (errV E x)) (hf : w.frozen? ⟨B, 7, none⟩ = false) (hn : n < 0) :
    Calls Tryd.prog 57 #[.pointer (some ⟨B, 0, none⟩), .int .i64 n] w fun en w' => en = .returned (.bool false) ∧ ∃ k, w' = (errW w B E x 2).drewN k := by
  have HC := Lib.hid (setErr_any B 2 w E base x hg hx hc hf)
  have h2 := hg.neg
  clear hg hx hc hf
  go_enter Tryd.func57, Tryd.ntmps57
  go_wp2_with fail
  refine HC.out.mono ?_
  rintro en w' ⟨rfl, k, rfl⟩
  go_wp2
  go_ret
  exact ⟨rfl, _, rfl⟩

set_option maxHeartbeats 400000 in
theorem advance_far (hg : Glob w E base) (hx : ∀ d, x = some d → d < 7) (hc : w.cell? ⟨B, 7, none⟩ = some (errV E x)) (hf : w.frozen? ⟨B, 7, none⟩ = false)
    (h5 : w.cell? ⟨B, 5, none⟩ = some (.int .i64 (s : Int))) (h6 : w.cell? ⟨B, 6, none⟩ = some (.int .i64 (e : Int))) (hse : s ≤ e) (he : e ≤ 4194304) (hn : (e : Int) - s < n) :
    Calls Tryd.prog 57 #[.pointer (some ⟨B, 0, none⟩), .int .i64 n] w fun en w' => en = .returned (.bool false) ∧ ∃ k, w' = (errW w B E x 3).drewN k := by
  have HC := Lib.hid fun q => setErr_any B 3 (w.drewN q) E base x (hg.below (below_drewN (Below.refl _ _) q)) hx hc hf
  have h2 := hg.far
  have h0 : ¬ n < 0 := by omega
  clear hg hx hc hf
  go_enter Tryd.func57, Tryd.ntmps57
  go_wp2_with fail
  go_quiet (fail)
  go_wp2_with fail
  refine (HC.out _).mono ?_
  rintro en w' ⟨rfl, k, rfl⟩
  go_wp2
  go_ret
  exact ⟨rfl, _, by rw [errW_drewN, World.drewN_drewN]⟩

set_option maxHeartbeats 400000 in
theorem advance_ok (hf : w.frozen? ⟨B, 5, none⟩ = false)
    (h5 : w.cell? ⟨B, 5, none⟩ = some (.int .i64 (s : Int))) (h6 : w.cell? ⟨B, 6, none⟩ = some (.int .i64 (e : Int))) (hse : s ≤ e) (he : e ≤ 4194304) (k : Nat) (hn : k ≤ e - s) :
    Calls Tryd.prog 57 #[.pointer (some ⟨B, 0, none⟩), .int .i64 (k : Int)] w fun en w' => en = .returned (.bool true) ∧ ∃ q, w' = (w.setCell ⟨B, 5, none⟩ (.int .i64 ((s + k : Nat) : Int))).drewN q := by
  have h0 : ¬ (k : Int) < 0 := by omega
  go_enter Tryd.func57, Tryd.ntmps57
  go_wp2_with fail
  go_quiet (fail)
  go_wp2_with fail
  go_ret
  exact ⟨rfl, _, rfl⟩
end advance

theorem neq_nil_some (w : World) (p : Addr) (n c : Nat) : (binOp .neq 101 (.slice (some p) n c) (.slice none 0 0)).run Tryd.prog w = .ok (.bool true) w :=
  run_neq_slice_nil_any w 101 5 (some p) n c 0 0 Tryd.underlying101
theorem neq_nil_none (w : World) : (binOp .neq 101 (.slice none 0 0) (.slice none 0 0)).run Tryd.prog w = .ok (.bool false) w :=
  run_neq_slice_nil_any w 101 5 none 0 0 0 0 Tryd.underlying101

set_option maxRecDepth 100000 in
set_option maxHeartbeats 1000000 in
/-- the final token -/
theorem r_final (B : Nat) (w : World) (E : Nat → Addr) (base : Nat) (Q : Exit → Act → World → Prop) (v2 : Value) (adv : Int) (g : Nat → Value) (hg : Glob w E base) (hf : ∀ o, w.frozen? ⟨B, o, none⟩ = false)
    (ta : Option Addr) (tn tc : Nat) (b : Bool) (hb : (ta = none ∧ tn = 0 ∧ tc = 0 ∧ b = false) ∨ (∃ p, ta = some p ∧ b = true)) (v3 v10 : Value) (h3 : w.cell? ⟨B, 3, none⟩ = some v3) (h10 : w.cell? ⟨B, 10, none⟩ = some v10)
    (hret : ∀ a', Fr B a' → a'.tmps[2]? = some (.bool b) → Q .ret a' ((w.setCell ⟨B, 3, none⟩ (.slice ta tn tc)).setCell ⟨B, 10, none⟩ (.bool true))) :
    Code.wp Tryd.prog m1r Q (fr B v2 (.int .i64 adv) (.slice ta tn tc) (.iface 124 (.pointer (some (E 6)))) g) w := by
  have h6 := hg.fin
  have he := eql_errs hg.errs 6 6 (by omega) (by omega)
  have HR := Lib.hid hret
  clear hret hg
  conv => arg 2; whnf
  unfold fr
  rcases hb with ⟨rfl, rfl, rfl, rfl⟩ | ⟨p, rfl, rfl⟩
  · have hq := neq_nil_none
    go_wp2
    exact HR.out _ (Fr.of _ _ rfl rfl rfl) rfl
  · have hq := fun w => neq_nil_some w p tn tc
    go_wp2
    exact HR.out _ (Fr.of _ _ rfl rfl rfl) rfl

set_option maxRecDepth 100000 in
set_option maxHeartbeats 1000000 in
/-- the split function's own error -/
theorem r_fail (B : Nat) (w : World) (E : Nat → Addr) (base : Nat) (x : Option Nat) (Q : Exit → Act → World → Prop) (v2 tokv : Value) (adv : Int) (g : Nat → Value) (hg : Glob w E base) (hf : ∀ o, w.frozen? ⟨B, o, none⟩ = false)
    (hx : ∀ d, x = some d → d < 7) (hc : w.cell? ⟨B, 7, none⟩ = some (errV E x))
    (hret : ∀ a' n, Fr B a' → a'.tmps[2]? = some (.bool false) → Q .ret a' ((errW w B E x 4).drewN n)) :
    Code.wp Tryd.prog m1r Q (fr B v2 (.int .i64 adv) tokv (.iface 124 (.pointer (some (E 4)))) g) w := by
  have h6 := hg.fin
  have he := eql_errs hg.errs 4 6 (by omega) (by omega)
  have HC := Lib.hid (setErr_any B 4 w E base x hg hx hc (hf 7))
  have HR := Lib.hid hret
  clear hret hg hx hc
  conv => arg 2; whnf
  unfold fr
  go_wp2_with fail
  refine HC.out.mono ?_
  rintro en w' ⟨rfl, n, rfl⟩
  go_wp2_with fail
  exact HR.out _ _ (Fr.of _ _ rfl rfl rfl) rfl

set_option maxRecDepth 100000 in
set_option maxHeartbeats 1000000 in
/-- an advance below 0 or beyond the data -/
theorem r_badAdvance (B c : Nat) (w : World) (E : Nat → Addr) (x : Option Nat) (Q : Exit → Act → World → Prop) (v2 tokv : Value) (adv : Int) (g : Nat → Value)
    (hcall : Calls Tryd.prog 57 #[.pointer (some ⟨B, 0, none⟩), .int .i64 adv] w fun en w' => en = .returned (.bool false) ∧ ∃ k, w' = (errW w B E x c).drewN k)
    (hret : ∀ a' n, Fr B a' → a'.tmps[2]? = some (.bool false) → Q .ret a' ((errW w B E x c).drewN n)) :
    Code.wp Tryd.prog m1r Q (fr B v2 (.int .i64 adv) tokv .nilIface g) w := by
  have HC := Lib.hid hcall
  have HR := Lib.hid hret
  clear hret hcall
  conv => arg 2; whnf
  unfold fr
  go_wp2_with fail
  refine HC.out.mono ?_
  rintro en w' ⟨rfl, n, rfl⟩
  go_wp2_with fail
  exact HR.out _ _ (Fr.of _ _ rfl rfl rfl) rfl

set_option maxRecDepth 100000 in
set_option maxHeartbeats 1000000 in
/-- no token: on -/
theorem r_none (B s' : Nat) (w : World) (Q : Exit → Act → World → Prop) (v2 : Value) (adv : Int) (g : Nat → Value)
    (hcall : Calls Tryd.prog 57 #[.pointer (some ⟨B, 0, none⟩), .int .i64 adv] w fun en w' => en = .returned (.bool true) ∧ ∃ q, w' = (w.setCell ⟨B, 5, none⟩ (.int .i64 (s' : Int))).drewN q)
    (hf : ∀ o, w.frozen? ⟨B, o, none⟩ = false) (v3 : Value) (h3 : w.cell? ⟨B, 3, none⟩ = some v3)
    (hn : ∀ a' q, Fr B a' → Q .normal a' (((w.setCell ⟨B, 5, none⟩ (.int .i64 (s' : Int))).setCell ⟨B, 3, none⟩ (.slice none 0 0)).drewN q)) :
    Code.wp Tryd.prog m1r Q (fr B v2 (.int .i64 adv) (.slice none 0 0) .nilIface g) w := by
  have HC := Lib.hid hcall
  have HR := Lib.hid hn
  clear hn hcall
  have hq := neq_nil_none
  conv => arg 2; whnf
  unfold fr
  go_wp2_with fail
  refine HC.out.mono ?_
  rintro en w' ⟨rfl, n, rfl⟩
  go_wp2_with fail
  exact HR.out _ _ (Fr.of _ _ rfl rfl rfl)

section tok
variable (B s' tn tc : Nat) (w : World) (Q : Exit → Act → World → Prop) (v2 : Value) (k : Nat) (p : Addr) (g : Nat → Value) (ev : Value) (m : Nat)

/-- the world behind a token: where it starts, the token, the count -/
abbrev tokW (w : World) (B s' : Nat) (p : Addr) (tn tc m : Nat) : World :=
  ((w.setCell ⟨B, 5, none⟩ (.int .i64 (s' : Int))).setCell ⟨B, 3, none⟩ (.slice (some p) tn tc)).setCell ⟨B, 8, none⟩ (.int .i64 (m : Int))

set_option maxRecDepth 100000 in
set_option maxHeartbeats 1000000 in
theorem r_tok_zero (hcall : Calls Tryd.prog 57 #[.pointer (some ⟨B, 0, none⟩), .int .i64 (k : Int)] w fun en w' => en = .returned (.bool true) ∧ ∃ q, w' = (w.setCell ⟨B, 5, none⟩ (.int .i64 (s' : Int))).drewN q)
    (hf : ∀ o, w.frozen? ⟨B, o, none⟩ = false) (v3 : Value) (h3 : w.cell? ⟨B, 3, none⟩ = some v3) (h8 : w.cell? ⟨B, 8, none⟩ = some (.int .i64 (m : Int))) (h7 : w.cell? ⟨B, 7, none⟩ = some ev)
    (hev : ev = .nilIface ∨ (∃ t y, ev = .iface t y) ∧ 0 < k)
    (hret : ∀ a' q, Fr B a' → a'.tmps[2]? = some (.bool true) → Q .ret a' ((tokW w B s' p tn tc 0).drewN q)) :
    Code.wp Tryd.prog m1r Q (fr B v2 (.int .i64 (k : Int)) (.slice (some p) tn tc) .nilIface g) w := by
  have HC := Lib.hid hcall
  have HR := Lib.hid hret
  clear hret hcall
  have hq := fun w => neq_nil_some w p tn tc
  conv => arg 2; whnf
  unfold fr
  rcases hev with rfl | ⟨⟨t, y, rfl⟩, hk⟩
  · go_wp2_with fail
    refine HC.out.mono ?_
    rintro en w' ⟨rfl, n, rfl⟩
    go_wp2_with fail
    exact HR.out _ _ (Fr.of _ _ rfl rfl rfl) rfl
  · go_wp2_with fail
    refine HC.out.mono ?_
    rintro en w' ⟨rfl, n, rfl⟩
    go_wp2_with fail
    exact HR.out _ _ (Fr.of _ _ rfl rfl rfl) rfl

set_option maxRecDepth 100000 in
set_option maxHeartbeats 1000000 in
theorem r_tok_more (hcall : Calls Tryd.prog 57 #[.pointer (some ⟨B, 0, none⟩), .int .i64 0] w fun en w' => en = .returned (.bool true) ∧ ∃ q, w' = (w.setCell ⟨B, 5, none⟩ (.int .i64 (s' : Int))).drewN q)
    (hf : ∀ o, w.frozen? ⟨B, o, none⟩ = false) (v3 : Value) (h3 : w.cell? ⟨B, 3, none⟩ = some v3) (h8 : w.cell? ⟨B, 8, none⟩ = some (.int .i64 (m : Int))) (h7 : w.cell? ⟨B, 7, none⟩ = some ev)
    (hev : ∃ t y, ev = .iface t y) (hm : m + 1 ≤ 100)
    (hret : ∀ a' q, Fr B a' → a'.tmps[2]? = some (.bool true) → Q .ret a' ((tokW w B s' p tn tc (m + 1)).drewN q)) :
    Code.wp Tryd.prog m1r Q (fr B v2 (.int .i64 0) (.slice (some p) tn tc) .nilIface g) w := by
  have HC := Lib.hid hcall
  have HR := Lib.hid hret
  clear hret hcall
  have hq := fun w => neq_nil_some w p tn tc
  conv => arg 2; whnf
  unfold fr
  obtain ⟨t, y, rfl⟩ := hev
  go_wp2_with fail
  refine HC.out.mono ?_
  rintro en w' ⟨rfl, n, rfl⟩
  go_wp2_with fail
  exact HR.out _ _ (Fr.of _ _ rfl rfl rfl) rfl

set_option maxRecDepth 100000 in
set_option maxHeartbeats 1000000 in
theorem r_tok_dies (hcall : Calls Tryd.prog 57 #[.pointer (some ⟨B, 0, none⟩), .int .i64 0] w fun en w' => en = .returned (.bool true) ∧ ∃ q, w' = (w.setCell ⟨B, 5, none⟩ (.int .i64 (s' : Int))).drewN q)
    (hf : ∀ o, w.frozen? ⟨B, o, none⟩ = false) (v3 : Value) (h3 : w.cell? ⟨B, 3, none⟩ = some v3) (h8 : w.cell? ⟨B, 8, none⟩ = some (.int .i64 (m : Int))) (h7 : w.cell? ⟨B, 7, none⟩ = some ev)
    (hev : ∃ t y, ev = .iface t y) (hm : 100 < m + 1) (hm2 : m ≤ 1000)
    (hret : ∀ a' q y, a'.defers = [] → Q (.panic [{ v := .iface 9 y, recovered := false }]) a' ((tokW w B s' p tn tc (m + 1)).drewN q)) :
    Code.wp Tryd.prog m1r Q (fr B v2 (.int .i64 0) (.slice (some p) tn tc) .nilIface g) w := by
  have HC := Lib.hid hcall
  have HR := Lib.hid hret
  clear hret hcall
  have hq := fun w => neq_nil_some w p tn tc
  conv => arg 2; whnf
  unfold fr
  obtain ⟨t, y, rfl⟩ := hev
  go_wp2_with fail
  refine HC.out.mono ?_
  rintro en w' ⟨rfl, n, rfl⟩
  go_wp2_with fail
  exact HR.out _ _ _ rfl
end tok
end Go.Proofs.YtkclapimgmnldaaDoor
