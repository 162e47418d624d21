/-
  Scan's code in pieces, its frame, and the scanner's state in memory.
-/
import Derived.Test.YtkclapimgmnldaaDoorRegion
import Derived.Test.YtkclapimgmnldaaDoorLib
import Derived.Shelf.Abstract
namespace Go.Proofs.YtkclapimgmnldaaDoor
set_option linter.unusedVariables false
set_option linter.unusedSimpArgs false
set_option maxRecDepth 20000
open Go.RowKit

def loopOf : Code → Option Code
  | .loop c => some c
  | .seq a b => (loopOf a).or (loopOf b)
  | .block _ c => loopOf c
  | .scope c => loopOf c
  | .cond _ a b => (loopOf a).or (loopOf b)
  | _ => none
def sL : Code → Code | .seq a _ => a | c => c
def sR : Code → Code | .seq _ b => b | c => c
def inB : Code → Code | .block _ c => c | c => c
def cT : Code → Code | .cond _ a _ => a | c => c
noncomputable def body1 : Code := inB ((Tryd.f47.body.bind loopOf).getD .skip)
noncomputable def m1 : Code := sL body1
noncomputable def m1r : Code := sR (cT (sR m1))
noncomputable def m2 : Code := sL (sR body1)
noncomputable def m3 : Code := sL (sR (sR body1))
noncomputable def m4 : Code := sL (sR (sR (sR body1)))
noncomputable def m4g : Code := sR (cT (sR m4))
noncomputable def m5 : Code := sR (sR (sR (sR body1)))
noncomputable def m5b : Code := inB ((loopOf m5).getD .skip)

/-- the frame of Scan: slot 0 is the receiver, 2 the result, 3 to 5 what the split function answered -/
def fr (B : Nat) (v2 v3 v4 v5 : Value) (f : Nat → Value) : Act := ⟨#[.pointer (some ⟨B, 0, none⟩), f 1, v2, v3, v4, v5, f 6, f 7, f 8, f 9, f 10, f 11, f 12, f 13, f 14, f 15, f 16, f 17, f 18, f 19, f 20, f 21, f 22, f 23, f 24, f 25, f 26, f 27, f 28, f 29, f 30, f 31, f 32, f 33, f 34, f 35, f 36, f 37, f 38, f 39, f 40, f 41, f 42, f 43, f 44, f 45, f 46, f 47, f 48, f 49, f 50, f 51, f 52, f 53, f 54, f 55, f 56, f 57, f 58, f 59, f 60, f 61, f 62, f 63, f 64, f 65, f 66, f 67, f 68, f 69, f 70, f 71, f 72, f 73, f 74, f 75, f 76, f 77, f 78, f 79, f 80, f 81, f 82, f 83, f 84, f 85, f 86, f 87, f 88, f 89, f 90, f 91, f 92, f 93, f 94, f 95, f 96, f 97, f 98, f 99, f 100, f 101, f 102, f 103, f 104, f 105, f 106, f 107, f 108, f 109, f 110, f 111, f 112, f 113, f 114, f 115, f 116, f 117, f 118, f 119, f 120, f 121, f 122, f 123, f 124, f 125, f 126, f 127, f 128, f 129, f 130, f 131, f 132, f 133, f 134, f 135, f 136, f 137, f 138, f 139, f 140, f 141, f 142, f 143, f 144, f 145, f 146, f 147, f 148, f 149, f 150, f 151, f 152, f 153, f 154, f 155, f 156, f 157, f 158, f 159, f 160, f 161, f 162, f 163, f 164, f 165, f 166, f 167, f 168, f 169, f 170, f 171, f 172, f 173, f 174, f 175, f 176, f 177, f 178, f 179, f 180, f 181, f 182, f 183, f 184, f 185, f 186, f 187, f 188, f 189, f 190, f 191, f 192, f 193, f 194, f 195, f 196, f 197, f 198, f 199, f 200, f 201, f 202, f 203, f 204, f 205, f 206, f 207, f 208, f 209, f 210, f 211, f 212, f 213, f 214, f 215, f 216, f 217, f 218, f 219, f 220, f 221, f 222, f 223, f 224, f 225, f 226, f 227, f 228, f 229, f 230, f 231, f 232, f 233, f 234, f 235, f 236, f 237, f 238, f 239, f 240, f 241, f 242, f 243, f 244, f 245, f 246, f 247, f 248, f 249, f 250, f 251, f 252, f 253, f 254, f 255, f 256, f 257, f 258, f 259, f 260, f 261, f 262, f 263, f 264, f 265, f 266, f 267, f 268, f 269, f 270, f 271, f 272, f 273, f 274, f 275, f 276, f 277, f 278, f 279, f 280, f 281, f 282, f 283, f 284, f 285, f 286, f 287, f 288, f 289, f 290, f 291, f 292, f 293, f 294, f 295, f 296, f 297, f 298, f 299, f 300, f 301, f 302, f 303, f 304, f 305, f 306, f 307, f 308, f 309, f 310, f 311, f 312, f 313, f 314, f 315, f 316, f 317, f 318, f 319, f 320, f 321, f 322, f 323, f 324, f 325, f 326, f 327, f 328, f 329, f 330, f 331, f 332, f 333], []⟩
def Fr (B : Nat) (a : Act) : Prop := ∃ v2 v3 v4 v5 f, a = fr B v2 v3 v4 v5 f

theorem toList_range (a : List Value) (n : Nat) (h : a.length = n) : a = (List.range n).map (fun i => a.getD i undef) := by
  apply List.ext_getElem
  · simp [h]
  · intro i h1 h2
    simp [h1]

set_option maxRecDepth 100000 in
theorem Fr.mk' (B : Nat) (a : Act) (h0 : a.tmps[0]? = some (.pointer (some ⟨B, 0, none⟩))) (hs : a.tmps.size = 334) (hd : a.defers = []) : a = fr B (a.tmps.getD 2 undef) (a.tmps.getD 3 undef) (a.tmps.getD 4 undef) (a.tmps.getD 5 undef) (fun i => a.tmps.getD i undef) := by
  obtain ⟨⟨t⟩, d⟩ := a
  simp only at hd
  subst hd
  have h := toList_range t 334 (by simpa using hs)
  have h0' : t.getD 0 undef = .pointer (some ⟨B, 0, none⟩) := by
    rw [List.getD_eq_getElem?_getD]; rw [show t[0]? = _ from by simpa using h0]; rfl
  have e : ∀ i, (List.toArray t).getD i undef = t.getD i undef := fun i => by simp
  simp only [e]
  unfold fr
  congr 1
  congr 1
  rw [← h0']
  exact h
theorem Fr.of (B : Nat) (a : Act) (h0 : a.tmps[0]? = some (.pointer (some ⟨B, 0, none⟩))) (hs : a.tmps.size = 334) (hd : a.defers = []) : Fr B a := ⟨_, _, _, _, _, Fr.mk' B a h0 hs hd⟩

/-- What does not change while a scanner runs. -/
structure Cfg where
  B : Nat
  R : Nat
  f : FuncId
  first : Array Value
  cap : Array Value
  max : Int
  lim : Nat
  tog : Bool
  endE : Nat
  E : Nat → Addr
  base : Nat

/-- The program's errors as the scanner reads them. -/
structure Glob (w : World) (E : Nat → Addr) (base : Nat) : Prop where
  errs : ErrAt w E base
  eof : w.cell? ⟨6, 0, none⟩ = some (.iface 124 (.pointer (some (E 0))))
  tooLong : w.cell? ⟨2, 0, none⟩ = some (.iface 124 (.pointer (some (E 1))))
  neg : w.cell? ⟨3, 0, none⟩ = some (.iface 124 (.pointer (some (E 2))))
  far : w.cell? ⟨4, 0, none⟩ = some (.iface 124 (.pointer (some (E 3))))
  fin : w.cell? ⟨1, 0, none⟩ = some (.iface 124 (.pointer (some (E 6))))
  lt : 6 < base ∧ 2 < base ∧ 3 < base ∧ 4 < base ∧ 1 < base

theorem Glob.below {w w' : World} {E : Nat → Addr} {base : Nat} (h : Glob w E base) (hb : Below base w w') : Glob w' E base :=
  ⟨h.errs.below hb, (hb.cell (p := ⟨_, 0, none⟩) h.lt.1).trans h.eof, (hb.cell (p := ⟨_, 0, none⟩) h.lt.2.1).trans h.tooLong, (hb.cell (p := ⟨_, 0, none⟩) h.lt.2.2.1).trans h.neg,
    (hb.cell (p := ⟨_, 0, none⟩) h.lt.2.2.2.1).trans h.far, (hb.cell (p := ⟨_, 0, none⟩) h.lt.2.2.2.2).trans h.fin, h.lt⟩

/-- The scanner's eleven cells. -/
abbrev scCells (cf : Cfg) {σ : Type} (x : Sm σ) (tokv : Value) (called : Bool) (ba : Option Addr) (L s e : Nat) : Array Value :=
  #[.iface 98 (.pointer (some ⟨cf.R, 0, none⟩)), .func (.func cf.f) cf.first cf.cap, .int .i64 cf.max, tokv, .slice ba L L, .int .i64 (s : Int), .int .i64 (e : Int), errV cf.E x.err, .int .i64 (x.emp : Int), .bool called, .bool x.done]

/-- All but the scanner's own block. -/
structure SRest {σ : Type} (cf : Cfg) (SI : σ → List Nat → World → Prop) (x : Sm σ) (ba : Option Addr) (L s e : Nat) (bytes : List UInt8) (pa : Option Addr) (pcs : List Int) (pc : Nat) (pl bl osp : List Nat) (w : World) : Prop where
  hR : w.heap[cf.R]? = some (.cells #[.string ⟨x.rest.toArray⟩, .slice pa pcs.length pc, .bool cf.tog, errV cf.E (some cf.endE)] 116 (0, 0))
  hp : ∀ i c, pcs[i]? = some c → ∃ b o, pa = some ⟨b, o, none⟩ ∧ b ∈ pl ∧ w.cell? ⟨b, o + i, none⟩ = some (.int .i64 c)
  hpc : pcs.length ≤ pc ∧ pc ≤ 9223372036854775807
  hb : (ba = none ∧ L = 0 ∧ bl = []) ∨ (∃ D, ba = some ⟨D, 0, none⟩ ∧ bl = [D] ∧ w.heap[D]? = some (.cells (bytes.map bv).toArray 5 (0, 0)))
  hlen : bytes.length = L
  hse : s ≤ e ∧ e ≤ L
  hpend : x.pend = (bytes.drop s).take (e - s)
  hlim : max L cf.max.toNat = cf.lim
  hbig : cf.lim ≤ 4194304
  hrest : x.rest.length ≤ 140737488355328
  hsp : SI x.sp osp w
  herr : ∀ c, x.err = some c → c < 7
  hend : cf.endE < 7
  hg : Glob w cf.E cf.base
  hnd : (cf.B :: cf.R :: (pl ++ bl ++ osp)).Nodup
  hlt : ∀ k, k ∈ cf.B :: cf.R :: (pl ++ bl ++ osp) → cf.base ≤ k ∧ k < w.heap.size
  hemp : x.emp ≤ 101

/-- The scanner lies in memory with the plain state x. -/
structure SInv {σ : Type} (cf : Cfg) (SI : σ → List Nat → World → Prop) (x : Sm σ) (tokv : Value) (called : Bool) (ba : Option Addr) (L s e : Nat) (bytes : List UInt8) (pa : Option Addr) (pcs : List Int) (pc : Nat) (pl bl osp : List Nat) (w : World) : Prop where
  hB : w.heap[cf.B]? = some (.cells (scCells cf x tokv called ba L s e) 106 (0, 0))
  r : SRest cf SI x ba L s e bytes pa pcs pc pl bl osp w

/-- the blocks that a scanner owns -/
abbrev ownOf (cf : Cfg) (pl bl osp : List Nat) : List Nat := cf.B :: cf.R :: (pl ++ bl ++ osp)

/-- The same, what is inside left open. -/
def SOk {σ : Type} (cf : Cfg) (SI : σ → List Nat → World → Prop) (x : Sm σ) (tokv : Value) (called : Bool) (ba : Option Addr) (L : Nat) (own : List Nat) (w : World) : Prop :=
  ∃ s e bytes pa pcs pc pl bl osp, SInv cf SI x tokv called ba L s e bytes pa pcs pc pl bl osp w ∧ own = ownOf cf pl bl osp

/-- What a split function's error is as a value. -/
def codeV (E : Nat → Addr) (c : Nat) : Value := if c = 1 then errV E (some 6) else if c = 2 then errV E (some 4) else .nilIface

/-- A token as a value: nil, or a slice that reads so, in the data or in new memory. -/
def TokAt (w' : World) (ins : Bool) (n : Nat) (a : Option Addr) (tokv : Value) : Option (List UInt8) → Prop
  | none => tokv = .slice none 0 0
  | some t => ∃ p c', tokv = .slice (some p) t.length c' ∧ t.length ≤ c' ∧ c' ≤ 9223372036854775807 ∧ Bytes8 w' (some p) t ∧ (t ≠ [] → p.block < w'.heap.size ∧ ((∃ q, a = some q ∧ p.block = q.block) ∨ n ≤ p.block)) ∧ (ins = true → t ≠ [] → ∃ q, a = some q ∧ p.block = q.block)

/-- What a call of a split function leaves. -/
def SplitPost {σ : Type} (E : Nat → Addr) (SI : σ → List Nat → World → Prop) (ins : Bool) (r : Ans σ) (o : List Nat) (a : Option Addr) (w : World) (en : Ending) (w' : World) : Prop :=
  ∃ tokv o', en = .returned (.tuple #[.int .i64 r.adv, tokv, codeV E r.code]) ∧ SI r.sp o' w' ∧ Off o w w' ∧ Fresh o o' w ∧ o'.Nodup ∧ (∀ k, k ∈ o' → k < w'.heap.size) ∧ TokAt w' ins w.heap.size a tokv r.tok

/-- A split function keeps its word. -/
structure SplitOK {σ : Type} (cf : Cfg) (SI : σ → List Nat → World → Prop) (split : σ → List UInt8 → Bool → Ans σ) (ins : Bool) (fu : σ → Nat := fun _ => 18446744073709551616) : Prop where
  enters : ∀ args w, (callFunc cf.f args).run Tryd.prog w = .ok (.enter cf.f args) w
  stable : ∀ x o w w', SI x o w → (∀ k, k ∈ o → w'.heap[k]? = w.heap[k]?) → Below cf.base w w' → SI x o w'
  calls : ∀ w x o a n c d eof, SI x o w → Glob w cf.E cf.base → (∀ k, k ∈ o → cf.base ≤ k ∧ k < w.heap.size) → o.Nodup → Bytes8 w a d → d.length = n → n ≤ c → c ≤ 4194304 → (d = [] → eof = true) →
    (d ≠ [] → ∃ p, a = some p ∧ p.block ∉ o ∧ p.block < w.heap.size ∧ cf.base ≤ p.block) → 0 < fu x →
    Calls Tryd.prog cf.f (cf.first ++ (#[.slice a n c, .bool eof] ++ cf.cap)) w (SplitPost cf.E SI ins (split x d eof) o a w)
  fuel : ∀ x d b, (split x d b).code = 1 ∨ (split x d b).code = 2 ∨ fu x ≤ fu (split x d b).sp + 1

theorem heap_setCell_at {w : World} {g i : Nat} {c : Array Value} {t : TypeId} {fz : Nat × Nat} (h : w.heap[g]? = some (.cells c t fz)) (v : Value) : (w.setCell ⟨g, i, none⟩ v).heap[g]? = some (.cells (c.setIfInBounds i v) t fz) := by
  simp [World.setCell, Array.getElem?_modify, h]
theorem heap_setCell_not {w : World} {g k i : Nat} (h : k ≠ g) (v : Value) : (w.setCell ⟨g, i, none⟩ v).heap[k]? = w.heap[k]? := Below.heap_setCell w ⟨g, i, none⟩ v k h
theorem cell_of_heap {w : World} {g i : Nat} {c : Array Value} {t : TypeId} {fz : Nat × Nat} (h : w.heap[g]? = some (.cells c t fz)) : w.cell? ⟨g, i, none⟩ = c[i]? := by
  simp [World.cell?, h]
theorem frozen_of_heap {w : World} {g : Nat} {c : Array Value} {t : TypeId} (h : w.heap[g]? = some (.cells c t (0, 0))) (i : Nat) : w.frozen? ⟨g, i, none⟩ = false := by
  simp [World.frozen?, h]

section
variable {σ : Type} {cf : Cfg} {SI : σ → List Nat → World → Prop} {split : σ → List UInt8 → Bool → Ans σ} {ins : Bool} {fu : σ → Nat} {x : Sm σ} {tokv : Value} {called : Bool} {ba : Option Addr} {L s e : Nat} {bytes : List UInt8} {pa : Option Addr} {pcs : List Int} {pc : Nat} {pl bl osp : List Nat} {w w' : World}

theorem SRest.sizes (h : SRest cf SI x ba L s e bytes pa pcs pc pl bl osp w) : cf.base ≤ w.heap.size := by
  have := h.hlt cf.B (by simp)
  omega

/-- All but the scanner's own block stays where only that block, or others' blocks, have turned. -/
theorem SRest.frame (hs : SplitOK cf SI split ins fu) (h : SRest cf SI x ba L s e bytes pa pcs pc pl bl osp w) (hb : Below cf.base w w') (hk : ∀ k, k ∈ cf.R :: (pl ++ bl ++ osp) → w'.heap[k]? = w.heap[k]?) :
    SRest cf SI x ba L s e bytes pa pcs pc pl bl osp w' where
  hR := (hk _ (by simp)).trans h.hR
  hp := fun i c hc => by
    obtain ⟨b, o, e1, hm, hcell⟩ := h.hp i c hc
    exact ⟨b, o, e1, hm, (World.cell?_of_block (a := ⟨b, o + i, none⟩) (hk b (by simp [hm]))).trans hcell⟩
  hpc := h.hpc
  hb := by
    rcases h.hb with h1 | ⟨D, e1, e2, h1⟩
    · exact .inl h1
    · exact .inr ⟨D, e1, e2, (hk D (by simp [e2])).trans h1⟩
  hlen := h.hlen
  hse := h.hse
  hpend := h.hpend
  hlim := h.hlim
  hbig := h.hbig
  hrest := h.hrest
  hsp := hs.stable _ _ _ _ h.hsp (fun k hk' => hk k (by simp [hk'])) hb
  herr := h.herr
  hend := h.hend
  hg := h.hg.below hb
  hnd := h.hnd
  hlt := fun k hk' => ⟨(h.hlt k hk').1, Nat.lt_of_lt_of_le (h.hlt k hk').2 hb.size⟩
  hemp := h.hemp

/-- .. and where what SRest says of the plain state is the same. -/
theorem SRest.with (h : SRest cf SI x ba L s e bytes pa pcs pc pl bl osp w) (x' : Sm σ) (h1 : x'.rest = x.rest) (h2 : x'.pend = x.pend) (h3 : x'.sp = x.sp) (h4 : ∀ c, x'.err = some c → c < 7) (h5 : x'.emp ≤ 101) :
    SRest cf SI x' ba L s e bytes pa pcs pc pl bl osp w :=
  ⟨by rw [h1]; exact h.hR, h.hp, h.hpc, h.hb, h.hlen, h.hse, by rw [h2]; exact h.hpend, h.hlim, h.hbig, by rw [h1]; exact h.hrest, by rw [h3]; exact h.hsp, h4, h.hend, h.hg, h.hnd, h.hlt, h5⟩

theorem SRest.notB (h : SRest cf SI x ba L s e bytes pa pcs pc pl bl osp w) {k : Nat} (hk : k ∈ cf.R :: (pl ++ bl ++ osp)) : k ≠ cf.B := fun e1 => by
  have := (List.nodup_cons.1 h.hnd).1
  exact this (e1 ▸ hk)
theorem SRest.frozenB (hB : w.heap[cf.B]? = some (.cells (scCells cf x tokv called ba L s e) 106 (0, 0))) : ∀ o, w.frozen? ⟨cf.B, o, none⟩ = false := frozen_of_heap hB

/-- a store into the scanner's own block -/
theorem SRest.store (hs : SplitOK cf SI split ins fu) (h : SRest cf SI x ba L s e bytes pa pcs pc pl bl osp w) (i : Nat) (v : Value) : SRest cf SI x ba L s e bytes pa pcs pc pl bl osp (w.setCell ⟨cf.B, i, none⟩ v) :=
  h.frame hs ((Below.refl _ _).setCell (h.hlt cf.B (by simp)).1 v) fun _ hk => heap_setCell_not (h.notB hk) v
theorem SRest.draws (hs : SplitOK cf SI split ins fu) (h : SRest cf SI x ba L s e bytes pa pcs pc pl bl osp w) (n : Nat) : SRest cf SI x ba L s e bytes pa pcs pc pl bl osp (w.drewN n) :=
  h.frame hs (below_drewN (Below.refl _ _) n) fun _ _ => rfl
end
end Go.Proofs.YtkclapimgmnldaaDoor
