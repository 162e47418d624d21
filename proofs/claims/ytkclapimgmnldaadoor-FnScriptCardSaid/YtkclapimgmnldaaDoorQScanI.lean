/-
  The other pieces of Scan's round over the scanner's state: the shift, the new buffer, the read.
-/
import Derived.Test.YtkclapimgmnldaaDoorQG
import Derived.Lib.IndexBytes
namespace Go.Proofs.YtkclapimgmnldaaDoor
set_option linter.unusedVariables false
set_option linter.unusedSimpArgs false
set_option maxRecDepth 20000
open Go.RowKit

def isSeq : Code → Bool | .seq _ _ => true | _ => false
theorem wp_parts {P : Program} {c : Code} {Q : Exit → Act → World → Prop} {a : Act} {w : World} (h : isSeq c = true) (hw : (sL c).wp P (Exit.then ((sR c).wp P Q) Q) a w) : c.wp P Q a w := by
  cases c <;> simp [isSeq] at h
  exact wp_seq hw

theorem bv_oneCell {bytes : List UInt8} : ∀ v ∈ (bytes.map bv).toArray, v.oneCell' = true := fun v hv => by
  simp at hv
  obtain ⟨c, _, rfl⟩ := hv
  rfl

/-- the bytes behind a move -/
def moved (src dst : List UInt8) (s k : Nat) : List UInt8 := (src.drop s).take k ++ dst.drop k
theorem rowMove_bytes (src dst : List UInt8) (s k : Nat) : rowMove (src.map bv).toArray (dst.map bv).toArray s k = ((moved src dst s k).map bv).toArray := by
  simp [rowMove, moved, List.map_append, List.map_take, List.map_drop]
theorem moved_length {src dst : List UInt8} {s k : Nat} (h1 : s + k ≤ src.length) (h2 : k ≤ dst.length) : (moved src dst s k).length = dst.length := by
  simp [moved]; omega
theorem moved_take {src dst : List UInt8} {s k : Nat} (h1 : s + k ≤ src.length) : (moved src dst s k).take k = (src.drop s).take k := by
  unfold moved
  rw [List.take_append_of_le_length (by simp; omega)]
  rw [List.take_of_length_le (by simp; omega)]
theorem made_zero (N : Nat) : madeCells #[.int .u8 0] N = ((List.replicate N (0 : UInt8)).map bv).toArray := by
  apply Array.ext
  · simp [size_madeCells]
  · intro i h1 h2
    simp [madeCells, Nat.mod_one]

section
variable {σ : Type} {cf : Cfg} {SI : σ → List Nat → World → Prop} {split : σ → List UInt8 → Bool → Ans σ} {ins : Bool} {fu : σ → Nat} {x : Sm σ} {tokv : Value} {called : Bool} {ba : Option Addr} {L s e : Nat} {bytes : List UInt8} {pa : Option Addr} {pcs : List Int} {pc : Nat} {pl bl osp : List Nat} {w : World}

/-- the end at an error -/
theorem m2_all_err (hs : SplitOK cf SI split ins fu) (Q : Exit → Act → World → Prop) (a : Act) (hF : Fr cf.B a) (h : SInv cf SI x tokv called ba L s e bytes pa pcs pc pl bl osp w) (hx : x.err.isSome = true)
    (hret : ∀ a' w', Fr cf.B a' → a'.tmps[2]? = some (.bool false) → SInv cf SI { x with pend := [] } tokv called ba L 0 0 bytes pa pcs pc pl bl osp w' → Off (ownOf cf pl bl osp) w w' → Q .ret a' w') : Code.wp Tryd.prog m2 Q a w := by
  obtain ⟨c, hc⟩ := Option.isSome_iff_exists.1 hx
  have h7 := h.c7
  rw [hc] at h7
  refine m2_err cf.B a w Q _ _ hF h7 _ _ h.c5 h.c6 h.frozen fun a' hF' h2 => ?_
  refine hret a' _ hF' h2 ⟨?_, ?_⟩ (((Off.refl _ _).setCell (p := ⟨cf.B, 5, none⟩) memB _).setCell (p := ⟨cf.B, 6, none⟩) memB _)
  · rw [heap_setCell_at (heap_setCell_at h.hB _)]; rfl
  · have hr := (h.r.store hs 5 (.int .i64 ((0 : Nat) : Int))).store hs 6 (.int .i64 ((0 : Nat) : Int))
    exact ⟨hr.hR, hr.hp, hr.hpc, hr.hb, hr.hlen, by omega, by simp, hr.hlim, hr.hbig, hr.hrest, hr.hsp, hr.herr, hr.hend, hr.hg, hr.hnd, hr.hlt, hr.hemp⟩

/-- the same state with another buffer's content -/
theorem SRest.refill (h : SRest cf SI x ba L s e bytes pa pcs pc pl bl osp w) (s' e' : Nat) (bytes' : List UInt8) (hb : (ba = none ∧ L = 0 ∧ bl = []) ∨ (∃ D, ba = some ⟨D, 0, none⟩ ∧ bl = [D] ∧ w.heap[D]? = some (.cells (bytes'.map bv).toArray 5 (0, 0))))
    (hlen : bytes'.length = L) (hse : s' ≤ e' ∧ e' ≤ L) (hp : x.pend = (bytes'.drop s').take (e' - s')) : SRest cf SI x ba L s' e' bytes' pa pcs pc pl bl osp w :=
  ⟨h.hR, h.hp, h.hpc, hb, hlen, hse, hp, h.hlim, h.hbig, h.hrest, h.hsp, h.herr, h.hend, h.hg, h.hnd, h.hlt, h.hemp⟩

theorem SRest.notD {D : Nat} (h : SRest cf SI x ba L s e bytes pa pcs pc pl [D] osp w) {k : Nat} (hk : k ∈ cf.B :: cf.R :: (pl ++ osp)) : k ≠ D := by
  have hnd := h.hnd
  simp only [List.nodup_cons, List.nodup_append, List.mem_cons, List.mem_append] at hnd hk
  grind

/-- the buffer's content written anew -/
theorem SRest.setRow (hs : SplitOK cf SI split ins fu) {D : Nat} (h : SRest cf SI x (some ⟨D, 0, none⟩) L s e bytes pa pcs pc pl [D] osp w) (hD : ∃ c, w.heap[D]? = some (.cells c 5 (0, 0))) (s' e' : Nat) (bytes' : List UInt8)
    (hlen : bytes'.length = L) (hse : s' ≤ e' ∧ e' ≤ L) (hp : x.pend = (bytes'.drop s').take (e' - s')) :
    SRest cf SI x (some ⟨D, 0, none⟩) L s' e' bytes' pa pcs pc pl [D] osp (w.setRow D ((bytes'.map bv).toArray)) := by
  obtain ⟨c, hD⟩ := hD
  have hb0 : Below cf.base w (w.setRow D ((bytes'.map bv).toArray)) := below_setRow (Below.refl _ _) (h.hlt D (by simp)).1 _
  have hk : ∀ k, k ∈ cf.B :: cf.R :: (pl ++ osp) → (w.setRow D ((bytes'.map bv).toArray)).heap[k]? = w.heap[k]? := fun k hk => setRow_other w D k _ (h.notD hk)
  exact {
    hR := (hk _ (by simp)).trans h.hR
    hp := fun i c hc => by
      obtain ⟨b, o, e1, hm, hcell⟩ := h.hp i c hc
      exact ⟨b, o, e1, hm, (World.cell?_of_block (a := ⟨b, o + i, none⟩) (hk b (by simp [hm]))).trans hcell⟩
    hpc := h.hpc
    hb := .inr ⟨D, rfl, rfl, setRow_heap w D c _ _ _ hD⟩
    hlen := hlen
    hse := hse
    hpend := hp
    hlim := h.hlim
    hbig := h.hbig
    hrest := h.hrest
    hsp := hs.stable _ _ _ _ h.hsp (fun k hk' => hk k (by simp [hk'])) hb0
    herr := h.herr
    hend := h.hend
    hg := h.hg.below hb0
    hnd := h.hnd
    hlt := fun k hk' => by have := h.hlt k hk'; simpa [World.setRow] using this
    hemp := h.hemp }

/-- the shift: whatever it does, a full buffer then begins with what is pending -/
theorem m3_all (hs : SplitOK cf SI split ins fu) (Q : Exit → Act → World → Prop) (a : Act) (hF : Fr cf.B a) (h : SInv cf SI x tokv called ba L s e bytes pa pcs pc pl bl osp w)
    (hn : ∀ a' w' s' e' bytes', Fr cf.B a' → SInv cf SI x tokv called ba L s' e' bytes' pa pcs pc pl bl osp w' → (e' = L → s' = 0) → Off (ownOf cf pl bl osp) w w' → w.heap.size = w'.heap.size → Q .normal a' w') : Code.wp Tryd.prog m3 Q a w := by
  have hse := h.r.hse
  have hLb : L ≤ 4194304 := by have h1 := h.r.hlim; have h2 := h.r.hbig; omega
  by_cases hc : s = 0 ∨ (0 < s ∧ e ≠ L ∧ s ≤ L / 2)
  · refine m3_skip cf.B s e L ba a w Q hF h.c4 h.c5 h.c6 hc hLb fun a' n hF' => ?_
    exact hn a' _ s e bytes hF' (h.alk hs (Alk.drewN w n)) (fun h1 => by omega) ((Off.refl _ _).drewN n) rfl
  · rcases h.r.hb with ⟨_, h1, _⟩ | ⟨D, e1, e2, hD⟩
    · omega
    · subst e1
      have hDB : cf.B ≠ D := Ne.symm (h.r.notB (by simp [e2]))
      have hDm : D ∈ ownOf cf pl bl osp := by simp [e2]
      refine m3_shift cf.B s e L a w Q D _ hF h.c4 h.c5 h.c6 h.frozen hDB hD (by simp [h.r.hlen]) bv_oneCell hse.1 hse.2 (by omega) (by omega) hLb fun a' n hF' => ?_
      have hlen : bytes.length = L := h.r.hlen
      refine hn a' _ 0 (e - s) (moved bytes bytes s (e - s)) hF' ?_ (fun h1 => rfl) ((((Off.refl _ _).setRow hDm _).setCell (p := ⟨cf.B, 6, none⟩) memB _).setCell (p := ⟨cf.B, 5, none⟩) memB _ |>.drewN n) (by simp [World.setRow])
      have hmv := rowMove_bytes bytes bytes s (e - s)
      rw [hmv]
      refine SInv.alk hs (w := (((w.setRow D (((moved bytes bytes s (e - s)).map bv).toArray)).setCell ⟨cf.B, 6, none⟩ (.int .i64 ((e : Int) - (s : Int)))).setCell ⟨cf.B, 5, none⟩ (.int .i64 0))) ⟨?_, ?_⟩ (Alk.drewN _ n)
      · rw [heap_setCell_at (heap_setCell_at ((setRow_other w D cf.B _ hDB).trans h.hB) _)]
        have : ((e : Int) - (s : Int)) = ((e - s : Nat) : Int) := by omega
        rw [this]; rfl
      · refine (SRest.store hs (SRest.store hs ?_ 6 _) 5 _)
        subst e2
        refine h.r.setRow hs ⟨_, hD⟩ 0 (e - s) _ (by rw [moved_length (by omega) (by omega)]; exact hlen) (by omega) ?_
        rw [h.r.hpend, List.drop_zero, Nat.sub_zero, moved_take (by omega)]

/-- a full buffer: too long, or a new one -/
theorem m4_all (hs : SplitOK cf SI split ins fu) (Q : Exit → Act → World → Prop) (a : Act) (hF : Fr cf.B a) (h : SInv cf SI x tokv called ba L s e bytes pa pcs pc pl bl osp w) (hx : x.err = none) (hfull : e = L → s = 0)
    (hret : ∀ a' w', x.pend.length = cf.lim → Fr cf.B a' → a'.tmps[2]? = some (.bool false) → SInv cf SI (x.setErr cTooLong) tokv called ba L s e bytes pa pcs pc pl bl osp w' → Off (ownOf cf pl bl osp) w w' → Q .ret a' w')
    (hn : ∀ a' w' ba' L' s' e' bytes' bl', x.pend.length ≠ cf.lim → Fr cf.B a' → SInv cf SI x tokv called ba' L' s' e' bytes' pa pcs pc pl bl' osp w' → e' < L' → Off (ownOf cf pl bl osp) w w' → Fresh (ownOf cf pl bl osp) (ownOf cf pl bl' osp) w →
      (cf.max ≤ (L : Int) → ba' = ba ∧ L' = L) → Q .normal a' w') : Code.wp Tryd.prog m4 Q a w := by
  have hse := h.r.hse
  have hlim := h.r.hlim
  have hbig := h.r.hbig
  have hlen : x.pend.length = e - s := by
    rw [h.r.hpend, List.length_take, List.length_drop, h.r.hlen]
    omega
  have h7 := h.c7
  rw [hx] at h7
  by_cases he : e = L
  · have hs0 := hfull he
    subst hs0
    subst he
    by_cases hm : cf.max ≤ (e : Int)
    · refine m4_long cf.B e ba a w Q cf.max cf.E cf.base hF h.c2 h.c4 h.c6 h7 h.frozen h.r.hg hm fun a' n hF' h2 => ?_
      refine hret a' _ (by omega) hF' h2 ?_ (((Off.refl _ _).withErr memB none 1).drewN n)
      have := (h.setErr hs 1 (by omega)).alk hs (Alk.drewN _ n)
      rw [hx] at this
      exact this
    · obtain ⟨N, hN⟩ : ∃ N, N = newSize e cf.max := ⟨_, rfl⟩
      have hNL : e < N := by rw [hN]; unfold newSize; split <;> omega
      have hNm : N ≤ cf.max.toNat := by rw [hN]; unfold newSize; omega
      have hl2 : max N cf.max.toNat = cf.lim := by omega
      have hBlt := (h.r.hlt cf.B (by simp)).2
      have hsrc : (e = 0 ∧ (bytes.map bv).toArray = #[]) ∨ ∃ D, D < w.heap.size ∧ 0 < e ∧ ((bytes.map bv).toArray).size = e ∧ ba = some ⟨D, 0, none⟩ ∧ w.heap[D]? = some (.cells (bytes.map bv).toArray 5 (0, 0)) := by
        by_cases h0 : e = 0
        · have : bytes = [] := List.length_eq_zero_iff.1 (by rw [h.r.hlen]; exact h0)
          exact .inl ⟨h0, by simp [this]⟩
        · rcases h.r.hb with ⟨_, h1, _⟩ | ⟨D, e1, e2, h1⟩
          · omega
          · exact .inr ⟨D, (h.r.hlt D (by simp [e2])).2, by omega, by simp [h.r.hlen], e1, h1⟩
      refine m4_grow cf.B 0 e ba a w Q cf.max N hN hF h.c2 h.c4 h.c5 h.c6 h.frozen hBlt (by omega) (by omega) (by omega) _ bv_oneCell hsrc fun a' w2 hF' hal => ?_
      have hmv := rowMove_bytes bytes (List.replicate N (0 : UInt8)) 0 (e - 0)
      rw [← made_zero] at hmv
      rw [hmv] at hal
      have hbl : bytes.length = e := h.r.hlen
      have hBD : cf.B ≠ w.heap.size := by omega
      have hW : ∀ k, k < w.heap.size → ((w.alloc (.cells (madeCells #[.int .u8 0] N) 5)).setRow w.heap.size (((moved bytes (List.replicate N (0 : UInt8)) 0 (e - 0)).map bv).toArray)).heap[k]? = w.heap[k]? := fun k hk =>
        (setRow_other _ _ k _ (by omega)).trans (Below.heap_alloc w _ k hk)
      have hb1 : Below cf.base w ((w.alloc (.cells (madeCells #[.int .u8 0] N) 5)).setRow w.heap.size (((moved bytes (List.replicate N (0 : UInt8)) 0 (e - 0)).map bv).toArray)) :=
        below_setRow ((Below.refl _ _).alloc h.r.sizes _) h.r.sizes _
      have hoff : Off (ownOf cf pl bl osp) w ((w.alloc (.cells (madeCells #[.int .u8 0] N) 5)).setRow w.heap.size (((moved bytes (List.replicate N (0 : UInt8)) 0 (e - 0)).map bv).toArray)) :=
        ⟨rfl, rfl, rfl, by simp [World.setRow], fun k hk _ => hW k hk⟩
      refine hn a' w2 (some ⟨w.heap.size, 0, none⟩) N 0 e (moved bytes (List.replicate N (0 : UInt8)) 0 (e - 0)) [w.heap.size] (by omega) hF' (SInv.alk hs ⟨?_, ?_⟩ hal) hNL
        ((((hoff.setCell (p := ⟨cf.B, 4, none⟩) memB _).setCell (p := ⟨cf.B, 6, none⟩) memB _).setCell (p := ⟨cf.B, 5, none⟩) memB _).alk hal) ?_ (fun h1 => absurd h1 hm)
      · rw [heap_setCell_at (heap_setCell_at (heap_setCell_at ((hW cf.B hBlt).trans h.hB) _) _)]
        have : ((e : Int) - ((0 : Nat) : Int)) = ((e : Nat) : Int) := by omega
        rw [this]; rfl
      · have hr : SRest cf SI x (some ⟨w.heap.size, 0, none⟩) N 0 e (moved bytes (List.replicate N (0 : UInt8)) 0 (e - 0)) pa pcs pc pl [w.heap.size] osp ((w.alloc (.cells (madeCells #[.int .u8 0] N) 5)).setRow w.heap.size (((moved bytes (List.replicate N (0 : UInt8)) 0 (e - 0)).map bv).toArray)) := {
          hR := (hW _ (h.r.hlt _ (by simp)).2).trans h.r.hR
          hp := fun i c hc => by
            obtain ⟨b, o, e1, hm, hcell⟩ := h.r.hp i c hc
            exact ⟨b, o, e1, hm, (World.cell?_of_block (a := ⟨b, o + i, none⟩) (hW b (h.r.hlt b (by simp [hm])).2)).trans hcell⟩
          hpc := h.r.hpc
          hb := .inr ⟨w.heap.size, rfl, rfl, setRow_heap _ _ _ _ _ _ (heap_alloc_new w _)⟩
          hlen := by rw [moved_length (by omega) (by simp; omega)]; simp
          hse := by omega
          hpend := by rw [h.r.hpend, List.drop_zero, List.drop_zero, Nat.sub_zero, moved_take (by omega), List.drop_zero]
          hlim := hl2
          hbig := h.r.hbig
          hrest := h.r.hrest
          hsp := hs.stable _ _ _ _ h.r.hsp (fun k hk' => hW k (h.r.hlt k (by simp [hk'])).2) hb1
          herr := h.r.herr
          hend := h.r.hend
          hg := h.r.hg.below hb1
          hnd := by
            have hnd := h.r.hnd
            have hlt : ∀ k, k ∈ cf.B :: cf.R :: (pl ++ osp) → k ≠ w.heap.size := fun k hk h1 => by
              have h2 := (h.r.hlt k (by simp only [List.mem_cons, List.mem_append] at hk ⊢; grind)).2
              omega
            simp only [List.nodup_cons, List.nodup_append, List.mem_cons, List.mem_append] at hnd hlt ⊢
            grind
          hlt := fun k hk' => by
            have hk2 : k ∈ cf.B :: cf.R :: (pl ++ osp) ∨ k = w.heap.size := by simp only [List.mem_cons, List.mem_append] at hk' ⊢; grind
            rcases hk2 with h1 | h1
            · have h2 := h.r.hlt k (by simp only [List.mem_cons, List.mem_append] at h1 ⊢; grind)
              simp [World.setRow]; omega
            · have := h.r.sizes
              simp [World.setRow]; omega
          hemp := h.r.hemp }
        exact ((hr.store hs 4 _).store hs 6 _).store hs 5 _
      · intro k hk
        have hk2 : k ∈ cf.B :: cf.R :: (pl ++ osp) ∨ k = w.heap.size := by simp only [List.mem_cons, List.mem_append] at hk ⊢; grind
        rcases hk2 with h1 | h1
        · exact .inl (by simp only [List.mem_cons, List.mem_append] at h1 ⊢; grind)
        · exact .inr (by omega)
  · refine m4_skip cf.B e L ba a w Q hF h.c4 h.c6 he fun a' n hF' => ?_
    exact hn a' _ ba L s e bytes bl (by omega) hF' (h.alk hs (Alk.drewN w n)) (by omega) ((Off.refl _ _).drewN n) (Fresh.refl _ _) fun _ => ⟨rfl, rfl⟩

theorem drop_extract (l : List UInt8) (n : Nat) : (⟨l.toArray⟩ : ByteArray).extract n (⟨l.toArray⟩ : ByteArray).size = ⟨(l.drop n).toArray⟩ := by
  rw [Lib.extract_eq]
  have h : (⟨l.toArray⟩ : ByteArray).size = l.length := by simp [ByteArray.size]
  rw [h]
  show (⟨((l.drop n).take (l.length - n)).toArray⟩ : ByteArray) = _
  rw [List.take_of_length_le (by simp)]
theorem isEmpty_drop (l : List UInt8) (n : Nat) (h : n ≤ l.length) : (⟨(l.drop n).toArray⟩ : ByteArray).toList.isEmpty = (n == l.length) := by
  rw [ByteArray.toList_mk]
  cases hd : l.drop n with
  | nil =>
    have : n = l.length := by have h2 := congrArg List.length hd; simp at h2; omega
    simp [this]
  | cons c r =>
    have h2 := congrArg List.length hd
    simp at h2
    have : n ≠ l.length := by omega
    simp [this]

/-- the bytes behind a read -/
def filled (bytes rest : List UInt8) (e n : Nat) : List UInt8 := bytes.take e ++ rest.take n ++ bytes.drop (e + n)
theorem rowOf_bytes (bytes rest : List UInt8) (e n : Nat) : rowOf (bytes.map bv).toArray e n ⟨rest.toArray⟩ = ((filled bytes rest e n).map bv).toArray := by
  simp [rowOf, filled, List.map_append, List.map_take, List.map_drop]
theorem filled_length {bytes rest : List UInt8} {e n : Nat} (h1 : e + n ≤ bytes.length) (h2 : n ≤ rest.length) : (filled bytes rest e n).length = bytes.length := by
  simp [filled]; omega
theorem filled_pend {bytes rest : List UInt8} {s e n : Nat} (h0 : s ≤ e) (h1 : e + n ≤ bytes.length) (h2 : n ≤ rest.length) : ((filled bytes rest e n).drop s).take (e + n - s) = (bytes.drop s).take (e - s) ++ rest.take n := by
  unfold filled
  rw [List.append_assoc, List.drop_append_of_le_length (by simp; omega), List.drop_take]
  rw [List.take_append]
  have e1 : ((bytes.drop s).take (e - s)).length = e - s := by simp; omega
  rw [List.take_of_length_le (by rw [e1]; omega), e1]
  congr 1
  rw [List.take_append_of_le_length (by simp; omega), List.take_of_length_le (by simp; omega)]

/-- The world behind a read of n bytes, the reader's pieces being pa', pcs'. -/
structure ReadW (cf : Cfg) (x : Sm σ) (D e : Nat) (bytes : List UInt8) (pa' : Option Addr) (pcs' : List Int) (pc' : Nat) (n : Nat) (w w' : World) : Prop where
  hR : w'.heap[cf.R]? = some (.cells #[.string ⟨(x.rest.drop n).toArray⟩, .slice pa' pcs'.length pc', .bool cf.tog, errV cf.E (some cf.endE)] 116 (0, 0))
  hD : w'.heap[D]? = some (.cells ((filled bytes x.rest e n).map bv).toArray 5 (0, 0))
  other : ∀ k, k ≠ cf.R → k ≠ D → w'.heap[k]? = w.heap[k]?
  os : w'.os = w.os
  tape : w'.tape = w.tape
  output : w'.output = w.output
  size : w'.heap.size = w.heap.size

theorem ReadW.inv (hs : SplitOK cf SI split ins fu) {D : Nat} (h : SInv cf SI x tokv called (some ⟨D, 0, none⟩) L s e bytes pa pcs pc pl [D] osp w) {pa' : Option Addr} {pcs' : List Int} {pc' n : Nat} {w' w2 : World} (hw : ReadW cf x D e bytes pa' pcs' pc' n w w')
    (hp : ∀ i c, pcs'[i]? = some c → ∃ b o, pa' = some ⟨b, o, none⟩ ∧ b ∈ pl ∧ w.cell? ⟨b, o + i, none⟩ = some (.int .i64 c)) (hpc : pcs'.length ≤ pc' ∧ pc' ≤ 9223372036854775807) (hn : n ≤ L - e) (hn2 : n ≤ x.rest.length)
    (x' : Sm σ) (h1 : x'.rest = x.rest.drop n) (h2 : x'.pend = x.pend ++ x.rest.take n) (h3 : x'.sp = x.sp) (h4 : ∀ c, x'.err = some c → c < 7) (h5 : x'.emp ≤ 101)
    (hal : Alk w2 w' ∨ ∃ i v, Alk w2 (w'.setCell ⟨cf.B, i, none⟩ v) ∨ ∃ j u, Alk w2 ((w'.setCell ⟨cf.B, i, none⟩ v).setCell ⟨cf.B, j, none⟩ u))
    (hB2 : w2.heap[cf.B]? = some (.cells (scCells cf x' tokv called (some ⟨D, 0, none⟩) L s (e + n)) 106 (0, 0))) :
    SInv cf SI x' tokv called (some ⟨D, 0, none⟩) L s (e + n) (filled bytes x.rest e n) pa' pcs' pc' pl [D] osp w2 ∧ Off (ownOf cf pl [D] osp) w w2 := by
  have hk2 : ∀ k, k ≠ cf.B → w2.heap[k]? = w'.heap[k]? := fun k hk => by
    rcases hal with ha | ⟨i, v, ha | ⟨j, u, ha⟩⟩
    · rw [ha.1]
    · rw [ha.1, heap_setCell_not hk]
    · rw [ha.1, heap_setCell_not hk, heap_setCell_not hk]
  have hsz : w2.heap.size = w.heap.size := by
    rcases hal with ha | ⟨i, v, ha | ⟨j, u, ha⟩⟩ <;> rw [ha.1] <;> simp [hw.size]
  have hos : w2.os = w.os ∧ w2.tape = w.tape ∧ w2.output = w.output := by
    rcases hal with ha | ⟨i, v, ha | ⟨j, u, ha⟩⟩
    · exact ⟨ha.2.1.trans hw.os, ha.2.2.2.trans hw.tape, ha.2.2.1.trans hw.output⟩
    · exact ⟨ha.2.1.trans hw.os, ha.2.2.2.trans hw.tape, ha.2.2.1.trans hw.output⟩
    · exact ⟨ha.2.1.trans hw.os, ha.2.2.2.trans hw.tape, ha.2.2.1.trans hw.output⟩
  have hse := h.r.hse
  have hRB : cf.R ≠ cf.B := h.r.notB (by simp)
  have hDB : D ≠ cf.B := h.r.notB (by simp)
  have hnd := h.r.hnd
  have hoff : Off (ownOf cf pl [D] osp) w w2 := ⟨hos.1, hos.2.1, hos.2.2, by omega, fun k hk hm => by
    have h6 : k ≠ cf.B ∧ k ≠ cf.R ∧ k ≠ D := by simp only [List.mem_cons, List.mem_append] at hm; grind
    rw [hk2 k h6.1, hw.other k h6.2.1 h6.2.2]⟩
  have hb : Below cf.base w w2 := hoff.below h.r.sizes fun k hk => (h.r.hlt k hk).1
  have hoth : ∀ k, k ∈ pl ++ osp → w2.heap[k]? = w.heap[k]? := fun k hk => by
    have h6 : k ≠ cf.B ∧ k ≠ cf.R ∧ k ≠ D := by
      simp only [List.nodup_cons, List.nodup_append, List.mem_cons, List.mem_append] at hnd hk
      grind
    rw [hk2 k h6.1, hw.other k h6.2.1 h6.2.2]
  refine ⟨⟨hB2, ?_⟩, hoff⟩
  exact {
    hR := by rw [hk2 _ hRB, h1]; exact hw.hR
    hp := fun i c hc => by
      obtain ⟨b, o, e1, hm, hcell⟩ := hp i c hc
      exact ⟨b, o, e1, hm, (World.cell?_of_block (a := ⟨b, o + i, none⟩) (hoth b (by simp [hm]))).trans hcell⟩
    hpc := hpc
    hb := .inr ⟨D, rfl, rfl, by rw [hk2 _ hDB]; exact hw.hD⟩
    hlen := by rw [filled_length (by rw [h.r.hlen]; omega) hn2]; exact h.r.hlen
    hse := by omega
    hpend := by rw [h2, h.r.hpend, filled_pend hse.1 (by rw [h.r.hlen]; omega) hn2]
    hlim := h.r.hlim
    hbig := h.r.hbig
    hrest := by rw [h1, List.length_drop]; have := h.r.hrest; omega
    hsp := by rw [h3]; exact hs.stable _ _ _ _ h.r.hsp (fun k hk => hoth k (by simp [hk])) hb
    herr := h4
    hend := h.r.hend
    hg := h.r.hg.below hb
    hnd := h.r.hnd
    hlt := fun k hk => by rw [hsz]; exact h.r.hlt k hk
    hemp := h5 }
end
end Go.Proofs.YtkclapimgmnldaaDoor
