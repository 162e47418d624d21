/-
  A new scanner, told in full; a second buffer for it.
-/
import Derived.Test.YtkafojdjadnfaaaDoorFrom
import Derived.Test.YtkafojdjadnfaaaDoorLined
namespace Go.Proofs.YtkafojdjadnfaaaDoor
set_option linter.unusedVariables false
set_option linter.unusedSimpArgs false
set_option maxRecDepth 20000
open Go.RowKit

section
variable {base : Nat} {w : World} {E : Nat → Addr} {s : ByteArray} {pa : Option Addr} {pcs : List Int} {pc : Nat} {pl : List Nat} {tog : Bool} {c m : Int}
/-- impl.scanner, told in full -/
def ScannerPost0 (E : Nat → Addr) (base : Nat) (s : ByteArray) (pa : Option Addr) (pcs : List Int) (pc : Nat) (tog broken d : Bool) (c m : Int) (pl : List Nat) (w : World) (e : Ending) (w' : World) : Prop :=
  ∃ ba L bytes bl, e = .returned (.pointer (some ⟨w.heap.size + 4, 0, none⟩)) ∧ SInv (newCf E base w.heap.size tog broken d c m) noMem (newSm s) (.slice none 0 0) false ba L 0 0 bytes pa pcs pc pl bl [] w' ∧ Below w.heap.size w w' ∧ (∀ k, k ∈ ownOf (newCf E base w.heap.size tog broken d c m) pl bl [] → k ∈ pl ∨ w.heap.size ≤ k)
theorem scanner_any0 (d broken : Bool) (hE : Env base w E) (hp : PcsAt base w pa pcs pc pl) (hs : s.size ≤ 140737488355328) (hsz : sizedB d c m = true) :
    Calls Tryd.prog 38 #[srcV s pa pcs.length pc tog broken, roomV d c m] w (ScannerPost0 E base s pa pcs pc tog broken d c m pl w) := by
  have hl4 := limitN_le hsz
  cases d with
  | true =>
    refine (scanner_d (s := s) (pa := pa) (pcs := pcs) (pc := pc) (tog := tog) (c := c) (m := m) broken hE).mono ?_
    rintro e w' ⟨rfl, rfl⟩
    have hb := madeW_below w s pa pcs.length pc tog broken #[.bool true, .int .i64 c, .int .i64 m] (errV E (some (if broken then 5 else 0)))
    refine ⟨none, 0, [], [], rfl, ⟨?_, ?_⟩, hb, ?_⟩
    · exact madeW_B w s pa pcs.length pc tog broken _ _
    · exact new_rest (broken := broken) hE hp hs hb (by simp) (madeW_R w s pa pcs.length pc tog broken _ _) none 0 [] [] rfl (.inl ⟨rfl, rfl, rfl⟩) (by simp [limitN]) (by omega)
    · intro k hk
      simp only [ownOf, List.append_nil, List.mem_cons] at hk
      rcases hk with h | h | h
      · right; omega
      · right; omega
      · exact .inl h
  | false =>
    have hc := (sizedB_cases hsz).resolve_left (by simp)
    obtain ⟨N, hN⟩ : ∃ N : Nat, max 0 c = (N : Int) := ⟨(max 0 c).toNat, by omega⟩
    refine (scanner_r (s := s) (pa := pa) (pcs := pcs) (pc := pc) (tog := tog) (m := m) broken N hN (by omega) hE).mono ?_
    rintro e w' ⟨rfl, hal⟩
    have hb0 := roomW_below w s pa pcs.length pc tog broken c m N (errV E (some (if broken then 5 else 0)))
    have hb : Below w.heap.size w w' := ⟨hal.2.1.trans hb0.os, hal.2.2.2.trans hb0.tape, hal.2.2.1.trans hb0.output, by rw [hal.1]; exact hb0.size, fun k hk => by rw [hal.1]; exact hb0.block k hk⟩
    have hz : w'.heap.size = w.heap.size + 6 := by rw [hal.1]; simp
    refine ⟨some ⟨w.heap.size + 5, 0, none⟩, N, List.replicate N 0, [w.heap.size + 5], rfl, ⟨?_, ?_⟩, hb, ?_⟩
    · rw [hal.1]; exact roomW_B w s pa pcs.length pc tog broken c m N _
    · refine new_rest (broken := broken) hE hp hs hb (by omega) ?_ (some ⟨w.heap.size + 5, 0, none⟩) N (List.replicate N 0) [w.heap.size + 5] (by simp) (.inr ⟨w.heap.size + 5, rfl, rfl, by omega, by omega, ?_⟩) ?_ (by omega)
      · rw [hal.1]; exact roomW_R w s pa pcs.length pc tog broken c m N _
      · rw [hal.1, roomW_D, made_zero]
      · simp [limitN]; omega
    · intro k hk
      simp only [ownOf, List.append_nil, List.mem_cons, List.mem_append, List.not_mem_nil, or_false] at hk
      rcases hk with h | h | h | h
      · right; omega
      · right; omega
      · exact .inl h
      · right; omega

/-- the world behind a new buffer -/
abbrev bufW (w : World) (B N : Nat) (m : Int) : World := ((w.alloc (.cells (madeCells #[.int .u8 0] N) 5)).setCell ⟨B, 4, none⟩ (.slice (some ⟨w.heap.size, 0, none⟩) N N)).setCell ⟨B, 2, none⟩ (.int .i64 m)
/-- a scanner that has not begun, given a buffer -/
theorem SInv.buffer {cf : Cfg} {x : Sm Unit} {tokv : Value} {ba : Option Addr} {L : Nat} {bytes : List UInt8} {bl : List Nat} (h : SInv cf noMem x tokv false ba L 0 0 bytes pa pcs pc pl bl [] w) (hx : x.pend = []) (N : Nat) (m : Int) (hN : max N m.toNat ≤ 4194304) :
    SInv { cf with max := m, lim := max N m.toNat } noMem x tokv false (some ⟨w.heap.size, 0, none⟩) N 0 0 (List.replicate N 0) pa pcs pc pl [w.heap.size] [] (bufW w cf.B N m) := by
  have hBlt := (h.r.hlt cf.B (by simp)).2
  have hbase := h.r.sizes
  have hb : Below cf.base w (bufW w cf.B N m) := (((Below.refl _ _).alloc hbase _).setCell (h.r.hlt cf.B (by simp)).1 _).setCell (h.r.hlt cf.B (by simp)).1 _
  have hk : ∀ k, k ≠ cf.B → k < w.heap.size → (bufW w cf.B N m).heap[k]? = w.heap[k]? := fun k h1 h2 => by
    rw [heap_setCell_not h1, heap_setCell_not h1, Below.heap_alloc _ _ _ h2]
  have hne : ∀ k, k ∈ cf.R :: (pl ++ bl ++ []) → k ≠ cf.B := fun k hk => h.r.notB hk
  refine ⟨?_, ?_⟩
  · rw [heap_setCell_at (heap_setCell_at ((Below.heap_alloc w _ cf.B hBlt).trans h.hB) _)]; rfl
  · exact {
      hR := (hk _ (hne _ (by simp)) (h.r.hlt _ (by simp)).2).trans h.r.hR
      hp := fun i c hc => by
        obtain ⟨b, o, e1, hm, hcell⟩ := h.r.hp i c hc
        exact ⟨b, o, e1, hm, (World.cell?_of_block (a := ⟨b, o + i, none⟩) (hk b (hne b (by simp [hm])) (h.r.hlt b (by simp [hm])).2)).trans hcell⟩
      hpc := h.r.hpc
      hb := .inr ⟨w.heap.size, rfl, rfl, by
        rw [heap_setCell_not (by omega), heap_setCell_not (by omega), heap_new w _, made_zero]⟩
      hlen := by simp
      hse := ⟨Nat.le_refl _, Nat.zero_le _⟩
      hpend := by rw [hx]; simp
      hlim := rfl
      hbig := hN
      hrest := h.r.hrest
      hsp := rfl
      herr := h.r.herr
      hend := h.r.hend
      hg := h.r.hg.below hb
      hnd := by
        have hnd := h.r.hnd
        have hlt : ∀ k, k ∈ cf.B :: cf.R :: pl → k ≠ w.heap.size := fun k hk h1 => by
          have h2 := (h.r.hlt k (by simp only [List.mem_cons, List.mem_append] at hk ⊢; grind)).2
          omega
        simp only [List.nodup_cons, List.nodup_append, List.mem_cons, List.mem_append] at hnd hlt ⊢
        grind
      hlt := fun k hk' => by
        have hk2 : k ∈ cf.B :: cf.R :: pl ∨ k = w.heap.size := by simp only [List.mem_cons, List.mem_append] at hk' ⊢; grind
        rcases hk2 with h1 | h1
        · have h2 := h.r.hlt k (by simp only [List.mem_cons, List.mem_append] at h1 ⊢; grind)
          simp; omega
        · simp; omega
      hemp := h.r.hemp }

end
end Go.Proofs.YtkafojdjadnfaaaDoor
