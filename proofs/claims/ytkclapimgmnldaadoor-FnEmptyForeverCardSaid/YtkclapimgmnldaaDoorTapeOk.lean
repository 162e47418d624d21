/-
  tape.split keeps the word of a split function.
-/
import Derived.Test.YtkclapimgmnldaaDoorTape
namespace Go.Proofs.YtkclapimgmnldaaDoor
set_option linter.unusedVariables false
set_option linter.unusedSimpArgs false
set_option maxRecDepth 20000
open Go.RowKit

/-- the tape, and the error that it fails with -/
def TapeSI (E : Nat → Addr) (base T : Nat) (rs : List Rep) (rep : Bool) (x : TS) (o : List Nat) (w : World) : Prop :=
  TapeMem base T rs rep x o w ∧ w.cell? ⟨0, 0, none⟩ = some (.iface 124 (.pointer (some (E 4)))) ∧ 0 < base

theorem RepsAt.frame {w w' : World} {rs : List Rep} {rp : Option Addr} {rl : List Nat} (h : RepsAt w rs rp rl) (hk : ∀ k, k ∈ rl → w'.heap[k]? = w.heap[k]?) : RepsAt w' rs rp rl := fun i r hr => by
  obtain ⟨b, q, e, hm, hc⟩ := h i r hr
  exact ⟨b, q, e, hm, fun j v hv => (World.cell?_of_block (a := ⟨b, _, none⟩) (hk b hm)).trans (hc j v hv)⟩
theorem owns_frame {w w' : World} {base : Nat} {e : TypeId} {size : Nat} {v : Value} {n : Nat} {xs : List Value} (h : w.ownsRow base e size v n xs) (hk : ∀ k, v.ownBlock = some k → w'.heap[k]? = w.heap[k]?) : w'.ownsRow base e size v n xs := by
  obtain ⟨h1, h2⟩ := h
  refine ⟨h1, ?_⟩
  rcases h2 with h2 | ⟨g, cap, cur, rfl, h3, h4, r⟩
  · exact .inl h2
  · exact .inr ⟨g, cap, cur, rfl, h3, (hk g rfl).trans h4, r⟩
theorem TapeMem.frame {base T : Nat} {rs : List Rep} {rep : Bool} {x : TS} {o : List Nat} {w w' : World} (h : TapeMem base T rs rep x o w) (hk : ∀ k, k ∈ o → w'.heap[k]? = w.heap[k]?) : TapeMem base T rs rep x o w' := by
  obtain ⟨rp, rc, cv, rl, h1, h2, h3, h4, h5, h6, rfl⟩ := h
  refine ⟨rp, rc, cv, rl, h1, h2, h3, (hk T (by simp)).trans h4, h5.frame fun k hm => hk k (by simp [hm]), owns_frame h6 fun k hm => hk k (by simp [hm]), rfl⟩

theorem tape_after {base T : Nat} {rs : List Rep} {rep : Bool} {w wx : World} {rp : Option Addr} {rc : Nat} {cv : Value} {rl : List Nat} {calls : List (List UInt8 × Bool)} {pos : Nat} (h : TapeR base T rs rep rp rc rl (T :: (rl ++ cv.ownBlock.toList)) w cv calls pos wx)
    (hnd : (T :: (rl ++ cv.ownBlock.toList)).Nodup) (hlt : ∀ k, k ∈ T :: (rl ++ cv.ownBlock.toList) → k < w.heap.size) (hRP : RepsAt w rs rp rl) (hrc : rs.length ≤ rc) (hrc2 : rc ≤ 9223372036854775807) (hpos : pos ≤ rs.length) :
    ∃ o', TapeMem base T rs rep ⟨pos, calls⟩ o' wx ∧ Off (T :: (rl ++ cv.ownBlock.toList)) w wx ∧ Fresh (T :: (rl ++ cv.ownBlock.toList)) o' w ∧ o'.Nodup ∧ ∀ k, k ∈ o' → k < wx.heap.size := by
  obtain ⟨g, gc, h1, h2, h3, h4, h5, h6, h7⟩ := h
  have hz := h6.size
  refine ⟨T :: (rl ++ [g]), ⟨rp, rc, _, rl, hpos, hrc, hrc2, h1, hRP.frame fun k hk => (h7 k hk).2, h2, rfl⟩, h6, ?_, ?_, ?_⟩
  · intro k hk
    simp only [List.mem_cons, List.mem_append, List.not_mem_nil, or_false] at hk ⊢
    rcases hk with rfl | hk | rfl
    · exact .inl (.inl rfl)
    · exact .inl (.inr (.inl hk))
    · rcases h3 with h3 | h3
      · exact .inl (.inr (.inr (by simp [h3])))
      · exact .inr h3
  · have hn1 := List.nodup_cons.1 hnd
    have hn2 := List.nodup_append.1 hn1.2
    refine List.nodup_cons.2 ⟨?_, List.nodup_append.2 ⟨hn2.1, by simp, ?_⟩⟩
    · intro hm
      rcases List.mem_append.1 hm with hm | hm
      · exact hn1.1 (by simp [hm])
      · simp at hm; exact h5 hm.symm
    · intro a ha b hb
      simp at hb
      subst hb
      rcases h3 with h3 | h3
      · exact hn2.2.2 a ha b (by simp [h3])
      · have := (h7 a ha).1
        omega
  · intro k hk
    simp only [List.mem_cons, List.mem_append, List.not_mem_nil, or_false] at hk
    rcases hk with rfl | hk | rfl
    · have := hlt k (by simp); omega
    · have := (h7 k hk).1; omega
    · exact h4

theorem tape_ok (cf : Cfg) {T : Nat} {rs : List Rep} {rep : Bool} {fu : TS → Nat} (hf : cf.f = 45) (hfirst : cf.first = #[.pointer (some ⟨T, 0, none⟩)]) (hcap : cf.cap = #[]) (hTx : ∀ (i : Nat) (r : Rep), rs[i]? = some r → r.text.size ≤ 140737488355328)
    (hfu : ∀ x, 0 < fu x → x.calls.length < 1000000000000) (hfuel : ∀ x d b, (splitTape rs rep x d b).code = 1 ∨ (splitTape rs rep x d b).code = 2 ∨ fu x ≤ fu (splitTape rs rep x d b).sp + 1) :
    SplitOK cf (TapeSI cf.E cf.base T rs rep) (splitTape rs rep) false fu where
  enters := fun args w => by rw [hf]; rfl
  stable := fun x o w w' ⟨h1, h2, h3⟩ hk hb => ⟨h1.frame hk, (hb.cell (p := ⟨_, 0, none⟩) h3).trans h2, h3⟩
  fuel := hfuel
  calls := fun w x o a n c d eof ⟨⟨rp, rc, cv, rl, hpos, hrl, hrc, hT, hRP, hown, ho⟩, hsp, hsl⟩ hG hlt hnd hby hdn hnc hc4 hde hda hfx => by
    subst ho
    rw [hf, hfirst, hcap]
    have hT1 := hlt T (by simp)
    have hGl : ∀ wx, Off (T :: (rl ++ cv.ownBlock.toList)) w wx → wx.cell? ⟨1, 0, none⟩ = some (.iface 124 (.pointer (some (cf.E 6)))) ∧ wx.cell? ⟨0, 0, none⟩ = some (.iface 124 (.pointer (some (cf.E 4)))) := fun wx ho => by
      have h5 := hG.lt.2.2.2.2
      refine ⟨(ho.cell (p := ⟨_, 0, none⟩) (by show 1 < _; omega) (fun hm => ?_)).trans hG.fin, (ho.cell (p := ⟨_, 0, none⟩) (by show 0 < _; omega) (fun hm => ?_)).trans hsp⟩
      · have := (hlt _ hm).1
        exact absurd h5 (by show ¬ 1 < _; exact Nat.not_lt.2 this)
      · have := (hlt _ hm).1
        exact absurd hsl (by show ¬ 0 < _; exact Nat.not_lt.2 this)
    show Calls Tryd.prog 45 #[.pointer (some ⟨T, 0, none⟩), .slice a n c, .bool eof] w _
    have htp : tpos rs rep x.pos ≤ rs.length := by unfold tpos; split <;> omega
    refine tape_try (E := cf.E) (x := x) (rs := rs) (rep := rep) (base := cf.base) hT hown hnd (fun k hk => (hlt k hk).2) hby hdn (by omega) (by omega) (fun h => ?_) (by omega) (hfu x hfx) hpos (by omega) hGl hRP hTx _ ?_ ?_
    · obtain ⟨p, h1, h2, h3, _⟩ := hda h
      exact ⟨p, h1, h2, h3⟩
    · intro wx hR hpl
      obtain ⟨o', h1, h2, h3, h4, h5⟩ := tape_after hR hnd (fun k hk => (hlt k hk).2) hRP hrl hrc htp
      have e : splitTape rs rep x d eof = ⟨⟨tpos rs rep x.pos, x.calls ++ [(d, eof)]⟩, 0, none, 1⟩ := by
        unfold splitTape
        rw [hpl, List.getElem?_eq_none (Nat.le_refl _)]
      rw [e]
      exact ⟨_, o', rfl, ⟨h1, (hGl wx h2).2, hsl⟩, h2, h3, h4, h5, rfl⟩
    · intro wx r tokv hr hR htok
      have hlt2 : tpos rs rep x.pos < rs.length := (List.getElem?_eq_some_iff.1 hr).1
      obtain ⟨o', h1, h2, h3, h4, h5⟩ := tape_after hR hnd (fun k hk => (hlt k hk).2) hRP hrl hrc (by omega)
      have e : splitTape rs rep x d eof = ⟨⟨tpos rs rep x.pos + 1, x.calls ++ [(d, eof)]⟩, if r.all then d.length else r.adv, tokR r d, codeR r.err⟩ := by
        unfold splitTape
        rw [hr]
      rw [e]
      exact ⟨_, o', rfl, ⟨h1, (hGl wx h2).2, hsl⟩, h2, h3, h4, h5, htok⟩
end Go.Proofs.YtkclapimgmnldaaDoor
