/-
  laws.toScript: a script copied.
-/
import Derived.Test.YtkclapimgmnldaaDoorQOpenScr
import Derived.Test.YtkclapimgmnldaaDoorQMadeS
import Derived.Test.YtkclapimgmnldaaDoorQO
namespace Go.Proofs.YtkclapimgmnldaaDoor
set_option linter.unusedVariables false
set_option linter.unusedSimpArgs false
set_option maxRecDepth 20000
open Go.RowKit

theorem flat_7 {α β : Type} {f : α → List β} {m : Nat} (hf : ∀ x, (f x).length = m) : ∀ (l : List α) (k : Nat) (c : α), l[k]? = some c → ∀ j, j < m → (l.flatMap f)[k * m + j]? = (f c)[j]? := by
  intro l
  induction l with
  | nil => intro k c h; simp at h
  | cons a r ih =>
    intro k c h j hj
    rw [List.flatMap_cons]
    cases k with
    | zero =>
      simp only [List.getElem?_cons_zero, Option.some.injEq] at h
      subst h
      rw [Nat.zero_mul, Nat.zero_add, List.getElem?_append_left (by rw [hf]; exact hj)]
    | succ k =>
      rw [List.getElem?_cons_succ] at h
      have e : (k + 1) * m + j = m + (k * m + j) := by rw [Nat.succ_mul]; omega
      rw [e, List.getElem?_append_right (by rw [hf]; omega), hf, Nat.add_sub_cancel_left]
      exact ih k c h j hj
/-- such a row is the replies of a script -/
theorem reps_of_row {base : Nat} {w : World} {v : Value} {rs : List Rep} (h : w.ownsRow base 56 7 v rs.length (rs.flatMap repV)) :
    ∃ rp rc rl, v = .slice rp rs.length rc ∧ (rs.length ≤ rc ∧ rc ≤ 9223372036854775807) ∧ RepsAt w rs rp rl ∧ rl.Nodup ∧ (∀ k, k ∈ rl → base ≤ k ∧ k < w.heap.size) ∧ ∀ k, k ∈ rl → v.ownBlock = some k := by
  have h' := h
  obtain ⟨h1, h2⟩ := h
  rcases h2 with ⟨rfl, h3⟩ | ⟨g, cap, cur, rfl, h3, h4, h5, h6, h7, h8⟩
  · have : rs = [] := List.length_eq_zero_iff.1 h3
    subst this
    exact ⟨none, 0, [], rfl, ⟨by simp, by omega⟩, fun i r hr => by simp at hr, by simp, fun k hk => (by cases hk), fun k hk => by cases hk⟩
  · refine ⟨_, cap, [g], rfl, ⟨h5, by unfold maxLen at h6; omega⟩, fun i r hr => ⟨g, 0, rfl, by simp, fun j v hv => ?_⟩, by simp, fun k hk => (by simp at hk; subst hk; exact ⟨h3, lt_of_heap h4⟩), fun k hk => by simp at hk; subst hk; rfl⟩
    have hj : j < 7 := by
      have := (List.getElem?_eq_some_iff.1 hv).1
      simpa using this
    have h9 := World.ownsRow.cells h' rfl (i * 7 + j) v (by rw [flat_7 (f := repV) (m := 7) (fun _ => rfl) rs i r hr j hj]; exact hv)
    have hplain : (⟨g, 0, none⟩ : Addr).add (i * 7 + j) = ⟨g, 0 + (i * 7 + j), none⟩ := by unfold Addr.add; split <;> simp_all
    rw [hplain, ← Nat.add_assoc] at h9
    exact h9
/-- what toScript gives -/
def ScrPost (rs : List Rep) (rep : Bool) (w : World) (e : Ending) (w' : World) : Prop :=
  ∃ rp rc rl, e = .returned (scrV rp rs.length rc rep) ∧ RepsAt w' rs rp rl ∧ (rs.length ≤ rc ∧ rc ≤ 9223372036854775807) ∧ rl.Nodup ∧ (∀ k, k ∈ rl → w.heap.size ≤ k ∧ k < w'.heap.size) ∧ Below w.heap.size w w'
theorem info_reply : (Tryd.prog.info? 56).map (fun i => (i.zero, i.size, i.bytes)) = some (some (.agg #[.int .i64 0, .bool false, .int .i64 0, .int .i64 0, .int .i64 0, .string ⟨#[]⟩, .int .i64 0]), 7, 64) := by kernel_rfl
theorem row_new (w : World) (cs : List Value) (t : TypeId) : ∀ j u, cs[j]? = some u → (w.alloc (.cells cs.toArray t)).cell? ((⟨w.heap.size, 0, none⟩ : Addr).add j) = some u := by
  intro j u hj
  have hplain : (⟨w.heap.size, 0, none⟩ : Addr).add j = ⟨w.heap.size, 0 + j, none⟩ := by unfold Addr.add; split <;> simp_all
  rw [hplain, cell_of_heap (heap_new w _)]
  simpa using hj
/-- the loop's memory -/
structure ScI (w : World) (rs : List Rep) (rep : Bool) (k : Nat) (v : Value) (wr : World) : Prop where
  out : wr.heap[w.heap.size + 2]? = some (.cells #[v, .bool rep] 59 (0, 0))
  res : wr.heap[w.heap.size + 1]? = some (.cells #[.slice none 0 0, .bool false] 59 (0, 0))
  own : wr.ownsRow w.heap.size 56 7 v k ((rs.take k).flatMap repV)
  bel : Below w.heap.size w wr
theorem own_other {w : World} {base : Nat} {e : TypeId} {size : Nat} {v : Value} {n : Nat} {xs : List Value} (h : w.ownsRow base e size v n xs) {k : Nat} {c : Array Value} {t : TypeId} {fz : Nat × Nat} (hk : w.heap[k]? = some (.cells c t fz)) (ht : t ≠ e) : some k ≠ v.ownBlock := by
  intro he
  rcases h.2 with ⟨rfl, _⟩ | ⟨g, cap, cur, rfl, h3, h4, _⟩
  · simp [Value.ownBlock] at he
  · simp only [Value.ownBlock, Option.some.injEq] at he
    subst he
    rw [h4] at hk
    simp only [Option.some.injEq, Obj.cells.injEq] at hk
    exact ht hk.2.1.symm
section
variable {w wr w3 : World} {rs : List Rep} {rep : Bool} {k : Nat} {v v' : Value} {o1 o2 : Obj} {r : Rep}
theorem ScI.grown (h : ScI w rs rep k v wr) (hg : ((wr.alloc o1).alloc o2).grownBy w3 v.ownBlock) : w3.heap[w.heap.size + 2]? = some (.cells #[v, .bool rep] 59 (0, 0)) ∧ w3.heap[w.heap.size + 1]? = some (.cells #[.slice none 0 0, .bool false] 59 (0, 0)) := by
  have l2 := lt_of_heap h.out
  have l1 := lt_of_heap h.res
  constructor
  · rw [hg.block _ (by simp; omega) (own_other h.own h.out (by decide)), Below.heap_alloc _ _ _ (by simp; omega), Below.heap_alloc _ _ _ l2]
    exact h.out
  · rw [hg.block _ (by simp; omega) (own_other h.own h.res (by decide)), Below.heap_alloc _ _ _ (by simp; omega), Below.heap_alloc _ _ _ l1]
    exact h.res
theorem ScI.step (h : ScI w rs rep k v wr) (hr : rs[k]? = some r) (hrow : w3.ownsRow w.heap.size 56 7 v' (k + 1) ((rs.take k).flatMap repV ++ repV r)) (hg : ((wr.alloc o1).alloc o2).grownBy w3 v.ownBlock) :
    ScI w rs rep (k + 1) v' (w3.setCell ⟨w.heap.size + 2, 0, none⟩ v') := by
  obtain ⟨g2, g1⟩ := h.grown hg
  refine ⟨?_, (heap_setCell_not (by omega) _).trans g1, ?_, ?_⟩
  · rw [heap_setCell_at g2]; rfl
  · have e : (rs.take (k + 1)).flatMap repV = (rs.take k).flatMap repV ++ repV r := by
      rw [List.take_add_one, hr]
      simp
    rw [e]
    exact owns_frame hrow fun j hj => heap_setCell_not (fun hh => by
      subst hh
      exact own_other hrow g2 (by decide) hj.symm) _
  · have b1 : Below w.heap.size w ((wr.alloc o1).alloc o2) := (h.bel.alloc h.bel.size _).alloc (by have := h.bel.size; simp; omega) _
    have b2 : Below w.heap.size ((wr.alloc o1).alloc o2) w3 := (Below.refl _ _).grown hg (by have := h.bel.size; simp; omega) (fun j hj => by
      have := World.ownsRow.lt h.own j hj
      exact this.1)
    exact (b1.trans b2).setCell (p := ⟨w.heap.size + 2, 0, none⟩) (by simp) _
end
abbrev scrW (w : World) (xp : Option Addr) (xn xc : Nat) (rep : Bool) : World :=
  ((w.alloc (.cells #[.slice xp xn xc, .bool rep] 67)).alloc (.cells #[.slice none 0 0, .bool false] 59)).alloc (.cells #[.slice none 0 0, .bool rep] 59)
theorem scrW_start (w : World) (xp : Option Addr) (rs : List Rep) (xc : Nat) (rep : Bool) : ScI w rs rep 0 (.slice none 0 0) (scrW w xp rs.length xc rep) := by
  refine ⟨?_, ?_, World.ownsRow_nil _ _ _ _, bel_al (bel_al (bel_al (Below.refl _ _) _) _) _⟩
  · have := heap_new ((w.alloc (.cells #[.slice xp rs.length xc, .bool rep] 67)).alloc (.cells #[.slice none 0 0, .bool false] 59)) (.cells #[.slice none 0 0, .bool rep] 59)
    simpa using this
  · rw [Below.heap_alloc _ _ _ (by simp)]
    have := heap_new (w.alloc (.cells #[.slice xp rs.length xc, .bool rep] 67)) (.cells #[.slice none 0 0, .bool false] 59)
    simpa using this

set_option maxRecDepth 100000 in
set_option maxHeartbeats 1000000 in
theorem toScript_any (rs : List Rep) (xp : Option Addr) (xc : Nat) (rep : Bool) (w : World) (hx : RepsC w xp rs xc) (hn : rs.length * 64 ≤ 140737488355328) :
    Calls Tryd.prog 31 #[.agg #[.slice xp rs.length xc, .bool rep]] w (ScrPost rs rep w) := by
  obtain ⟨i0, hi, hz0, hz1, hz2⟩ := info_parts info_reply
  have HX := Lib.hid (fun wr (hb : Below w.heap.size w wr) => hx.below hb)
  have HN := Lib.hid hn
  have HS0 := Lib.hid (scrW_start w xp rs xc rep)
  have hxc := hx.cap
  have hxl := hx.le
  clear hx hn
  go_enter Tryd.func31, Tryd.ntmps31
  go_wp2_with fail
  go_loopw [12] (fun iv wr => ∃ (k : Nat) (v : Value), iv = .int .i64 (k : Int) ∧ k ≤ rs.length ∧ Hid (ScI w rs rep k v wr)) (fun iv _ => rs.length - (intOf iv).toNat)
  case atStart => exact ⟨0, _, rfl, Nat.zero_le _, HS0⟩
  case round =>
    obtain ⟨k, v, rfl, hk, hI⟩ := hrel
    by_cases hlt : k < rs.length
    · obtain ⟨b, q, rfl, hc⟩ := (HX.out wr hI.out.bel).cells k rs[k] (List.getElem?_eq_getElem hlt)
      have hrk : rs[k]? = some rs[k] := List.getElem?_eq_getElem hlt
      have HRk := Lib.hid hrk
      have q0 := hc 0 _ rfl
      have q1 := hc 1 _ rfl
      have q2 := hc 2 _ rfl
      have q3 := hc 3 _ rfl
      have q4 := hc 4 _ rfl
      have q5 := hc 5 _ rfl
      have q6 := hc 6 _ rfl
      rw [Nat.add_zero] at q0
      clear hc hrk
      generalize rs[k] = r at *
      have p0 : wr.cell? ⟨w.heap.size + 2, 0, none⟩ = some v := cell_of_heap hI.out.out
      have p1 := frozen_of_heap hI.out.out 0
      have hz := lt_of_heap hI.out.out
      have hfits : rs.length * 64 ≤ 140737488355328 := HN.out
      go_wp2_with (first
        | (at_builtin; refine wpList_append_own _ rfl _ _ 57 rfl w.heap.size 56 i0 (.agg #[.int .i64 0, .bool false, .int .i64 0, .int .i64 0, .int .i64 0, .string ⟨#[]⟩, .int .i64 0]) 7 64 (by kernel_rfl) hi hz0 hz1 hz2 rfl (by decide) _ k _ rfl (World.ownsRow.alloc (w := wr.alloc _) (World.ownsRow.alloc (w := wr) hI.out.own _) _) ⟨wr.heap.size + 1, 0, none⟩ 1 1 (repV r) rfl rfl ?c1 ?c2 ?c3 ?c4 ?c5 ?_)
        | go_in)
      case c1 =>
        intro j u hj
        have := row_new (wr.alloc (.cells #[.int .i64 r.adv, .bool r.all, .int .i64 r.tok, .int .i64 r.frm, .int .i64 r.till, .string r.text, .int .i64 r.err] 94)) (repV r) 56 j u hj
        rw [World.size_alloc] at this
        exact this
      case c2 => intro u hu; simp at hu; rcases hu with rfl | rfl | rfl | rfl | rfl | rfl | rfl <;> rfl
      case c3 => unfold maxLen; omega
      case c4 => omega
      case c5 => have := hI.out.bel.size; simp; omega
      · intro v' w3 hrow hgrow _
        have hg := hI.out.grown hgrow
        have HI2 := Lib.hid (hI.out.step HRk.out hrow hgrow)
        have p2 : w3.cell? ⟨w.heap.size + 2, 0, none⟩ = some v := cell_of_heap hg.1
        have p3 := frozen_of_heap hg.1 0
        obtain ⟨rp', rc', e'⟩ : ∃ a c, v' = .slice a (k + 1) c := by
          rcases hrow.2 with ⟨h9, h0⟩ | ⟨g, cap, cur, h9, _⟩
          · omega
          · exact ⟨_, _, h9⟩
        subst e'
        clear hI hrow hgrow hg p0 p1
        go_wp2_with fail
        go_roundw
        case rel => exact ⟨k + 1, _, by go_num, by omega, HI2⟩
        case measure => simp [intOf]; omega
    · obtain rfl : k = rs.length := by omega
      have p0 : wr.cell? ⟨w.heap.size + 2, 0, none⟩ = some v := cell_of_heap hI.out.out
      have p1 : wr.cell? ⟨w.heap.size + 2, 1, none⟩ = some (.bool rep) := cell_of_heap hI.out.out
      have p2 : wr.cell? ⟨w.heap.size + 1, 0, none⟩ = some (.slice none 0 0) := cell_of_heap hI.out.res
      have p3 : wr.cell? ⟨w.heap.size + 1, 1, none⟩ = some (.bool false) := cell_of_heap hI.out.res
      have p4 := frozen_of_heap hI.out.res
      have hrow := hI.out.own
      rw [List.take_length] at hrow
      obtain ⟨rp, rc, rl, rfl, hrc, hR, hnd, hrl, hob⟩ := reps_of_row hrow
      have HR := Lib.hid (And.intro hrc (And.intro hR (And.intro hnd hrl)))
      have HL := Lib.hid (fun k (hk : k ∈ rl) => own_other hrow hI.out.res (by decide))
      have HOb := Lib.hid hob
      have HI2 := Lib.hid hI.out
      clear hI hrow hrc hR hnd hrl hob
      go_wp2_with fail
      have hW : ((wr.setCell ⟨w.heap.size + 1, 0, none⟩ (.slice rp rs.length rc)).setCell ⟨w.heap.size + 1, 1, none⟩ (.bool rep)).heap[w.heap.size + 1]? = some (.cells #[.slice rp rs.length rc, .bool rep] 59 (0, 0)) := by
        rw [heap_setCell_at (heap_setCell_at HI2.out.res _) _]; rfl
      have hP : ScrPost rs rep w (.returned (scrV rp rs.length rc rep)) ((wr.setCell ⟨w.heap.size + 1, 0, none⟩ (.slice rp rs.length rc)).setCell ⟨w.heap.size + 1, 1, none⟩ (.bool rep)) := by
        obtain ⟨g1, g2, g3, g4⟩ := HR.out
        have hne : ∀ k, k ∈ rl → k ≠ w.heap.size + 1 := fun k hk e => by
          subst e
          exact HL.out _ hk (HOb.out _ hk).symm
        refine ⟨rp, rc, rl, rfl, g2.frame (fun k hk => ?_), g1, g3, fun k hk => ?_, ?_⟩
        · rw [heap_setCell_not (hne k hk), heap_setCell_not (hne k hk)]
        · have := g4 k hk
          simp
          exact this
        · exact (HI2.out.bel.setCell (p := ⟨w.heap.size + 1, 0, none⟩) (by simp) _).setCell (p := ⟨w.heap.size + 1, 1, none⟩) (by simp) _
      generalize ((wr.setCell ⟨w.heap.size + 1, 0, none⟩ (.slice rp rs.length rc)).setCell ⟨w.heap.size + 1, 1, none⟩ (.bool rep)) = W2 at hW hP ⊢
      have c0 : W2.cell? ⟨w.heap.size + 1, 0, none⟩ = some (.slice rp rs.length rc) := cell_of_heap hW
      have c1 : W2.cell? ⟨w.heap.size + 1, 1, none⟩ = some (.bool rep) := cell_of_heap hW
      exact bodyPost_ret (v := scrV rp rs.length rc rep) (by simp [results, Tryd.results31, go_sem, c0, c1]) rfl hP
end Go.Proofs.YtkclapimgmnldaaDoor
