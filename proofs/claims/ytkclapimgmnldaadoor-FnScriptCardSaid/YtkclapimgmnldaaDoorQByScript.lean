/-
  impl.ByScript: what a scanner with a script comes to.
-/
import Derived.Test.YtkclapimgmnldaaDoorQMadeS
import Derived.Test.YtkclapimgmnldaaDoorQV
import Derived.Defers
import Derived.Recover
import Derived.Stop.IfaceNil
namespace Go.Proofs.YtkclapimgmnldaaDoor
set_option linter.unusedVariables false
set_option linter.unusedSimpArgs false
set_option maxRecDepth 20000
open Go.RowKit

theorem anyIface : Tryd.prog.isIface 20 = true := by kernel_rfl

/-- the cells of what comes of scanning -/
abbrev runCells (tv cv : Value) (e : Int) (ended pan : Bool) : Array Value := #[tv, cv, .int .i64 e, .bool ended, .bool pan]

section
variable {base : Nat} {w : World} {E : Nat → Addr} {O CB OB T B : Nat} {tv cv : Value} {ended : Bool}
noncomputable def closeB : Code := sR (Tryd.f46.body.getD .skip)
set_option maxHeartbeats 1000000 in
theorem close_rest {p : Bool} (a3 a4 a5 : Value) (er : Option Nat) (cd : Int) (hO : w.heap[O]? = some (.cells (runCells tv (.slice none 0 0) 0 ended p) 61 (0, 0))) (hCB : w.cell? ⟨CB, 0, none⟩ = some (.pointer (some ⟨T, 0, none⟩))) (hOB : w.cell? ⟨OB, 0, none⟩ = some (.pointer (some ⟨B, 0, none⟩)))
    (hne : OB ≠ O) {ca : Option Addr} {cn cc : Nat} (hT : w.cell? ⟨T, 3, none⟩ = some (.slice ca cn cc))
    (hErr : Calls Tryd.prog 40 #[.pointer (some ⟨B, 0, none⟩)] (w.setCell ⟨O, 1, none⟩ (.slice ca cn cc)) fun e w2 => e = .returned (errV E er) ∧ ∃ n, w2 = (w.setCell ⟨O, 1, none⟩ (.slice ca cn cc)).drewN n)
    (hCode : ∀ n, Calls Tryd.prog 39 #[errV E er] ((w.setCell ⟨O, 1, none⟩ (.slice ca cn cc)).drewN n) fun e w2 => e = .returned (.int .i64 cd) ∧ (w.setCell ⟨O, 1, none⟩ (.slice ca cn cc)).drewN n = w2)
    (Q : Exit → Act → World → Prop) (hQ : ∀ n tmps, Q .normal ⟨tmps, []⟩ (((w.setCell ⟨O, 1, none⟩ (.slice ca cn cc)).drewN n).setCell ⟨O, 2, none⟩ (.int .i64 cd))) :
    Code.wp Tryd.prog closeB Q ⟨#[.pointer (some ⟨O, 0, none⟩), .pointer (some ⟨CB, 0, none⟩), .pointer (some ⟨OB, 0, none⟩), a3, a4, a5, undef, undef, undef, undef, undef, undef, undef, undef, undef], []⟩ w := by
  have h1 : w.cell? ⟨O, 1, none⟩ = some (.slice none 0 0) := cell_of_heap hO
  have hz := frozen_of_heap hO
  have hO2 := heap_setCell_at (i := 1) hO (.slice ca cn cc)
  have h2 : ∀ n, ((w.setCell ⟨O, 1, none⟩ (.slice ca cn cc)).drewN n).cell? ⟨O, 2, none⟩ = some (.int .i64 0) := fun n => cell_of_heap hO2
  have hz2 : ∀ n, ((w.setCell ⟨O, 1, none⟩ (.slice ca cn cc)).drewN n).frozen? ⟨O, 2, none⟩ = false := fun n => frozen_of_heap hO2 2
  have h3 : (w.setCell ⟨O, 1, none⟩ (.slice ca cn cc)).cell? ⟨OB, 0, none⟩ = some (.pointer (some ⟨B, 0, none⟩)) := (World.cell?_of_block (a := ⟨OB, 0, none⟩) (heap_setCell_not hne _)).trans hOB
  have HErr := Lib.hid hErr
  have HCode := Lib.hid hCode
  have HQ := Lib.hid hQ
  have H2 := Lib.hid h2
  have HZ2 := Lib.hid hz2
  clear hErr hCode hQ hO hO2 hne hOB h2 hz2
  unfold closeB
  show Code.wp Tryd.prog (Code.seq _ _) Q _ w
  go_wp2_with fail
  refine HErr.out.mono ?_
  rintro e w2 ⟨rfl, n, rfl⟩
  have k2 := H2.out n
  have kz := HZ2.out n
  have HC := Lib.hid (HCode.out n)
  generalize errV E er = ev at *
  go_wp2_with fail
  refine HC.out.mono ?_
  rintro e w2 ⟨rfl, rfl⟩
  go_wp2_with fail
  exact HQ.out n _

/-- what the door needs: the world behind the body, and behind the closure's first statement -/
structure AtDoor (O CB OB T B : Nat) (E : Nat → Addr) (tv : Value) (ca : Option Addr) (cn cc : Nat) (er : Option Nat) (cd : Int) (ended : Bool) (w : World) : Prop where
  hO : w.heap[O]? = some (.cells (runCells tv (.slice none 0 0) 0 ended false) 61 (0, 0))
  hCB : w.cell? ⟨CB, 0, none⟩ = some (.pointer (some ⟨T, 0, none⟩))
  hOB : w.cell? ⟨OB, 0, none⟩ = some (.pointer (some ⟨B, 0, none⟩))
  n1 : CB ≠ O
  n2 : OB ≠ O
  n3 : T ≠ O
  hT : w.cell? ⟨T, 3, none⟩ = some (.slice ca cn cc)
  err : ∀ w', (∀ k, k ≠ O → w'.heap[k]? = w.heap[k]?) → Below O w w' → Calls Tryd.prog 40 #[.pointer (some ⟨B, 0, none⟩)] w' fun e w2 => e = .returned (errV E er) ∧ ∃ n, w2 = w'.drewN n
  code : ∀ w', (∀ k, k ≠ O → w'.heap[k]? = w.heap[k]?) → Below O w w' → Calls Tryd.prog 39 #[errV E er] w' fun e w2 => e = .returned (.int .i64 cd) ∧ w' = w2

/-- the world that the closure leaves -/
abbrev closeW (O : Nat) (p : Bool) (cv : Value) (cd : Int) (n : Nat) (w : World) : World := (((w.setCell ⟨O, 4, none⟩ (.bool p)).setCell ⟨O, 1, none⟩ cv).drewN n).setCell ⟨O, 2, none⟩ (.int .i64 cd)

variable {ca : Option Addr} {cn cc : Nat} {er : Option Nat} {cd : Int}
theorem AtDoor.rest (h : AtDoor O CB OB T B E tv ca cn cc er cd ended w) (p : Bool) (a3 a4 a5 : Value) (Q : Exit → Act → World → Prop) (hQ : ∀ n tmps, Q .normal ⟨tmps, []⟩ (closeW O p (.slice ca cn cc) cd n w)) :
    Code.wp Tryd.prog closeB Q ⟨#[.pointer (some ⟨O, 0, none⟩), .pointer (some ⟨CB, 0, none⟩), .pointer (some ⟨OB, 0, none⟩), a3, a4, a5, undef, undef, undef, undef, undef, undef, undef, undef, undef], []⟩ (w.setCell ⟨O, 4, none⟩ (.bool p)) := by
  have hk : ∀ k, k ≠ O → ((w.setCell ⟨O, 4, none⟩ (.bool p)).setCell ⟨O, 1, none⟩ (.slice ca cn cc)).heap[k]? = w.heap[k]? := fun k hk => by rw [heap_setCell_not hk, heap_setCell_not hk]
  have hb : Below O w ((w.setCell ⟨O, 4, none⟩ (.bool p)).setCell ⟨O, 1, none⟩ (.slice ca cn cc)) := ((Below.refl _ _).setCell (p := ⟨O, 4, none⟩) (Nat.le_refl _) _).setCell (p := ⟨O, 1, none⟩) (Nat.le_refl _) _
  refine close_rest (T := T) (E := E) (tv := tv) (ended := ended) (p := p) a3 a4 a5 er cd ?_ ?_ ?_ h.n2 ?_ (h.err _ hk hb) (fun n => h.code _ hk ⟨hb.os, hb.tape, hb.output, hb.size, hb.block⟩) Q hQ
  · rw [heap_setCell_at h.hO]; rfl
  · exact (World.cell?_of_block (a := ⟨CB, 0, none⟩) (heap_setCell_not h.n1 _)).trans h.hCB
  · exact (World.cell?_of_block (a := ⟨OB, 0, none⟩) (heap_setCell_not h.n2 _)).trans h.hOB
  · exact (World.cell?_of_block (a := ⟨T, 3, none⟩) (heap_setCell_not h.n3 _)).trans h.hT

set_option maxHeartbeats 1000000 in
theorem close_panicking (h : AtDoor O CB OB T B E tv ca cn cc er cd ended w) (u : TypeId) (pv : Value) (older : List PanicEntry) :
    CallsD Tryd.prog 46 #[.pointer (some ⟨O, 0, none⟩), .pointer (some ⟨CB, 0, none⟩), .pointer (some ⟨OB, 0, none⟩)] (.panicking ({ v := .iface u pv, recovered := false } :: older)) w fun e u' w' =>
      e = .returned (.tuple #[]) ∧ u' = .panicking ({ v := .iface u pv, recovered := true } :: older) ∧ ∃ n, w' = closeW O true (.slice ca cn cc) cd n w := by
  have h1 := run_neq_iface_nil (P := Tryd.prog) w 20 anyIface u pv
  refine callsD_of_wpS Tryd.func46 rfl fun c₀ cs hu => ?_
  have h4 : w.cell? ⟨O, 4, none⟩ = some (.bool false) := cell_of_heap h.hO
  have hz := frozen_of_heap h.hO 4
  refine wpS_seq ?_
  apply wpS_region
  simp [wpOpsS, go_sem, recoverD, hu, Tryd.ntmps46, Exit.thenS, h1, h4, hz]
  refine wpS_of_wp ?_
  refine h.rest true (.iface u pv) (.bool true) (.pointer (some ⟨O, 4, none⟩)) _ fun n tmps => ?_
  exact ⟨rfl, _, rfl, _, by simp [results, Tryd.results46, go_sem], rfl, rfl, n, rfl⟩

set_option maxHeartbeats 1000000 in
theorem close_idle (h : AtDoor O CB OB T B E tv ca cn cc er cd ended w) :
    CallsD Tryd.prog 46 #[.pointer (some ⟨O, 0, none⟩), .pointer (some ⟨CB, 0, none⟩), .pointer (some ⟨OB, 0, none⟩)] .returning w fun e u' w' =>
      e = .returned (.tuple #[]) ∧ u' = .returning ∧ ∃ n, w' = closeW O false (.slice ca cn cc) cd n w := by
  have h1 := run_neq_nil_nil_at (P := Tryd.prog) w 20 anyIface
  refine callsD_of_wpS Tryd.func46 rfl fun c₀ cs hu => ?_
  have h4 : w.cell? ⟨O, 4, none⟩ = some (.bool false) := cell_of_heap h.hO
  have hz := frozen_of_heap h.hO 4
  refine wpS_seq ?_
  apply wpS_region
  simp [wpOpsS, go_sem, recoverD, hu, Tryd.ntmps46, Exit.thenS, h1, h4, hz]
  refine wpS_of_wp ?_
  refine h.rest false .nilIface (.bool false) (.pointer (some ⟨O, 4, none⟩)) _ fun n tmps => ?_
  exact ⟨rfl, .returning, by rw [← hu], _, by simp [results, Tryd.results46, go_sem], rfl, rfl, n, rfl⟩
theorem closeW_at {p : Bool} {n : Nat} {cv : Value} (hO : w.heap[O]? = some (.cells (runCells tv (.slice none 0 0) 0 ended false) 61 (0, 0))) : (closeW O p cv cd n w).heap[O]? = some (.cells (runCells tv cv cd ended p) 61 (0, 0)) := by
  have h1 := heap_setCell_at (i := 4) hO (.bool p)
  have h2 := heap_setCell_at (i := 1) h1 cv
  have h3 : (((w.setCell ⟨O, 4, none⟩ (.bool p)).setCell ⟨O, 1, none⟩ cv).drewN n).heap[O]? = _ := h2
  rw [heap_setCell_at h3]
  rfl
set_option maxHeartbeats 1000000 in
theorem door_ret (h : AtDoor O CB OB T B E tv ca cn cc er cd ended w) {tmps : Array Value} (h8 : tmps.getD 8 undef = .pointer (some ⟨O, 0, none⟩)) (R : Ending → World → Prop) (hR : ∀ n, R (.returned (.agg (runCells tv (.slice ca cn cc) cd ended false))) (closeW O false (.slice ca cn cc) cd n w)) :
    bodyPostD Tryd.prog Tryd.f30 R Exit.ret { tmps := tmps, defers := [{ target := .fn (.func 46) #[.pointer (some ⟨O, 0, none⟩), .pointer (some ⟨CB, 0, none⟩), .pointer (some ⟨OB, 0, none⟩)], args := #[] }] } w := by
  refine leaves_cons (f := 46) (args := #[.pointer (some ⟨O, 0, none⟩), .pointer (some ⟨CB, 0, none⟩), .pointer (some ⟨OB, 0, none⟩)]) (by simp) (by simp [go_sem]) ?_
  refine (close_idle h).mono ?_
  rintro e u' w'' ⟨rfl, rfl, n, rfl⟩
  have hA := closeW_at (p := false) (n := n) (cv := .slice ca cn cc) (cd := cd) h.hO
  have a0 := cell_of_heap (i := 0) hA
  have a1 := cell_of_heap (i := 1) hA
  have a2 := cell_of_heap (i := 2) hA
  have a3 := cell_of_heap (i := 3) hA
  have a4 := cell_of_heap (i := 4) hA
  have hP := hR n
  generalize closeW O false (.slice ca cn cc) cd n w = W at *
  simp at a0 a1 a2 a3 a4
  have h8' : tmps[8]?.getD undef = .pointer (some ⟨O, 0, none⟩) := by simpa using h8
  simp [Leaves, settle, results, Tryd.results30, go_sem, h8', a0, a1, a2, a3, a4, hP]
set_option maxHeartbeats 1000000 in
theorem door_panic (h : AtDoor O CB OB T B E tv ca cn cc er cd ended w) {tmps : Array Value} (h8 : tmps.getD 8 undef = .pointer (some ⟨O, 0, none⟩)) (y : Value) (R : Ending → World → Prop) (hR : ∀ n, R (.returned (.agg (runCells tv (.slice ca cn cc) cd ended true))) (closeW O true (.slice ca cn cc) cd n w)) :
    bodyPostD Tryd.prog Tryd.f30 R (Exit.panic [{ v := .iface 9 y, recovered := false }]) { tmps := tmps, defers := [{ target := .fn (.func 46) #[.pointer (some ⟨O, 0, none⟩), .pointer (some ⟨CB, 0, none⟩), .pointer (some ⟨OB, 0, none⟩)], args := #[] }] } w := by
  refine leaves_cons (f := 46) (args := #[.pointer (some ⟨O, 0, none⟩), .pointer (some ⟨CB, 0, none⟩), .pointer (some ⟨OB, 0, none⟩)]) (by simp) (by simp [go_sem]) ?_
  refine (close_panicking h _ _ []).mono ?_
  rintro e u' w'' ⟨rfl, rfl, n, rfl⟩
  have hA := closeW_at (p := true) (n := n) (cv := .slice ca cn cc) (cd := cd) h.hO
  have a0 := cell_of_heap (i := 0) hA
  have a1 := cell_of_heap (i := 1) hA
  have a2 := cell_of_heap (i := 2) hA
  have a3 := cell_of_heap (i := 3) hA
  have a4 := cell_of_heap (i := 4) hA
  have hP := hR n
  generalize closeW O true (.slice ca cn cc) cd n w = W at *
  simp at a0 a1 a2 a3 a4
  have h8' : tmps[8]?.getD undef = .pointer (some ⟨O, 0, none⟩) := by simpa using h8
  simp [Leaves, settle, results, Tryd.results30, go_sem, h8', a0, a1, a2, a3, a4, hP]
end

section
variable {base : Nat} {w : World} {E : Nat → Addr} {s : ByteArray} {pa : Option Addr} {pcs : List Int} {pc : Nat} {pl : List Nat} {tog : Bool} {c m : Int} {rs : List Rep} {rep : Bool} {rp : Option Addr} {rc : Nat} {rl : List Nat} {fu : TS → Nat}
/-- a new scanner with a script -/
abbrev newT (s : ByteArray) : Sm TS := ⟨[], s.data.toList, none, 0, false, ⟨0, []⟩⟩
/-- the four boxes -/
abbrev boxW (w : World) (s : ByteArray) (pa : Option Addr) (pn pc : Nat) (tog broken d : Bool) (c m : Int) (rp : Option Addr) (rn rc : Nat) (rep : Bool) : World :=
  (((w.alloc (.cells #[.string s, .slice pa pn pc, .bool tog, .bool broken] 38)).alloc (.cells #[.bool d, .int .i64 c, .int .i64 m] 40)).alloc (.cells #[.slice rp rn rc, .bool rep] 59)).alloc
    (.cells (runCells (.slice none 0 0) (.slice none 0 0) 0 false false) 61)
theorem boxW_at (w : World) (s : ByteArray) (pa : Option Addr) (pn pc : Nat) (tog broken d : Bool) (c m : Int) (rp : Option Addr) (rn rc : Nat) (rep : Bool) :
    (boxW w s pa pn pc tog broken d c m rp rn rc rep).heap[w.heap.size]? = some (.cells #[.string s, .slice pa pn pc, .bool tog, .bool broken] 38 (0, 0)) ∧ (boxW w s pa pn pc tog broken d c m rp rn rc rep).heap[w.heap.size + 1]? = some (.cells #[.bool d, .int .i64 c, .int .i64 m] 40 (0, 0)) ∧
    (boxW w s pa pn pc tog broken d c m rp rn rc rep).heap[w.heap.size + 1 + 1]? = some (.cells #[.slice rp rn rc, .bool rep] 59 (0, 0)) ∧ (boxW w s pa pn pc tog broken d c m rp rn rc rep).heap[w.heap.size + 1 + 1 + 1]? = some (.cells (runCells (.slice none 0 0) (.slice none 0 0) 0 false false) 61 (0, 0)) := by
  refine ⟨?_, ?_, ?_, ?_⟩
  · rw [Below.heap_alloc _ _ _ (by simp; omega), Below.heap_alloc _ _ _ (by simp; omega), Below.heap_alloc _ _ _ (by simp)]; exact heap_new w _
  · rw [Below.heap_alloc _ _ _ (by simp), Below.heap_alloc _ _ _ (by simp)]
    have := heap_new (w.alloc (.cells #[.string s, .slice pa pn pc, .bool tog, .bool broken] 38)) (.cells #[.bool d, .int .i64 c, .int .i64 m] 40)
    simpa using this
  · rw [Below.heap_alloc _ _ _ (by simp)]
    have := heap_new ((w.alloc (.cells #[.string s, .slice pa pn pc, .bool tog, .bool broken] 38)).alloc (.cells #[.bool d, .int .i64 c, .int .i64 m] 40)) (.cells #[.slice rp rn rc, .bool rep] 59)
    simpa using this
  · have := heap_new (((w.alloc (.cells #[.string s, .slice pa pn pc, .bool tog, .bool broken] 38)).alloc (.cells #[.bool d, .int .i64 c, .int .i64 m] 40)).alloc (.cells #[.slice rp rn rc, .bool rep] 59)) (.cells (runCells (.slice none 0 0) (.slice none 0 0) 0 false false) 61)
    simpa using this
/-- the scanner's configuration with the tape -/
abbrev tapeCf (E : Nat → Addr) (base W0 : Nat) (tog broken d : Bool) (c m : Int) (T : Nat) : Cfg := { newCf E base W0 tog broken d c m with f := 45, first := #[.pointer (some ⟨T, 0, none⟩)], cap := #[] }
/-- .. and its world behind Split -/
abbrev splitW (wm : World) (W0 T : Nat) : World := wm.setCell ⟨W0 + 4, 1, none⟩ (.func (.func 45) #[.pointer (some ⟨T, 0, none⟩)] #[])
variable {d broken : Bool} {OB CB T W0 : Nat} {ba : Option Addr} {L : Nat} {own : List Nat} {w4 wm : World}
theorem made_split (hM : Made base w4 E s pl tog c m rep rp rs.length rc d broken OB CB T W0 ba L own wm) (hE : EnvC base w4 E) (hR : RepsAt w4 rs rp rl) (hrc : rs.length ≤ rc ∧ rc ≤ 9223372036854775807) (hnd : rl.Nodup) (hrl : ∀ k, k ∈ rl → base ≤ k ∧ k < w4.heap.size ∧ k ∉ pl) :
    SOk (tapeCf E base W0 tog broken d c m T) (TapeSI E base T rs rep) (newT s) (.slice none 0 0) false ba L (own ++ T :: rl) (splitW wm W0 T) := by
  have hB : (newCf E base W0 tog broken d c m).B = W0 + 4 := rfl
  have hm := hM.ok.memB
  have hTB : T ≠ W0 + 4 := fun e => hM.d5 (e ▸ hm)
  have hno : ∀ k, k ∈ rl → k ∉ own := fun k hk ho => by
    obtain ⟨h1, h2, h3⟩ := hrl k hk
    rcases hM.owns k ho with h | h
    · exact h3 h
    · omega
  have hbl := hE.e.le
  refine hM.ok.split 45 #[.pointer (some ⟨T, 0, none⟩)] #[] (TapeSI E base T rs rep) ⟨0, []⟩ (T :: rl) (fun s e bytes pa pcs pc pl bl osp hI _ => hI.r.hsp) ⟨⟨rp, rc, .slice none 0 0, rl, Nat.zero_le _, hrc.1, hrc.2, ?_, ?_, ?_, by simp [Value.ownBlock]⟩, ?_, hE.lts⟩ ?_ ?_
  · exact (heap_setCell_not hTB _).trans hM.hT.2
  · refine hR.frame fun k hk => ?_
    rw [heap_setCell_not (fun e => hno k hk (by rw [e]; exact hm))]
    exact hM.bel.block k (hrl k hk).2.1
  · exact ⟨by simp, .inl ⟨rfl, rfl⟩⟩
  · have h4 := hE.lts
    refine (World.cell?_of_block (a := ⟨0, 0, none⟩) ((heap_setCell_not ?_ _).trans (hM.bel.block _ ?_))).trans hE.sp
    · have := (hM.ok.lt _ hm).1
      intro e
      have h5 : base ≤ W0 + 4 := this
      have e' : 0 = W0 + 4 := e
      omega
    · exact Nat.lt_of_lt_of_le h4 hbl
  · refine List.nodup_cons.2 ⟨fun h => ?_, hnd⟩
    have := (hrl T h).2.1
    have := hM.hT.1
    omega
  · intro k hk
    rcases List.mem_cons.1 hk with rfl | hk
    · exact ⟨hM.d5, Nat.le_trans hbl hM.hT.1, lt_of_heap hM.hT.2⟩
    · obtain ⟨h1, h2, h3⟩ := hrl k hk
      exact ⟨hno k hk, h1, Nat.lt_of_lt_of_le h2 hM.bel.size⟩

/- the errors that a scanner can stand at -/
section
variable {σ : Type}
def E5 (x : Sm σ) : Prop := ∀ c, x.err = some c → c ≤ 5
theorem setErr_5 {x : Sm σ} {c : Nat} (h : E5 x) (hc : c ≤ 5) : E5 (x.setErr c) := by
  unfold Sm.setErr
  split
  · intro c' h'
    cases h'
    exact hc
  · exact h
theorem after_5 {lim : Nat} {s : Sm σ} (h : E5 s) : (∀ o x', Sm.after lim s = .inl (o, x') → E5 x') ∧ (∀ x', Sm.after lim s = .inr x' → E5 x') := by
  unfold Sm.after
  split
  · exact ⟨fun o x' h' => (by cases h'; exact h), fun x' h' => (by cases h')⟩
  · split
    · exact ⟨fun o x' h' => (by cases h'; exact setErr_5 h (by decide)), fun x' h' => (by cases h')⟩
    · exact ⟨fun o x' h' => (by cases h'), fun x' h' => (by cases h'; exact h)⟩
theorem took_5 {lim : Nat} {s : Sm σ} {r : Ans σ} (h : E5 s) : (∀ o x', Sm.took lim s r = .inl (o, x') → E5 x') ∧ (∀ x', Sm.took lim s r = .inr x' → E5 x') := by
  have h2 : E5 { s with sp := r.sp } := h
  unfold Sm.took
  split
  · split
    · exact ⟨fun o x' h' => (by cases h'; exact h), fun x' h' => (by cases h')⟩
    · exact ⟨fun o x' h' => (by cases h'; exact h), fun x' h' => (by cases h')⟩
  · split
    · exact ⟨fun o x' h' => (by cases h'; exact setErr_5 h2 (by decide)), fun x' h' => (by cases h')⟩
    · split
      · exact ⟨fun o x' h' => (by cases h'; exact setErr_5 h2 (by decide)), fun x' h' => (by cases h')⟩
      · split
        · exact ⟨fun o x' h' => (by cases h'; exact setErr_5 h2 (by decide)), fun x' h' => (by cases h')⟩
        · split
          · split
            · exact ⟨fun o x' h' => (by cases h'; exact h), fun x' h' => (by cases h')⟩
            · split
              · exact ⟨fun o x' h' => (by cases h'; exact h), fun x' h' => (by cases h')⟩
              · exact ⟨fun o x' h' => (by cases h'; exact h), fun x' h' => (by cases h')⟩
          · exact after_5 h
theorem pre_5 {split : σ → List UInt8 → Bool → Ans σ} {lim : Nat} {s : Sm σ} (h : E5 s) : (∀ o x', Sm.pre split lim s = .inl (o, x') → E5 x') ∧ (∀ x', Sm.pre split lim s = .inr x' → E5 x') := by
  unfold Sm.pre
  split
  · exact took_5 h
  · exact after_5 h
theorem scan_5 {split : σ → List UInt8 → Bool → Ans σ} {lim : Nat} {tog : Bool} {endE : Nat} (he : endE ≤ 5) {x x' : Sm σ} {o : Out} (h : E5 x) (hs : Sm.Scan split lim tog endE x o x') : E5 x' := by
  rcases hs with ⟨_, _, rfl⟩ | ⟨hd, k, hk⟩
  · exact h
  · clear hd
    revert x
    induction k with
    | zero => intro x h hk; exact (pre_5 h).1 _ _ hk
    | succ k ih =>
      rintro x h ⟨x1, x2, h1, h2, h3⟩
      have g := (pre_5 h).2 _ h1
      refine ih ?_ h3
      rcases h2 with ⟨_, rfl⟩ | ⟨n, _, _, _, rfl⟩
      · intro c hc; cases hc; exact he
      · split
        · intro c hc; cases hc; exact he
        · exact g
end

section
variable {x : Sm TS} {cf : Cfg} {tokv tv : Value} {called ended : Bool} {W : World} {O B : Nat}
/-- the end of the body: what the door needs -/
theorem at_door (hs : SplitOK cf (TapeSI E base T rs rep) (splitTape rs rep) false fu) (hcB : cf.B = B) (hcE : cf.E = E) (hcb : cf.base = base) (hok : SOk cf (TapeSI E base T rs rep) x tokv called ba L own W) (hO : W.heap[O]? = some (.cells (runCells tv (.slice none 0 0) 0 ended false) 61 (0, 0)))
    (hCB : W.cell? ⟨CB, 0, none⟩ = some (.pointer (some ⟨T, 0, none⟩))) (hOB : W.cell? ⟨OB, 0, none⟩ = some (.pointer (some ⟨B, 0, none⟩))) (hn1 : CB ≠ O) (hn2 : OB ≠ O) (hOo : O ∉ own) (hbO : base ≤ O) (hE : EnvC base W E) (h5 : E5 x) :
    ∃ ca cn cc, AtDoor O CB OB T B E tv ca cn cc (errOf x.err) (codeI (errOf x.err)) ended W ∧ W.ownsRow base 47 2 (.slice ca cn cc) x.sp.calls.length (x.sp.calls.flatMap callV) ∧ (∀ k, (Value.slice ca cn cc).ownBlock = some k → k ≠ O) := by
  have hokk := hok
  obtain ⟨s, e, bytes, pa, pcs, pc, pl, bl, osp, h, rfl⟩ := hok
  obtain ⟨⟨rp, rc, cv, rl, h1, h2, h3, h4, h5', h6, rfl⟩, h7, h8⟩ := h.r.hsp
  have hTO : T ≠ O := fun e => hOo (by simp [ownOf, ← e])
  obtain ⟨ca, cn, cc, rfl⟩ : ∃ ca cn cc, cv = .slice ca cn cc := by
    rcases h6.2 with ⟨h9, _⟩ | ⟨g, cap, cur, h9, _⟩
    · exact ⟨_, _, _, h9⟩
    · exact ⟨_, _, _, h9⟩
  have hbel : ∀ w', Below O W w' → Below base W w' := fun w' hb => hb.mono hbO
  refine ⟨ca, cn, cc, ⟨hO, hCB, hOB, hn1, hn2, hTO, cell_of_heap h4, fun w' hk hb => ?_, fun w' hk hb => ?_⟩, h6, fun k hk e => hOo ?_⟩
  · have := err_any (hokk.frame hs (by rw [hcb]; exact hbel _ hb) (fun k hm => hk k (fun e => hOo (e ▸ hm))))
    rw [hcB, hcE] at this
    exact this
  · refine code_any (hE.below (hbel _ hb)) (errOf x.err) (fun k hk2 => ?_)
    cases hx : x.err with
    | none => rw [hx] at hk2; cases hk2
    | some c =>
      have := h5 c hx
      rw [hx] at hk2
      cases c with
      | zero => cases hk2
      | succ j => simp [errOf] at hk2; omega
  · subst e
    have : k ∈ (Value.slice ca cn cc).ownBlock.toList := by simp [hk]
    simp only [ownOf, List.mem_cons, List.mem_append]
    exact .inr (.inr (.inr (.inr (.inr this))))
end

/-- what ByScript gives -/
def RunPost (base : Nat) (rs : List Rep) (rep : Bool) (lim : Nat) (tog : Bool) (endE : Nat) (x0 : Sm TS) (N : Nat) (ps : List Nat) (w : World) (e : Ending) (w' : World) : Prop :=
  ∃ ts x' ended pan tv ca cn cc, e = .returned (.agg (runCells tv (.slice ca cn cc) (codeI (errOf x'.err)) ended pan)) ∧ RunsTo (splitTape rs rep) lim tog endE x0 N ts x' ended pan ∧ StrsAt w.heap.size w' tv ts ∧
    w'.ownsRow base 47 2 (.slice ca cn cc) x'.sp.calls.length (x'.sp.calls.flatMap callV) ∧ Off ps w w'

/-- scanning goes on: m calls of Scan are left -/
def ByI (cf : Cfg) (SI : TS → List Nat → World → Prop) (rs : List Rep) (rep : Bool) (x0 : Sm TS) (fu : TS → Nat) (N O : Nat) (own0 : List Nat) (w5 : World) (m : Nat) (wr : World) : Prop :=
  ∃ x tokv called ba L own tv ts, SOk cf SI x tokv called ba L own wr ∧ x.emp ≤ 100 ∧ (x.done = true → called = true) ∧ Off (O :: own0) w5 wr ∧ Fresh own0 own w5 ∧ Gath w5.heap.size own wr tv ts ∧
    wr.heap[O]? = some (.cells (runCells tv (.slice none 0 0) 0 false false) 61 (0, 0)) ∧ Scans (splitTape rs rep) cf.lim cf.tog cf.endE x0 ts x ∧ ts.length + m = N ∧ (x.done = true ∨ x.left + m < fu x.sp) ∧ E5 x

section
variable {cf : Cfg} {SI : TS → List Nat → World → Prop} {x0 x' : Sm TS} {N O m' : Nat} {own0 own2 : List Nat} {w5 w2 w3 wr : World} {tokv' tv : Value} {ba' : Option Addr} {L' : Nat} {ts : List (List UInt8)} {t : List UInt8} {g cap : Nat}
theorem gath_setCell {b : Nat} {own : List Nat} {w : World} {v : Value} {ts : List (List UInt8)} (h : Gath b own w v ts) (hO : O < b) (u : Value) (i : Nat) : Gath b own (w.setCell ⟨O, i, none⟩ u) v ts := by
  refine ⟨owns_frame h.1 fun k hk => heap_setCell_not (fun e => ?_) _, h.2⟩
  have := (World.ownsRow.lt h.1 k hk).1
  omega
theorem by_push (hs : SplitOK cf SI (splitTape rs rep) false fu) (hbase : cf.base ≤ w5.heap.size) (hO1 : O ∉ own0) (hO2 : O < w5.heap.size) (hO3 : cf.base ≤ O) (hok : SOk cf SI x' tokv' true ba' L' own2 w2) (hemp : x'.emp ≤ 100) (ho : Off (O :: own0) w5 w2) (hf : Fresh own0 own2 w5) (hga : Gath w5.heap.size own2 w2 tv ts)
    (hO : w2.heap[O]? = some (.cells (runCells tv (.slice none 0 0) 0 false false) 61 (0, 0))) (hsc : Scans (splitTape rs rep) cf.lim cf.tog cf.endE x0 (ts ++ [t]) x') (hlen : ts.length + 1 + m' = N) (hfl : x'.done = true ∨ x'.left + m' < fu x'.sp) (h5 : E5 x')
    (hrow : w3.ownsRow w5.heap.size 9 1 (.slice (some ⟨g, 0, none⟩) (ts.length + 1) cap) (ts.length + 1) (ts.map sv ++ [sv t])) (hgrow : (w2.alloc (.cells #[sv t] 9)).grownBy w3 tv.ownBlock) (hat : tv.ownBlock = some g ∨ g = w2.heap.size + 1) :
    ByI cf SI rs rep x0 fu N O own0 w5 m' (w3.setCell ⟨O, 0, none⟩ (.slice (some ⟨g, 0, none⟩) (ts.length + 1) cap)) := by
  have hOn : O ∉ own2 := fun hm => by
    rcases hf O hm with h | h
    · exact hO1 h
    · omega
  have hOs : O < w2.heap.size := lt_of_heap hO
  have hne : ∀ k, tv.ownBlock = some k → k ≠ O := fun k hk e => by
    have := (World.ownsRow.lt hga.1 k hk).1
    omega
  have hlt2 := hok.lt
  have hOk3 := hok.push hs hbase hga hgrow
  refine ⟨x', tokv', true, ba', L', own2, .slice (some ⟨g, 0, none⟩) (ts.length + 1) cap, ts ++ [t], hOk3.frame hs ((Below.refl _ _).setCell (p := ⟨O, 0, none⟩) hO3 _) (fun k hk => heap_setCell_not (fun e => hOn (by rw [← e]; exact hk)) _), hemp, fun _ => rfl, (Off.push ho hga hgrow).setCell (p := ⟨O, 0, none⟩) (by simp) _, hf, gath_setCell ?_ hO2 _ _, ?_, hsc, by simp; omega, hfl, h5⟩
  · have := hga.push (fun k hk => (hlt2 k hk).2) (t := t) (u := sv t) hrow rfl (ob := .cells #[sv t] 9) (by
      rcases hat with h | h
      · exact .inl (by rw [h]; rfl)
      · exact .inr (by simp [Value.ownBlock, h]))
    exact this
  · have h3 : w3.heap[O]? = some (.cells (runCells tv (.slice none 0 0) 0 false false) 61 (0, 0)) := by
      rw [hgrow.block O (by simp; omega) (fun e => hne O e.symm rfl), Below.heap_alloc _ _ _ hOs]
      exact hO
    rw [heap_setCell_at h3]
    rfl
theorem by_start (hs : SplitOK cf SI (splitTape rs rep) false fu) (hO1 : O ∉ own0) (hO2 : O < w5.heap.size) (hO3 : cf.base ≤ O) {tokv : Value} {ba : Option Addr} {L : Nat} (hok : SOk cf SI x0 tokv false ba L own0 w5) (hemp : x0.emp = 0) (hd : x0.done = false) (hO : w5.heap[O]? = some (.cells (runCells (.slice none 0 0) (.slice none 0 0) 0 false false) 61 (0, 0)))
    (hfl : x0.left + N < fu x0.sp) (h5 : x0.err = none) :
    ByI cf SI rs rep x0 fu N O own0 w5 N ((w5.setCell ⟨O, 0, none⟩ (.slice (some ⟨w5.heap.size, 0, none⟩) 0 0)).alloc (.cells #[] 9)) := by
  have hb1 : Below cf.base w5 (w5.setCell ⟨O, 0, none⟩ (.slice (some ⟨w5.heap.size, 0, none⟩) 0 0)) := (Below.refl _ _).setCell (p := ⟨O, 0, none⟩) hO3 _
  have hz : (w5.setCell ⟨O, 0, none⟩ (.slice (some ⟨w5.heap.size, 0, none⟩) 0 0)).heap.size = w5.heap.size := World.size_setCell _ _ _
  have hlts := hok.lt
  refine ⟨x0, tokv, false, ba, L, own0, .slice (some ⟨w5.heap.size, 0, none⟩) 0 0, [], hok.frame hs (hb1.alloc (by rw [hz]; omega) _) (fun k hk => ?_), by omega, (fun h => by rw [hd] at h; cases h), ((Off.refl _ _).setCell (p := ⟨O, 0, none⟩) (by simp) _).alloc _, Fresh.refl _ _, ⟨?_, ?_⟩, ?_, .nil, by simp, .inr hfl, fun c hc => by rw [h5] at hc; cases hc⟩
  · rw [Below.heap_alloc _ _ _ (by rw [hz]; exact (hlts k hk).2)]
    exact heap_setCell_not (fun e => hO1 (by rw [← e]; exact hk)) _
  · have := World.ownsRow_made (base := w5.heap.size) (e := 9) (size := 1) (w5.setCell ⟨O, 0, none⟩ (.slice (some ⟨w5.heap.size, 0, none⟩) 0 0)) #[] 0 (by rw [hz]; exact Nat.le_refl _) (by decide) rfl
    rw [hz] at this
    exact this
  · intro k hk hm
    simp [Value.ownBlock] at hk
    have := (hlts k hm).2
    omega
  · rw [Below.heap_alloc _ _ _ (by rw [hz]; exact hO2), heap_setCell_at hO]
    rfl
end

theorem run_close {O b : Nat} {W w5 : World} {tv cv : Value} {ts : List (List UInt8)} {cn : Nat} {xs : List Value} {own0 ps : List Nat} {p : Bool} {n : Nat} {cd : Int} (hst : StrsAt b W tv ts) (hb : O < b) (hrow : W.ownsRow base 47 2 cv cn xs) (hne : ∀ k, cv.ownBlock = some k → k ≠ O) (ho : Off (O :: own0) w5 W) (hA : ∀ wr, Off (O :: own0) w5 wr → Off ps w wr) (hbw : w.heap.size ≤ b) :
    StrsAt w.heap.size (closeW O p cv cd n W) tv ts ∧ (closeW O p cv cd n W).ownsRow base 47 2 cv cn xs ∧ Off ps w (closeW O p cv cd n W) := by
  have hk : ∀ k, k ≠ O → (closeW O p cv cd n W).heap[k]? = W.heap[k]? := fun k hk => by
    rw [heap_setCell_not hk]
    show ((W.setCell ⟨O, 4, none⟩ (.bool p)).setCell ⟨O, 1, none⟩ cv).heap[k]? = _
    rw [heap_setCell_not hk, heap_setCell_not hk]
  refine ⟨StrsAt.mono (owns_frame hst fun k hm => hk k (fun e => ?_)) hbw, owns_frame hrow fun k hm => hk k (hne k hm), hA _ ((((ho.setCell (p := ⟨O, 4, none⟩) (by simp) _).setCell (p := ⟨O, 1, none⟩) (by simp) _).drewN n).setCell (p := ⟨O, 2, none⟩) (by simp) _)⟩
  have := (World.ownsRow.lt hst k hm).1
  omega
/-- the result is stored where it lies -/
abbrev set5 (O : Nat) (tv cv : Value) (e : Int) (ended pan : Bool) (W : World) : World := ((((W.setCell ⟨O, 0, none⟩ tv).setCell ⟨O, 1, none⟩ cv).setCell ⟨O, 2, none⟩ (.int .i64 e)).setCell ⟨O, 3, none⟩ (.bool ended)).setCell ⟨O, 4, none⟩ (.bool pan)
theorem by_leave {cf : Cfg} {x' : Sm TS} {tokv' tv : Value} {called ended : Bool} {ba' : Option Addr} {L' O B N lim endE : Nat} {own0 own2 ps : List Nat} {w5 W V : World} {ts : List (List UInt8)} {x0 : Sm TS} (hs : SplitOK cf (TapeSI E base T rs rep) (splitTape rs rep) false fu) (hcB : cf.B = B) (hcE : cf.E = E) (hcb : cf.base = base)
    (hO1 : O ∉ own0) (hO2 : O < w5.heap.size) (hbO : base ≤ O) (hob : OB ≠ O ∧ CB ≠ O) (hw5 : w.heap.size ≤ w5.heap.size) (hA : ∀ wr, Off (O :: own0) w5 wr → Off ps w wr ∧ EnvC base wr E) (hBox : ∀ wr, Off (O :: own0) w5 wr → wr.cell? ⟨OB, 0, none⟩ = some (.pointer (some ⟨B, 0, none⟩)) ∧ wr.cell? ⟨CB, 0, none⟩ = some (.pointer (some ⟨T, 0, none⟩)))
    (hok : SOk cf (TapeSI E base T rs rep) x' tokv' called ba' L' own2 W) (hf2 : Fresh own0 own2 w5) (hga : Gath w5.heap.size own2 W tv ts) (h5 : E5 x') (ho : Off (O :: own0) w5 W) (hO : W.heap[O]? = some (.cells (runCells tv (.slice none 0 0) 0 false false) 61 (0, 0)))
    (hV : (V = W ∧ ended = false) ∨ (V = W.setCell ⟨O, 3, none⟩ (.bool true) ∧ ended = true)) (hr : RunsTo (splitTape rs rep) lim tog endE x0 N ts x' ended false) :
    ∃ ca cn cc, AtDoor O CB OB T B E tv ca cn cc (errOf x'.err) (codeI (errOf x'.err)) ended (set5 O tv (.slice none 0 0) 0 ended false V) ∧
      ∀ n, RunPost base rs rep lim tog endE x0 N ps w (.returned (.agg (runCells tv (.slice ca cn cc) (codeI (errOf x'.err)) ended false))) (closeW O false (.slice ca cn cc) (codeI (errOf x'.err)) n (set5 O tv (.slice none 0 0) 0 ended false V)) := by
  have hOn2 : O ∉ own2 := fun hm => by
    rcases hf2 _ hm with h | h
    · exact hO1 h
    · omega
  have hVk : ∀ k, k ≠ O → V.heap[k]? = W.heap[k]? := fun k hk => by
    rcases hV with ⟨rfl, _⟩ | ⟨rfl, _⟩
    · rfl
    · exact heap_setCell_not hk _
  have hVo : Off (O :: own0) w5 V := by
    rcases hV with ⟨rfl, _⟩ | ⟨rfl, _⟩
    · exact ho
    · exact ho.setCell (p := ⟨O, 3, none⟩) (by simp) _
  have hVb : Below base W V := by
    rcases hV with ⟨rfl, _⟩ | ⟨rfl, _⟩
    · exact Below.refl _ _
    · exact (Below.refl _ _).setCell (p := ⟨O, 3, none⟩) hbO _
  have hVO : V.heap[O]? = some (.cells (runCells tv (.slice none 0 0) 0 ended false) 61 (0, 0)) := by
    rcases hV with ⟨rfl, rfl⟩ | ⟨rfl, rfl⟩
    · exact hO
    · rw [heap_setCell_at hO]; rfl
  have hk : ∀ k, k ≠ O → (set5 O tv (.slice none 0 0) 0 ended false V).heap[k]? = W.heap[k]? := fun k hk => by
    rw [heap_setCell_not hk, heap_setCell_not hk, heap_setCell_not hk, heap_setCell_not hk, heap_setCell_not hk]
    exact hVk k hk
  have ho' : Off (O :: own0) w5 (set5 O tv (.slice none 0 0) 0 ended false V) := ((((hVo.setCell (p := ⟨O, 0, none⟩) (by simp) _).setCell (p := ⟨O, 1, none⟩) (by simp) _).setCell (p := ⟨O, 2, none⟩) (by simp) _).setCell (p := ⟨O, 3, none⟩) (by simp) _).setCell (p := ⟨O, 4, none⟩) (by simp) _
  have hb' : Below base W (set5 O tv (.slice none 0 0) 0 ended false V) := ((((hVb.setCell (p := ⟨O, 0, none⟩) hbO _).setCell (p := ⟨O, 1, none⟩) hbO _).setCell (p := ⟨O, 2, none⟩) hbO _).setCell (p := ⟨O, 3, none⟩) hbO _).setCell (p := ⟨O, 4, none⟩) hbO _
  have hO' : (set5 O tv (.slice none 0 0) 0 ended false V).heap[O]? = some (.cells (runCells tv (.slice none 0 0) 0 ended false) 61 (0, 0)) := by
    have g1 := heap_setCell_at (i := 0) hVO tv
    have g2 := heap_setCell_at (i := 1) g1 (.slice none 0 0)
    have g3 := heap_setCell_at (i := 2) g2 (.int .i64 0)
    have g4 := heap_setCell_at (i := 3) g3 (.bool ended)
    rw [heap_setCell_at g4]
    rfl
  have hok' := hok.frame hs (by rw [hcb]; exact hb') (fun k hm => hk k (fun e => hOn2 (by rw [← e]; exact hm)))
  have hst : StrsAt w5.heap.size (set5 O tv (.slice none 0 0) 0 ended false V) tv ts := owns_frame hga.1 fun k hm => hk k (fun e => by have := (World.ownsRow.lt hga.1 k hm).1; omega)
  obtain ⟨hOB, hCB⟩ := hBox _ ho'
  obtain ⟨ca, cn, cc, hD, hrow, hne⟩ := at_door hs hcB hcE hcb hok' hO' hCB hOB hob.2 hob.1 hOn2 hbO (hA _ ho').2 h5
  refine ⟨ca, cn, cc, hD, fun n => ?_⟩
  obtain ⟨q1, q2, q3⟩ := run_close (p := false) (n := n) (cd := codeI (errOf x'.err)) hst hO2 hrow hne ho' (fun wr h => (hA wr h).1) hw5
  exact ⟨ts, x', ended, false, tv, ca, cn, cc, rfl, hr, q1, q2, q3⟩
set_option maxRecDepth 100000 in
set_option maxHeartbeats 1000000 in
theorem byScript_any (d broken : Bool) (n : Int) (hE : EnvC base w E) (hp : PcsAt base w pa pcs pc pl) (hs : s.size ≤ 140737488355328) (hsz : sizedB d c m = true) (hR : RepsAt w rs rp rl) (hrc : rs.length ≤ rc ∧ rc ≤ 9223372036854775807) (hnd : rl.Nodup) (hrl : ∀ k, k ∈ rl → base ≤ k ∧ k < w.heap.size ∧ k ∉ pl) (hn : n ≤ 1000000) (hn0 : -9223372036854775808 ≤ n)
    (hTx : ∀ (i : Nat) (r : Rep), rs[i]? = some r → r.text.size ≤ 140737488355328) (hfu1 : ∀ x, 0 < fu x → x.calls.length < 1000000000000) (hfu2 : ∀ x d b, (splitTape rs rep x d b).code = 1 ∨ (splitTape rs rep x d b).code = 2 ∨ fu x ≤ fu (splitTape rs rep x d b).sp + 1) (hfu3 : s.size + 1 + n.toNat < fu ⟨0, []⟩) :
    Calls Tryd.prog 30 #[srcV s pa pcs.length pc tog broken, roomV d c m, scrV rp rs.length rc rep, .int .i64 n] w (RunPost base rs rep (limitN d c m) tog (if broken then 5 else 0) (newT s) n.toNat (pl ++ rl) w) := by
  have hmf : ∀ (fn : Fn) (first cap : Array Value) (w : World), (Instr.makeFunc fn first cap).run Tryd.prog w = .ok (.func fn first cap) w := fun _ _ _ _ => rfl
  have hbx : Below w.heap.size w (boxW w s pa pcs.length pc tog broken d c m rp rs.length rc rep) := bel_al (bel_al (bel_al (bel_al (Below.refl _ _) _) _) _) _
  have HBX := Lib.hid hbx
  have hbA := boxW_at w s pa pcs.length pc tog broken d c m rp rs.length rc rep
  have HBA := Lib.hid hbA
  have HR := Lib.hid (fun Q => made_region (base := base) (w := boxW w s pa pcs.length pc tog broken d c m rp rs.length rc rep) (E := E) (s := s) (pa := pa) (pcs := pcs) (pc := pc) (pl := pl) (tog := tog) (c := c) (m := m) (rep := rep) (rp := rp) (rn := rs.length) (rc := rc) (d := d) (broken := broken) (Nat.le_trans hE.e.le hbx.size) (srcV s pa pcs.length pc tog broken) (roomV d c m) (scrV rp rs.length rc rep) (.int .i64 n) w.heap.size (w.heap.size + 1) (w.heap.size + 1 + 1) (w.heap.size + 1 + 1 + 1)
    (cell_of_heap hbA.1) (cell_of_heap hbA.1) (cell_of_heap hbA.1) (cell_of_heap hbA.1) (cell_of_heap hbA.2.1) (cell_of_heap hbA.2.1) (cell_of_heap hbA.2.1) (cell_of_heap hbA.2.2.1) (cell_of_heap hbA.2.2.1) (fun k hk => Nat.lt_of_lt_of_le (hp.hlt k hk).2 hbx.size) (fun W hW => scanner_any (s := s) (tog := tog) d broken (hE.e.later (bel_tr hbx hW)) (pcs_on hp (bel_tr hbx hW)) hs hsz) Q)
  have HSp := Lib.hid (fun OB CB T W0 ba L own wm (hM : Made base (boxW w s pa pcs.length pc tog broken d c m rp rs.length rc rep) E s pl tog c m rep rp rs.length rc d broken OB CB T W0 ba L own wm) => made_split hM (hE.later hbx) (hR.frame fun k hk => hbx.block k (hrl k hk).2.1) hrc hnd (fun k hk => ⟨(hrl k hk).1, Nat.lt_of_lt_of_le (hrl k hk).2.1 hbx.size, (hrl k hk).2.2⟩))
  have HTx := Lib.hid hTx
  have HFu := Lib.hid (And.intro hfu1 (And.intro hfu2 hfu3))
  have HRl := Lib.hid hrl
  have HE := Lib.hid hE
  have HPc := Lib.hid hp.hlt
  clear hbx hE hp hbA hR hnd hrl hTx hfu1 hfu2 hfu3
  obtain ⟨PP, hPP⟩ : ∃ PP, PP = RunPost base rs rep (limitN d c m) tog (if broken then 5 else 0) (newT s) n.toNat (pl ++ rl) w := ⟨_, rfl⟩
  rw [← hPP]
  have HPP := Lib.hid hPP
  clear hPP
  go_enter_defers Tryd.func30, Tryd.ntmps30
  go_wp2_with fail
  refine HR.out _ ?_
  intro v11 v12 v13 v14 v15 v16 OB CB T W0 ba L own wm hM
  have hOB := cell_of_heap (i := 0) hM.hOB.2
  have hCB := cell_of_heap (i := 0) hM.hCB.2
  simp at hOB hCB
  have hok := HSp.out OB CB T W0 ba L own wm hM
  obtain ⟨h9, hfz, h1⟩ := hM.ok.forSplit
  have HSpl := Lib.hid (split_any (W0 + 4) (.func 45) #[.pointer (some ⟨T, 0, none⟩)] #[] wm h9 hfz h1)
  have hwO : w.heap.size + 1 + 1 + 1 < (boxW w s pa pcs.length pc tog broken d c m rp rs.length rc rep).heap.size := by simp
  have hOB4 : w.heap.size + 1 + 1 + 1 ≠ W0 + 4 := fun e => by have := hM.w0; omega
  have hO5 : (splitW wm W0 T).heap[w.heap.size + 1 + 1 + 1]? = some (.cells (runCells (.slice none 0 0) (.slice none 0 0) 0 false false) 61 (0, 0)) := (heap_setCell_not hOB4 _).trans ((hM.bel.block _ hwO).trans HBA.out.2.2.2)
  have HO5 := Lib.hid hO5
  have HM := Lib.hid hM
  have HOK := Lib.hid hok
  clear hM HR HSp hok h9 hfz h1 hOB4
  unfold frB
  go_wp2_with fail
  refine HSpl.out.mono ?_
  obtain ⟨w5', hw5'⟩ : ∃ w5', w5' = splitW wm W0 T := ⟨_, rfl⟩
  rw [← hw5'] at HOK HO5
  have HOff : Hid (Off (own ++ T :: rl) wm w5') := Lib.hid (by rw [hw5']; exact (Off.refl _ _).setCell (p := ⟨W0 + 4, 1, none⟩) (by have := HM.out.ok.memB; exact List.mem_append_left _ this) _)
  rintro e w5 ⟨rfl, hw⟩
  obtain rfl : w5 = w5' := hw.trans hw5'.symm
  clear hw hw5'
  have hlt5 := lt_of_heap HO5.out
  have hO6 : (w5.alloc (.cells #[] 9)).heap[w.heap.size + 1 + 1 + 1]? = _ := (Below.heap_alloc _ _ _ hlt5).trans HO5.out
  have k0 := cell_of_heap (i := 0) hO6
  have kz := frozen_of_heap hO6 0
  simp only [List.getElem?_toArray, List.getElem?_cons_zero] at k0
  have hso : SplitOK (tapeCf E base W0 tog broken d c m T) (TapeSI E base T rs rep) (splitTape rs rep) false fu := tape_ok _ rfl rfl rfl HTx.out HFu.out.1 HFu.out.2.1
  have HSO := Lib.hid hso
  have hbl := HE.out.e.le
  have hbx := HBX.out.size
  have hbx4 : (boxW w s pa pcs.length pc tog broken d c m rp rs.length rc rep).heap.size = w.heap.size + 1 + 1 + 1 + 1 := by simp
  have hown0 : ∀ k, k ∈ own ++ T :: rl → k ∈ pl ++ rl ∨ w.heap.size + 1 + 1 + 1 + 1 ≤ k := fun k hk => by
    rcases List.mem_append.1 hk with h | h
    · rcases HM.out.owns k h with h | h
      · exact .inl (List.mem_append_left _ h)
      · exact .inr (by rw [← hbx4]; exact h)
    · rcases List.mem_cons.1 h with rfl | h
      · exact .inr (by rw [← hbx4]; exact HM.out.hT.1)
      · exact .inl (List.mem_append_right _ h)
  have hps : ∀ k, k ∈ pl ++ rl → base ≤ k ∧ k < w.heap.size := fun k hk => by
    rcases List.mem_append.1 hk with h | h
    · exact HPc.out k h
    · exact ⟨(HRl.out k h).1, (HRl.out k h).2.1⟩
  have hO1 : w.heap.size + 1 + 1 + 1 ∉ own ++ T :: rl := fun hm => by
    rcases hown0 _ hm with h | h
    · have := (hps _ h).2; omega
    · omega
  have hwm := HM.out.bel
  have hoff5 := HOff.out
  have HOffA := Lib.hid (fun (wr : World) (ho : Off ((w.heap.size + 1 + 1 + 1) :: (own ++ T :: rl)) w5 wr) => (show Off (pl ++ rl) w wr ∧ EnvC base wr E from by
    have h1 : Off (pl ++ rl) w wr := by
      have hz1 := HBX.out.size
      have hz2 := hwm.size
      have hz3 := hoff5.size
      have hz4 := ho.size
      refine ⟨ho.os.trans (hoff5.os.trans (hwm.os.trans HBX.out.os)), ho.tape.trans (hoff5.tape.trans (hwm.tape.trans HBX.out.tape)), ho.output.trans (hoff5.output.trans (hwm.output.trans HBX.out.output)), by omega, fun k hk hn => ?_⟩
      have hko : k ∉ own ++ T :: rl := fun hm => by
        rcases hown0 k hm with h | h
        · exact hn h
        · omega
      rw [ho.block k (by omega) (fun hm => by rcases List.mem_cons.1 hm with h | h; omega; exact hko h), hoff5.block k (by omega) hko, hwm.block k (by omega)]
      exact HBX.out.block k hk
    exact ⟨h1, HE.out.below (h1.below hbl (fun k hk => (hps k hk).1))⟩))
  have hob : OB ≠ w.heap.size + 1 + 1 + 1 ∧ CB ≠ w.heap.size + 1 + 1 + 1 := ⟨fun e => by have := HM.out.hOB.1; omega, fun e => by have := HM.out.hCB.1; omega⟩
  have hobo : OB ∉ own ++ T :: rl ∧ CB ∉ own ++ T :: rl := by
    refine ⟨fun hm => ?_, fun hm => ?_⟩
    · rcases List.mem_append.1 hm with h | h
      · exact HM.out.d6 h
      · rcases List.mem_cons.1 h with h | h
        · exact HM.out.e65 h
        · have := (HRl.out _ h).2.1
          have := HM.out.hOB.1
          omega
    · rcases List.mem_append.1 hm with h | h
      · exact HM.out.d7 h
      · rcases List.mem_cons.1 h with h | h
        · exact HM.out.e75 h
        · have := (HRl.out _ h).2.1
          have := HM.out.hCB.1
          omega
  have HBox := Lib.hid (fun (wr : World) (ho : Off ((w.heap.size + 1 + 1 + 1) :: (own ++ T :: rl)) w5 wr) => (show wr.cell? ⟨OB, 0, none⟩ = some (.pointer (some ⟨W0 + 4, 0, none⟩)) ∧ wr.cell? ⟨CB, 0, none⟩ = some (.pointer (some ⟨T, 0, none⟩)) from by
    have l1 := lt_of_heap HM.out.hOB.2
    have l2 := lt_of_heap HM.out.hCB.2
    have hz3 := hoff5.size
    refine ⟨?_, ?_⟩
    · rw [World.cell?_of_block (a := ⟨OB, 0, none⟩) ((ho.block OB (by omega) (fun hm => by rcases List.mem_cons.1 hm with h | h; exact hob.1 h; exact hobo.1 h)).trans (hoff5.block OB l1 hobo.1)), cell_of_heap HM.out.hOB.2]
      rfl
    · rw [World.cell?_of_block (a := ⟨CB, 0, none⟩) ((ho.block CB (by omega) (fun hm => by rcases List.mem_cons.1 hm with h | h; exact hob.2 h; exact hobo.2 h)).trans (hoff5.block CB l2 hobo.2)), cell_of_heap HM.out.hCB.2]
      rfl))
  have HI : ByI (tapeCf E base W0 tog broken d c m T) (TapeSI E base T rs rep) rs rep (newT s) fu n.toNat (w.heap.size + 1 + 1 + 1) (own ++ T :: rl) w5 n.toNat ((w5.setCell ⟨w.heap.size + 1 + 1 + 1, 0, none⟩ (.slice (some ⟨w5.heap.size, 0, none⟩) 0 0)).alloc (.cells #[] 9)) := by
    refine by_start hso hO1 hlt5 (by show base ≤ _; omega) HOK.out rfl rfl HO5.out ?_ rfl
    have := HFu.out.2.2
    simpa [Sm.left] using this
  have HI := Lib.hid HI
  have hw5 : w.heap.size ≤ w5.heap.size := by
    have := HM.out.bel.size
    have := hoff5.size
    omega
  have HK := Lib.hid (And.intro hO1 (And.intro hlt5 (And.intro hob (And.intro hbl hw5))))
  clear hso hO6 hO1 hob hobo hbl hbx hown0 hps hwm hoff5 HOff HOK HE HPc HRl HBX HBA hbx4 HO5 hOB hCB hw5
  generalize hcf : tapeCf E base W0 tog broken d c m T = cf at *
  have hcB : cf.B = W0 + 4 := by rw [← hcf]
  have hcE : cf.E = E := by rw [← hcf]
  have hcb : cf.base = base := by rw [← hcf]
  have hcl : cf.lim = limitN d c m ∧ cf.tog = tog ∧ cf.endE = if broken then 5 else 0 := by rw [← hcf]; exact ⟨rfl, rfl, rfl⟩
  have HCf := Lib.hid (And.intro hcB (And.intro hcE (And.intro hcb hcl)))
  clear hcf hcB hcE hcb hcl
  generalize own ++ T :: rl = own0 at *
  go_wp2_with fail
  go_loopw [3] (fun i wr => ∃ k : Int, i = .int .i64 k ∧ k ≤ 1000000 ∧ -9223372036854775808 ≤ k ∧ ByI cf (TapeSI E base T rs rep) rs rep (newT s) fu n.toNat (w.heap.size + 1 + 1 + 1) own0 w5 k.toNat wr) (fun i _ => (intOf i).toNat)
  case atStart => exact ⟨n, rfl, hn, hn0, HI.out⟩
  case round =>
    obtain ⟨k, rfl, hk1, hk2, x, tokv, called, ba1, L1, own1, tv, ts, h, hemp, hdc, ho, hf, hga, hOc, hsc, hlen, hfl, h5⟩ := hrel
    obtain ⟨hOB, hCB⟩ := HBox.out wr ho
    have HX := Lib.hid (And.intro h (And.intro hemp (And.intro ho (And.intro hf (And.intro hga (And.intro hOc (And.intro hsc (And.intro hlen (And.intro hfl h5)))))))))
    by_cases hk0 : 0 < k
    · have hC := scan_fu HSO.out own1 h hemp hdc (hfl.imp id (fun h => by omega))
      rw [HCf.out.1] at hC
      have HC := Lib.hid hC
      clear h hemp hdc ho hf hga hOc hsc hlen hfl h5 hC HI
      go_wp2_with fail
      refine HC.out.mono ?_
      rintro en w2 ⟨o, x', tokv', ba', L', own2, hfu, hscan, hok, ho1, hf1, hret, hpan⟩
      obtain ⟨h, hemp, ho, hf, hga, hOc, hsc, hlen, hfl, h5⟩ := HX.out
      obtain ⟨hO1, -, hob, hbl, hw5⟩ := HK.out
      have hfr : Fresh ((w.heap.size + 1 + 1 + 1) :: own0) own1 w5 := fun k hk => (hf k hk).imp (fun h => List.mem_cons_of_mem _ h) id
      have hOn1 : w.heap.size + 1 + 1 + 1 ∉ own1 := fun hm => by
        rcases hf _ hm with h | h
        · exact hO1 h
        · omega
      have hf2 : Fresh own0 own2 w5 := hf.trans hf1 ho.size
      have hOn2 : w.heap.size + 1 + 1 + 1 ∉ own2 := fun hm => by
        rcases hf2 _ hm with h | h
        · exact hO1 h
        · omega
      have ho2 := ho.trans ho1 hfr
      have hO2 := (ho1.block _ (lt_of_heap hOc) hOn1).trans hOc
      have h52 : E5 x' := scan_5 (by rw [HCf.out.2.2.2.2.2]; split <;> omega) h5 hscan
      have hga2 := hga.scan ho1 hf1
      have hE2 := (HOffA.out w2 ho2).2
      obtain ⟨hOB2, hCB2⟩ := HBox.out w2 ho2
      clear hOB hCB h ho hf hga hOc hfr hOn1
      cases o with
      | none =>
        obtain ⟨y, rfl⟩ := hpan rfl
        obtain ⟨ca, cn, cc, hD, hrow, hne⟩ := at_door HSO.out HCf.out.1 HCf.out.2.1 HCf.out.2.2.1 hok hO2 hCB2 hOB2 hob.2 hob.1 hOn2 (by omega) hE2 h52
        have HD := Lib.hid hD
        have HQ := Lib.hid (fun n' => (show PP (.returned (.agg (runCells tv (.slice ca cn cc) (codeI (errOf x'.err)) false true))) (closeW (w.heap.size + 1 + 1 + 1) true (.slice ca cn cc) (codeI (errOf x'.err)) n' w2) from by
          obtain ⟨q1, q2, q3⟩ := run_close (p := true) (n := n') (cd := codeI (errOf x'.err)) hga2.1 hlt5 hrow hne ho2 (fun wr h => (HOffA.out wr h).1) hw5
          rw [HPP.out]
          refine ⟨ts, x', false, true, tv, ca, cn, cc, rfl, ⟨x, ?_, .inr (.inr ⟨by omega, ?_, rfl, rfl⟩)⟩, q1, q2, q3⟩
          · rw [← HCf.out.2.2.2.1, ← HCf.out.2.2.2.2.1, ← HCf.out.2.2.2.2.2]; exact hsc
          · rw [← HCf.out.2.2.2.1, ← HCf.out.2.2.2.2.1, ← HCf.out.2.2.2.2.2]; exact hscan))
        clear hD hrow hne hok hO2 hCB2 hOB2 hE2 h52 hscan hsc hlen hfl h5 hga2 ho1 hf1 hret hpan hfu hf2 hOn2 ho2 hob hO1 hemp
        go_wp2_with fail
        exact door_panic HD.out rfl y PP HQ.out
      | some o' =>
        obtain ⟨rfl, htok, -⟩ := hret _ rfl
        cases o' with
        | none =>
          obtain ⟨ta, tn, tc, rfl⟩ : ∃ ta tn tc, tv = .slice ta tn tc := by
            rcases hga2.1.2 with ⟨h9, _⟩ | ⟨g, cap, cur, h9, _⟩
            · exact ⟨_, _, _, h9⟩
            · exact ⟨_, _, _, h9⟩
          have k3 := cell_of_heap (i := 3) hO2
          have kz := frozen_of_heap hO2
          have hO3 := heap_setCell_at (i := 3) hO2 (.bool true)
          have a0 := cell_of_heap (i := 0) hO3
          have a1 := cell_of_heap (i := 1) hO3
          have a2 := cell_of_heap (i := 2) hO3
          have a3 := cell_of_heap (i := 3) hO3
          have a4 := cell_of_heap (i := 4) hO3
          have az := frozen_of_heap hO3
          simp at k3 a0 a1 a2 a3 a4
          have hr : RunsTo (splitTape rs rep) (limitN d c m) tog (if broken then 5 else 0) (newT s) n.toNat ts x' true false := ⟨x, by rw [← HCf.out.2.2.2.1, ← HCf.out.2.2.2.2.1, ← HCf.out.2.2.2.2.2]; exact hsc, .inr (.inl ⟨by omega, by rw [← HCf.out.2.2.2.1, ← HCf.out.2.2.2.2.1, ← HCf.out.2.2.2.2.2]; exact hscan, rfl, rfl⟩)⟩
          obtain ⟨ca, cn, cc, hD, hP⟩ := by_leave (w := w) HSO.out HCf.out.1 HCf.out.2.1 HCf.out.2.2.1 hO1 hlt5 (by omega) hob hw5 HOffA.out HBox.out hok hf2 hga2 h52 ho2 hO2 (.inr ⟨rfl, rfl⟩) hr
          rw [← HPP.out] at hP
          have HD := Lib.hid hD
          have HQ := Lib.hid hP
          clear hok hCB2 hOB2 hE2 h52 hscan hsc hlen hfl h5 hga2 ho1 hf1 hret hpan hfu hf2 hOn2 ho2 hob hO1 hemp htok hO2 hO3 hr hD hP
          go_wp2_with fail
          exact door_ret HD.out rfl PP HQ.out
        | some t =>
          obtain ⟨p, c', rfl, hc1, hc2, hby, -, -⟩ := htok
          have HT := Lib.hid (text_any (W0 + 4) w2.drew p c' t (by have := hok.tok; rw [HCf.out.1] at this; exact this) (hby.drewN 1))
          have k0 := cell_of_heap (i := 0) hO2
          have kz := frozen_of_heap hO2
          simp at k0
          have hlt2 := lt_of_heap hO2
          have hne : ∀ k, tv.ownBlock = some k → k ≠ w.heap.size + 1 + 1 + 1 := fun k hk e => by
            have := (World.ownsRow.lt hga2.1 k hk).1
            omega
          have hz2 := ho2.size
          have HPush := Lib.hid (fun (g cap : Nat) (w3 : World) (hrow : w3.ownsRow w5.heap.size 9 1 (.slice (some ⟨g, 0, none⟩) (ts.length + 1) cap) (ts.length + 1) (ts.map sv ++ [sv t])) (hgrow : (w2.alloc (.cells #[sv t] 9)).grownBy w3 tv.ownBlock) (hat : tv.ownBlock = some g ∨ g = w2.heap.size + 1) =>
            by_push (m' := (k - 1).toNat) (N := n.toNat) (x0 := newT s) HSO.out (by rw [HCf.out.2.2.1]; omega) hO1 hlt5 (by rw [HCf.out.2.2.1]; omega) hok (scan_emp hscan hemp) ho2 hf2 hga2 hO2 (.snoc ts x x' t hsc hscan) (by omega) (by
              rcases hfu with h | h | h
              · rcases hfl with h1 | h1
                · have := (done_scan h1 hscan).1
                  cases this
                · exact .inr (by omega)
              · exact .inl h
              · cases h) h52 hrow hgrow hat)
          have HO3 := Lib.hid (fun (w3 : World) (hgrow : (w2.alloc (.cells #[sv t] 9)).grownBy w3 tv.ownBlock) => (show w3.heap[w.heap.size + 1 + 1 + 1]? = some (.cells (runCells tv (.slice none 0 0) 0 false false) 61 (0, 0)) from by
            rw [hgrow.block _ (by simp; omega) (fun e => hne _ e.symm rfl), Below.heap_alloc _ _ _ hlt2]
            exact hO2))
          have HR := Lib.hid hga2.1
          have HN := Lib.hid (show ts.length + 1 ≤ 8796093022208 by omega)
          obtain ⟨i0, hi, hz0, hz1, hz2'⟩ := info_parts info_str
          clear hok hCB2 hE2 h52 hscan hsc hlen hfl h5 hga2 ho1 hf1 hret hpan hfu hf2 hOn2 ho2 hob hO1 hemp hO2 hby hc1 hc2 hne
          have k0a : (w2.alloc (.cells #[sv t] 9)).cell? ⟨w.heap.size + 1 + 1 + 1, 0, none⟩ = some tv := (World.cell?_of_block (a := ⟨w.heap.size + 1 + 1 + 1, 0, none⟩) (Below.heap_alloc _ _ _ hlt2)).trans k0
          go_wp2_with fail
          refine wp_region_noPanic ?_
          go_region_law (first
            | (refine step_append_lies _ (by rfl) (.tmp 33) (.tmp 36) 30 (by rfl) w5.heap.size 9 i0 (.string ⟨#[]⟩) 1 16 (by kernel_rfl) hi hz0 hz1 hz2' rfl (by decide) tv ts.length (ts.map sv) (by rfl) (World.ownsRow.alloc (w := w2.drew) HR.out _) ⟨w2.heap.size, 0, none⟩ 1 1 [sv t] (by rfl) rfl (cell_one_new _ _ _) (by intro u hu; simp at hu; subst hu; rfl) (by decide) (by have := HN.out; unfold maxLen; omega) (by have := HN.out; omega) (by simp; omega) (w2.heap.size + 1) (by simp) ?_
               intro g cap w3 hrow hgrow hat hglt
               have HI := Lib.hid (HPush.out g cap w3 hrow ⟨hgrow.os, hgrow.tape, hgrow.output, hgrow.size, hgrow.block⟩ hat)
               have h3 := HO3.out w3 ⟨hgrow.os, hgrow.tape, hgrow.output, hgrow.size, hgrow.block⟩
               have k0' := cell_of_heap (i := 0) h3
               have kz' := frozen_of_heap h3
               simp at k0'
               clear hrow hgrow hat hglt h3)
            | (go_simp; go_at_call 48; refine HT.out.mono ?_; rintro e w3 ⟨rfl, rfl⟩))
          all_goals
            refine NoPanic.normal ?_
            go_wp2_with fail
            go_roundw
            case rel => exact ⟨k - 1, rfl, by omega, by omega, HI.out⟩
            case measure => simp [intOf]; omega
    · obtain ⟨hO1, -, hob, hbl, hw5⟩ := HK.out
      obtain ⟨ta, tn, tc, rfl⟩ : ∃ ta tn tc, tv = .slice ta tn tc := by
        rcases hga.1.2 with ⟨h9, _⟩ | ⟨g, cap, cur, h9, _⟩
        · exact ⟨_, _, _, h9⟩
        · exact ⟨_, _, _, h9⟩
      have a0 := cell_of_heap (i := 0) hOc
      have a1 := cell_of_heap (i := 1) hOc
      have a2 := cell_of_heap (i := 2) hOc
      have a3 := cell_of_heap (i := 3) hOc
      have a4 := cell_of_heap (i := 4) hOc
      have az := frozen_of_heap hOc
      simp at a0 a1 a2 a3 a4
      have hr : RunsTo (splitTape rs rep) (limitN d c m) tog (if broken then 5 else 0) (newT s) n.toNat ts x false false := ⟨x, by rw [← HCf.out.2.2.2.1, ← HCf.out.2.2.2.2.1, ← HCf.out.2.2.2.2.2]; exact hsc, .inl ⟨by omega, rfl, rfl, rfl⟩⟩
      obtain ⟨ca, cn, cc, hD, hP⟩ := by_leave (w := w) HSO.out HCf.out.1 HCf.out.2.1 HCf.out.2.2.1 hO1 hlt5 (by omega) hob hw5 HOffA.out HBox.out h hf hga h5 ho hOc (.inl ⟨rfl, rfl⟩) hr
      rw [← HPP.out] at hP
      have HD := Lib.hid hD
      have HQ := Lib.hid hP
      clear h hemp hdc ho hf hga hOc hsc hlen hfl h5 hr hD hP hob hO1 HI
      go_wp2_with fail
      exact door_ret HD.out rfl PP HQ.out
end
end Go.Proofs.YtkclapimgmnldaaDoor
