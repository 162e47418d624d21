/-
  The statement that calls ByScript in three laws, whatever order its operations come in. (Printed by gen_runj.py.)
-/
import Derived.Test.YtkclapimgmnldaaDoorRunJ
import Derived.Test.YtkclapimgmnldaaDoorInv
namespace Go.Proofs.YtkclapimgmnldaaDoor
set_option linter.unusedVariables false
set_option linter.unusedSimpArgs false
set_option maxRecDepth 20000
open Go.RowKit

/-- the replies of a script of one -/
theorem reps_one {w : World} {r : Rep} {k : Nat} {t : TypeId} {fz : Nat × Nat} (h : w.heap[k]? = some (.cells (repV r).toArray t fz)) : RepsAt w [r] (some ⟨k, 0, none⟩) [k] := by
  intro i r' hr
  cases i with
  | zero =>
    simp at hr
    subst hr
    refine ⟨k, 0, rfl, by simp, fun j v hv => ?_⟩
    rw [cell_of_heap h]
    simpa using hv
  | succ i => simp at hr
/-- the region with a number -/
def regOf (id : Nat) : Code → Option Code
  | .region i ops b => if i = id then some (.region i ops b) else none
  | .seq a b => (regOf id a).or (regOf id b)
  | .block _ c => regOf id c
  | .scope c => regOf id c
  | .loop c => regOf id c
  | .cond _ a b => (regOf id a).or (regOf id b)
  | _ => none
noncomputable def regFinalNil : Code := ((Tryd.f9.body.bind (regOf 4)).getD .skip)
noncomputable def regFinal : Code := ((Tryd.f8.body.bind (regOf 4)).getD .skip)
noncomputable def regEmpty : Code := ((Tryd.f7.body.bind (regOf 6)).getD .skip)
section FinalNil
variable {u0 u3 u4 u7 u8 u9 u10 u11 u12 u13 u14 u15 u16 u17 u18 u19 u20 u21 u22 u23 u24 u31 u32 u33 u34 u35 u36 u37 u38 u39 u40 u41 u42 u43 u44 u45 u46 u47 u48 : Value}
variable {w W : World} {E : Nat → Addr} {s : ByteArray} {pa : Option Addr} {pcs : List Int} {pc : Nat} {tog rep : Bool} {n : Int} {BS BX RX : Nat} {r : Rep}
def JFinalNil (u0 u3 u4 u7 u8 u9 u10 u11 u12 u13 u14 u15 u16 u17 u18 u19 u20 u21 u22 u23 u24 u31 u32 u33 u34 u35 u36 u37 u38 u39 u40 u41 u42 u43 u44 u45 u46 u47 u48 : Value) (w W : World) (s : ByteArray) (pa : Option Addr) (pcs : List Int) (pc : Nat) (tog rep : Bool) (n : Int) (BS BX : Nat) (r : Rep) (f : Nat → Bool) (a : Act) (w' : World) : Prop :=
  ∃ vb v0 v1 v2 v3 v4 v5 pa2 pc2 pl2 rp rc rl RB ts x' ended pan tv ca cn cc, a = ⟨#[u0, .int .i64 n, .pointer (some ⟨BS, 0, none⟩), u3, u4, .pointer (some ⟨BX, 0, none⟩), vb, u7, u8, u9, u10, u11, u12, u13, u14, u15, u16, u17, u18, u19, u20, u21, u22, u23, u24, v0, v1, v2, v3, v4, v5, u31, u32, u33, u34, u35, u36, u37, u38, u39, u40, u41, u42, u43, u44, u45, u46, u47, u48], []⟩ ∧ (f 0 = true → v0 = srcL s pa pcs.length pc tog false) ∧ (f 4 = true → v4 = .int .i64 n) ∧ (f 1 = true → f 0 = true) ∧ (f 5 = true → f 1 = true ∧ f 3 = true) ∧ (f 5 = true → (∀ k, k ∈ pl2 → k < w'.heap.size) ∧ ∀ k, k ∈ rl → k < w'.heap.size) ∧ W.heap.size ≤ w'.heap.size ∧ (f 1 = true → ∀ k, k ∈ pl2 → W.heap.size ≤ k) ∧ (f 6 = true → W.heap.size ≤ RB) ∧
    RJ w W s pcs tog false true 0 0 [r] rep n.toNat (f 1) (f 2) (f 3) (f 5) (f 6) (f 7) v1 v2 v3 v5 vb pa2 pc2 pl2 rp rc rl RB ts x' ended pan tv ca cn cc w'
set_option maxRecDepth 100000 in
set_option maxHeartbeats 2000000 in
theorem regionFinalNil (hW : Below w.heap.size w W) (hE : EnvC w.heap.size w E) (hi : Ints w pa pcs pc) (hpn : pcs.length * 8 ≤ 140737488355328) (hn : -9223372036854775808 ≤ n ∧ n ≤ 1000000)
    (hBS : W.heap[BS]? = some (.cells #[.string s, .slice pa pcs.length pc, .bool tog, .bool false] 24 (0, 0))) (hBX : W.heap[BX]? = some (.cells #[.slice (some ⟨RX, 0, none⟩) 1 1, .bool rep] 59 (0, 0))) (hRX : W.heap[RX]? = some (.cells (repV r).toArray 56 (0, 0))) (hRX0 : w.heap.size ≤ RX)
    (hBy : ∀ {w' pa2 pc2 pl2 rp rc rl}, EnvC w.heap.size w' E → PcsAt w.heap.size w' pa2 pcs pc2 pl2 → RepsAt w' [r] rp rl → ([r].length ≤ rc ∧ rc ≤ 9223372036854775807) → rl.Nodup → (∀ k, k ∈ rl → w.heap.size ≤ k ∧ k < w'.heap.size ∧ k ∉ pl2) →
      Calls Tryd.prog 30 #[srcV s pa2 pcs.length pc2 tog false, roomV true 0 0, scrV rp [r].length rc rep, .int .i64 n] w' (RunPost w.heap.size [r] rep (limitN true 0 0) tog (if false then 5 else 0) (newT s) n.toNat (pl2 ++ rl) w'))
    (hroom : ∀ w', Calls Tryd.prog 22 #[] w' fun e w'' => e = .returned (roomV true 0 0) ∧ Below w'.heap.size w' w'')
    (Q : Exit → Act → World → Prop) (hQ : ∀ v0 v1 v2 v3 v4 RB ts x' ended pan tv ca cn cc w', Below w.heap.size w w' → w.heap.size ≤ RB → w'.heap[RB]? = some (.cells (runCells tv (.slice ca cn cc) (codeI (errOf x'.err)) ended pan) 61 (0, 0)) → Ran w [r] rep (limitN true 0 0) tog 0 s n.toNat ts x' ended pan tv ca cn cc w' →
      Q .normal ⟨#[u0, .int .i64 n, .pointer (some ⟨BS, 0, none⟩), u3, u4, .pointer (some ⟨BX, 0, none⟩), (.pointer (some ⟨RB, 0, none⟩)), u7, u8, u9, u10, u11, u12, u13, u14, u15, u16, u17, u18, u19, u20, u21, u22, u23, u24, v0, v1, v2, v3, v4, (.agg (runCells tv (.slice ca cn cc) (codeI (errOf x'.err)) ended pan)), u31, u32, u33, u34, u35, u36, u37, u38, u39, u40, u41, u42, u43, u44, u45, u46, u47, u48], []⟩ w') :
    Code.wp Tryd.prog regFinalNil Q ⟨#[u0, .int .i64 n, .pointer (some ⟨BS, 0, none⟩), u3, u4, .pointer (some ⟨BX, 0, none⟩), undef, u7, u8, u9, u10, u11, u12, u13, u14, u15, u16, u17, u18, u19, u20, u21, u22, u23, u24, undef, undef, undef, undef, undef, undef, u31, u32, u33, u34, u35, u36, u37, u38, u39, u40, u41, u42, u43, u44, u45, u46, u47, u48], []⟩ W := by
  unfold regFinalNil
  show Code.wp Tryd.prog (Code.region 4 _ true) Q _ W
  have k0 : W.cell? ⟨BS, 0, none⟩ = some (.string s) := cell_of_heap hBS
  have k1 : W.cell? ⟨BS, 1, none⟩ = some (.slice pa pcs.length pc) := cell_of_heap hBS
  have k2 : W.cell? ⟨BS, 2, none⟩ = some (.bool tog) := cell_of_heap hBS
  have k3 : W.cell? ⟨BS, 3, none⟩ = some (.bool false) := cell_of_heap hBS
  have k4 : W.cell? ⟨BX, 0, none⟩ = some (.slice (some ⟨RX, 0, none⟩) 1 1) := cell_of_heap hBX
  have k5 : W.cell? ⟨BX, 1, none⟩ = some (.bool rep) := cell_of_heap hBX
  have HRX := Lib.hid (And.intro hRX hRX0)
  have HH := Lib.hid (And.intro hW (And.intro hE (And.intro hi hpn)))
  clear hBS hBX hRX hRX0 hW hE hi hpn
  refine wp_region_inv (by kernel_rfl) (JFinalNil u0 u3 u4 u7 u8 u9 u10 u11 u12 u13 u14 u15 u16 u17 u18 u19 u20 u21 u22 u23 u24 u31 u32 u33 u34 u35 u36 u37 u38 u39 u40 u41 u42 u43 u44 u45 u46 u47 u48 w W s pa pcs pc tog rep n BS BX r) ?_ ?_ ?_
  · refine ⟨undef, undef, undef, undef, undef, undef, undef, none, 0, [], none, 0, [], 0, [], newT s, false, false, .slice none 0 0, none, 0, 0, rfl, by simp, by simp, by simp, by simp, by simp, Nat.le_refl _, by simp, by simp, ?_⟩
    exact ⟨bel_dr HH.out.1, fun _ => bel_dr (Below.refl _ _), by simp, by simp, by simp, by simp, by simp, by simp, by simp, by simp, by simp⟩
  · rintro f a w1 i o ⟨vb, v0, v1, v2, v3, v4, v5, pa2, pc2, pl2, rp, rc, rl, RB, ts, x', ended, pan, tv, ca, cn, cc, rfl, j0, j4, jo1, jo5, jl, jz, jp, jb, h⟩ ho hfi he
    match i, ho, hfi, he with
    | 0, ho, hfi, he =>
      cases ho
      refine wpOp_of rfl rfl ?_
      have hB : f 5 = false := by
        cases hb : f 5 with
        | false => rfl
        | true => have := jo5 hb; simp_all
      have hb := h.pre hB
      have q0 := (hb.cell (World.block_lt_of_cell? W _ k0)).trans k0
      have q1 := (hb.cell (World.block_lt_of_cell? W _ k1)).trans k1
      have q2 := (hb.cell (World.block_lt_of_cell? W _ k2)).trans k2
      have q3 := (hb.cell (World.block_lt_of_cell? W _ k3)).trans k3
      have HN := Lib.hid (show RJ w W s pcs tog false true 0 0 [r] rep n.toNat ((fun k => f k || k == 0) 1) ((fun k => f k || k == 0) 2) ((fun k => f k || k == 0) 3) ((fun k => f k || k == 0) 5) ((fun k => f k || k == 0) 6) ((fun k => f k || k == 0) 7) v1 v2 v3 v5 vb pa2 pc2 pl2 rp rc rl RB ts x' ended pan tv ca cn cc w1 from by simpa using h)
      clear h hQ hBy hfi he hb hB hroom
      go_simp
      exact ⟨_, _, _, _, _, _, _, _, _, _, _, _, _, _, _, _, _, _, _, _, _, _, rfl, fun _ => rfl, fun hf => by first | exact j4 (by simpa using hf) | rfl, fun _ => by simp, fun hf => by simpa using jo5 (by simpa using hf), fun hf => jl (by simpa using hf), jz, fun hf => jp (by simpa using hf), fun hf => jb (by simpa using hf), HN.out⟩
    | 1, ho, hfi, he =>
      cases ho
      refine wpOp_of rfl rfl ?_
      have hf0 := he ⟨0, .data⟩ (by simp) rfl
      obtain rfl := j0 hf0
      have hB : f 5 = false := by
        cases hb : f 5 with
        | false => rfl
        | true => have := jo5 hb; simp_all
      have HC := Lib.hid (toSource_any s pa pcs pc tog false w1 (HH.out.2.2.1.below h.bel) HH.out.2.2.2)
      have HN := Lib.hid (And.intro h hB)
      clear h hQ hBy hfi he hB hroom
      go_simp
      refine HC.out.mono ?_
      rintro e w2 ⟨pa3, pc3, pl3, rfl, hp2, hb2⟩
      have HN2 := HN.out.1.s1 HN.out.2 hp2 hb2
      exact ⟨_, _, _, _, _, _, _, _, _, _, _, _, _, _, _, _, _, _, _, _, _, _, rfl, fun hf => by first | exact j0 (by simpa using hf) | rfl, fun hf => by first | exact j4 (by simpa using hf) | rfl, fun _ => by simpa using hf0, fun hf => by simp [HN.out.2] at hf, fun hf => by simp [HN.out.2] at hf, Nat.le_trans jz hb2.size, fun _ k hk => Nat.le_trans jz (hp2.hlt k hk).1, fun hf => jb (by simpa using hf), by simpa using HN2⟩
    | 2, ho, hfi, he =>
      cases ho
      refine wpOp_of rfl rfl ?_
      have HC := Lib.hid (hroom w1)
      have HN := Lib.hid h
      clear h hQ hBy hfi he hroom
      go_simp
      refine HC.out.mono ?_
      rintro e w2 ⟨rfl, hb2⟩
      have HN2 := HN.out.s2 hb2
      exact ⟨_, _, _, _, _, _, _, _, _, _, _, _, _, _, _, _, _, _, _, _, _, _, rfl, fun hf => by first | exact j0 (by simpa using hf) | rfl, fun hf => by first | exact j4 (by simpa using hf) | rfl, fun hf => by simpa using jo1 (by simpa using hf), fun hf => by simpa using jo5 (by simpa using hf), fun hf => ⟨fun k hk => Nat.lt_of_lt_of_le ((jl (by simpa using hf)).1 k hk) hb2.size, fun k hk => Nat.lt_of_lt_of_le ((jl (by simpa using hf)).2 k hk) hb2.size⟩, Nat.le_trans jz hb2.size, fun hf => jp (by simpa using hf), fun hf => jb (by simpa using hf), by simpa using HN2⟩
    | 3, ho, hfi, he =>
      cases ho
      refine wpOp_of rfl rfl ?_
      have hB : f 5 = false := by
        cases hb : f 5 with
        | false => rfl
        | true => have := jo5 hb; simp_all
      have hb := h.pre hB
      have q4 := (hb.cell (World.block_lt_of_cell? W _ k4)).trans k4
      have q5 := (hb.cell (World.block_lt_of_cell? W _ k5)).trans k5
      have hlt := lt_of_heap HRX.out.1
      have hN := h.s3 (rp1 := some ⟨RX, 0, none⟩) (rc1 := 1) (rl1 := [RX]) hB (Below.refl _ _) ⟨by simp, by omega⟩ (reps_one ((hb.block RX hlt).trans HRX.out.1)) (by simp) (fun k hk => by
          simp at hk; subst hk; have := hb.size; have := HRX.out.2; exact ⟨by omega, by omega⟩) (fun hb1 k hk hm => by
          simp at hk; subst hk
          have := jp hb1 _ hm
          omega) (fun hb6 hm => by
          simp at hm
          have := jb hb6
          omega)
      have HN := Lib.hid (And.intro hN hB)
      clear h hQ hBy hfi he hb hB hroom hN
      go_simp
      exact ⟨_, _, _, _, _, _, _, _, _, _, _, _, _, _, _, _, _, _, _, _, _, _, rfl, fun hf => by first | exact j0 (by simpa using hf) | rfl, fun hf => by first | exact j4 (by simpa using hf) | rfl, fun hf => by simpa using jo1 (by simpa using hf), fun hf => by simp [HN.out.2] at hf, fun hf => by simp [HN.out.2] at hf, jz, fun hf => jp (by simpa using hf), fun hf => jb (by simpa using hf), by simpa using HN.out.1⟩
    | 4, ho, hfi, he =>
      cases ho
      refine wpOp_of rfl rfl ?_
      have HN := Lib.hid h
      clear h hQ hBy hfi he hroom
      go_simp
      exact ⟨_, _, _, _, _, _, _, _, _, _, _, _, _, _, _, _, _, _, _, _, _, _, rfl, fun hf => by first | exact j0 (by simpa using hf) | rfl, fun _ => rfl, fun hf => by simpa using jo1 (by simpa using hf), fun hf => by simpa using jo5 (by simpa using hf), fun hf => jl (by simpa using hf), jz, fun hf => jp (by simpa using hf), fun hf => jb (by simpa using hf), by simpa using HN.out⟩
    | 5, ho, hfi, he =>
      cases ho
      refine wpOp_of rfl rfl ?_
      have hf1 := he ⟨1, .data⟩ (by simp) rfl
      have hf2 := he ⟨2, .data⟩ (by simp) rfl
      have hf3 := he ⟨3, .data⟩ (by simp) rfl
      obtain rfl := j4 (he ⟨4, .data⟩ (by simp) rfl)
      rw [hf1, hf2, hf3, hfi] at h
      obtain ⟨rfl, g1⟩ := h.i1 rfl
      obtain rfl := h.i2 rfl
      obtain ⟨rfl, g2, g3⟩ := h.i3 rfl
      obtain ⟨g4, g5, g6⟩ := g3 rfl
      have HC := Lib.hid (hBy (HH.out.2.1.later h.bel) (g1 rfl) g4 g2 g5 (fun k hk => ⟨(g6 k hk).1, (g6 k hk).2, h.dis rfl rfl k hk⟩))
      have HN := Lib.hid h
      clear h hQ hBy hfi he hroom g1 g2 g3 g4 g5 g6
      go_simp
      refine HC.out.mono ?_
      intro e w2 hpost
      have hzz : w1.heap.size ≤ w2.heap.size := by
        obtain ⟨_, _, _, _, _, _, _, _, _, _, _, _, q4⟩ := hpost
        exact q4.size
      obtain ⟨ts', y, ended', pan', tv', ca', cn', cc', rfl, HN2, hl1, hl2⟩ := HN.out.s5 hpost
      exact ⟨_, _, _, _, _, _, _, _, _, _, _, _, _, _, _, _, _, _, _, _, _, _, rfl, fun hf => by first | exact j0 (by simpa using hf) | rfl, fun hf => by first | exact j4 (by simpa using hf) | rfl, fun hf => by simpa using jo1 (by simpa using hf), fun _ => by simp [hf1, hf3], fun _ => ⟨hl1, hl2⟩, Nat.le_trans jz hzz, fun hf => jp (by simpa using hf), fun hf => jb (by simpa using hf), by simpa [hf1, hf2, hf3] using HN2⟩
    | 6, ho, hfi, he =>
      cases ho
      refine wpOp_of rfl rfl ?_
      have HN := Lib.hid (h.s6 hfi (fun h5 _ => (jl h5).1) (fun h5 _ => (jl h5).2))
      clear h hQ hBy hfi he hroom
      go_simp
      exact ⟨_, _, _, _, _, _, _, _, _, _, _, _, _, _, _, _, _, _, _, _, _, _, rfl, fun hf => by first | exact j0 (by simpa using hf) | rfl, fun hf => by first | exact j4 (by simpa using hf) | rfl, fun hf => by simpa using jo1 (by simpa using hf), fun hf => by simpa using jo5 (by simpa using hf), fun hf => ⟨fun k hk => by have := (jl (by simpa using hf)).1 k hk; simp; omega, fun k hk => by have := (jl (by simpa using hf)).2 k hk; simp; omega⟩, by simp; omega, fun hf => jp (by simpa using hf), fun _ => jz, by simpa using HN.out⟩
    | 7, ho, hfi, he =>
      cases ho
      refine wpOp_of rfl rfl ?_
      have hfA := he ⟨6, .data⟩ (by simp) rfl
      have hfB := he ⟨5, .data⟩ (by simp) rfl
      have h' := h
      rw [hfA, hfB] at h'
      obtain ⟨rfl, -, e3⟩ := h'.i6 rfl
      obtain ⟨rfl, e5⟩ := h'.i5 rfl
      obtain ⟨ta, tn, tc, rfl⟩ : ∃ ta tn tc, tv = .slice ta tn tc := by
        rcases e5.strs.2 with ⟨h9, _⟩ | ⟨g, cap, cur, h9, _⟩
        · exact ⟨_, _, _, h9⟩
        · exact ⟨_, _, _, h9⟩
      rw [hfi] at e3
      have q0 := cell_of_heap (i := 0) e3
      have q1 := cell_of_heap (i := 1) e3
      have q2 := cell_of_heap (i := 2) e3
      have q3 := cell_of_heap (i := 3) e3
      have q4 := cell_of_heap (i := 4) e3
      have qz := frozen_of_heap e3
      simp at q0 q1 q2 q3 q4
      have HN := Lib.hid (h'.s7 hfi)
      clear h h' hQ hBy hfi he hroom e3 e5
      go_simp
      exact ⟨_, _, _, _, _, _, _, _, _, _, _, _, _, _, _, _, _, _, _, _, _, _, rfl, fun hf => by first | exact j0 (by simpa using hf) | rfl, fun hf => by first | exact j4 (by simpa using hf) | rfl, fun hf => by simpa using jo1 (by simpa using hf), fun hf => by simpa using jo5 (by simpa using hf), fun hf => by simpa using jl (by simpa using hf), by simpa using jz, fun hf => jp (by simpa using hf), fun hf => jb (by simpa using hf), by simpa [hfA, hfB] using HN.out⟩
    | k + 8, ho, hfi, he => cases ho
  · rintro f a w1 ⟨vb, v0, v1, v2, v3, v4, v5, pa2, pc2, pl2, rp, rc, rl, RB, ts, x', ended, pan, tv, ca, cn, cc, rfl, j0, j4, jo1, jo5, jl, jz, jp, jb, h⟩ hall
    have f0 : f 0 = true := hall 0 (by decide) _ rfl (fun e he => by simp at he)
    have f3 : f 3 = true := hall 3 (by decide) _ rfl (fun e he => by simp at he)
    have f4 : f 4 = true := hall 4 (by decide) _ rfl (fun e he => by simp at he)
    have f6 : f 6 = true := hall 6 (by decide) _ rfl (fun e he => by simp at he)
    have f1 : f 1 = true := hall 1 (by decide) _ rfl (fun e he hb => by simp at he; rcases he with rfl; assumption)
    have f2 : f 2 = true := hall 2 (by decide) _ rfl (fun e he hb => by simp at he; rcases he with rfl; assumption)
    have f5 : f 5 = true := hall 5 (by decide) _ rfl (fun e he hb => by simp at he; rcases he with rfl | rfl | rfl | rfl | rfl <;> assumption)
    have f7 : f 7 = true := hall 7 (by decide) _ rfl (fun e he hb => by simp at he; rcases he with rfl | rfl | rfl | rfl | rfl | rfl | rfl | rfl | rfl | rfl <;> assumption)
    rw [f1, f2, f3, f5, f6, f7] at h
    obtain ⟨rfl, g2, g3⟩ := h.i6 rfl
    obtain ⟨rfl, g5⟩ := h.i5 rfl
    exact hQ _ _ _ _ _ RB ts x' ended pan tv ca cn cc w1 h.bel g2 g3 g5
end FinalNil
section Final
variable {u0 u1 u4 u5 u6 u9 u10 u11 u12 u13 u14 u15 u16 u17 u18 u19 u20 u21 u22 u23 u24 u25 u26 u27 u35 u36 u37 u38 u39 u40 u41 u42 u43 u44 u45 u46 u47 u48 u49 u50 u51 u52 u53 : Value}
variable {w W : World} {E : Nat → Addr} {s : ByteArray} {pa : Option Addr} {pcs : List Int} {pc : Nat} {tog rep : Bool} {n : Int} {BS BX RX : Nat} {r : Rep}
def JFinal (u0 u1 u4 u5 u6 u9 u10 u11 u12 u13 u14 u15 u16 u17 u18 u19 u20 u21 u22 u23 u24 u25 u26 u27 u35 u36 u37 u38 u39 u40 u41 u42 u43 u44 u45 u46 u47 u48 u49 u50 u51 u52 u53 : Value) (w W : World) (s : ByteArray) (pa : Option Addr) (pcs : List Int) (pc : Nat) (tog rep : Bool) (n : Int) (BS BX : Nat) (r : Rep) (f : Nat → Bool) (a : Act) (w' : World) : Prop :=
  ∃ vb v0 v1 v2 v3 v4 va v5 pa2 pc2 pl2 rp rc rl RB ts x' ended pan tv ca cn cc, a = ⟨#[u0, u1, .int .i64 n, .pointer (some ⟨BS, 0, none⟩), u4, u5, u6, .pointer (some ⟨BX, 0, none⟩), vb, u9, u10, u11, u12, u13, u14, u15, u16, u17, u18, u19, u20, u21, u22, u23, u24, u25, u26, u27, v0, v1, v2, v3, v4, va, v5, u35, u36, u37, u38, u39, u40, u41, u42, u43, u44, u45, u46, u47, u48, u49, u50, u51, u52, u53], []⟩ ∧ (f 0 = true → v0 = srcL s pa pcs.length pc tog false) ∧ (f 4 = true → v4 = .int .i64 n) ∧ (f 5 = true → va = .int .i64 (n + 1)) ∧ (f 1 = true → f 0 = true) ∧ (f 6 = true → f 1 = true ∧ f 3 = true) ∧ (f 6 = true → (∀ k, k ∈ pl2 → k < w'.heap.size) ∧ ∀ k, k ∈ rl → k < w'.heap.size) ∧ W.heap.size ≤ w'.heap.size ∧ (f 1 = true → ∀ k, k ∈ pl2 → W.heap.size ≤ k) ∧ (f 7 = true → W.heap.size ≤ RB) ∧
    RJ w W s pcs tog false true 0 0 [r] rep (n + 1).toNat (f 1) (f 2) (f 3) (f 6) (f 7) (f 8) v1 v2 v3 v5 vb pa2 pc2 pl2 rp rc rl RB ts x' ended pan tv ca cn cc w'
set_option maxRecDepth 100000 in
set_option maxHeartbeats 2000000 in
theorem regionFinal (hW : Below w.heap.size w W) (hE : EnvC w.heap.size w E) (hi : Ints w pa pcs pc) (hpn : pcs.length * 8 ≤ 140737488355328) (hn : -9223372036854775808 ≤ n ∧ n ≤ 1000000)
    (hBS : W.heap[BS]? = some (.cells #[.string s, .slice pa pcs.length pc, .bool tog, .bool false] 24 (0, 0))) (hBX : W.heap[BX]? = some (.cells #[.slice (some ⟨RX, 0, none⟩) 1 1, .bool rep] 59 (0, 0))) (hRX : W.heap[RX]? = some (.cells (repV r).toArray 56 (0, 0))) (hRX0 : w.heap.size ≤ RX)
    (hBy : ∀ {w' pa2 pc2 pl2 rp rc rl}, EnvC w.heap.size w' E → PcsAt w.heap.size w' pa2 pcs pc2 pl2 → RepsAt w' [r] rp rl → ([r].length ≤ rc ∧ rc ≤ 9223372036854775807) → rl.Nodup → (∀ k, k ∈ rl → w.heap.size ≤ k ∧ k < w'.heap.size ∧ k ∉ pl2) →
      Calls Tryd.prog 30 #[srcV s pa2 pcs.length pc2 tog false, roomV true 0 0, scrV rp [r].length rc rep, .int .i64 (n + 1)] w' (RunPost w.heap.size [r] rep (limitN true 0 0) tog (if false then 5 else 0) (newT s) (n + 1).toNat (pl2 ++ rl) w'))
    (hroom : ∀ w', Calls Tryd.prog 22 #[] w' fun e w'' => e = .returned (roomV true 0 0) ∧ Below w'.heap.size w' w'')
    (Q : Exit → Act → World → Prop) (hQ : ∀ v0 v1 v2 v3 v4 va RB ts x' ended pan tv ca cn cc w', Below w.heap.size w w' → w.heap.size ≤ RB → w'.heap[RB]? = some (.cells (runCells tv (.slice ca cn cc) (codeI (errOf x'.err)) ended pan) 61 (0, 0)) → Ran w [r] rep (limitN true 0 0) tog 0 s (n + 1).toNat ts x' ended pan tv ca cn cc w' →
      Q .normal ⟨#[u0, u1, .int .i64 n, .pointer (some ⟨BS, 0, none⟩), u4, u5, u6, .pointer (some ⟨BX, 0, none⟩), (.pointer (some ⟨RB, 0, none⟩)), u9, u10, u11, u12, u13, u14, u15, u16, u17, u18, u19, u20, u21, u22, u23, u24, u25, u26, u27, v0, v1, v2, v3, v4, va, (.agg (runCells tv (.slice ca cn cc) (codeI (errOf x'.err)) ended pan)), u35, u36, u37, u38, u39, u40, u41, u42, u43, u44, u45, u46, u47, u48, u49, u50, u51, u52, u53], []⟩ w') :
    Code.wp Tryd.prog regFinal Q ⟨#[u0, u1, .int .i64 n, .pointer (some ⟨BS, 0, none⟩), u4, u5, u6, .pointer (some ⟨BX, 0, none⟩), undef, u9, u10, u11, u12, u13, u14, u15, u16, u17, u18, u19, u20, u21, u22, u23, u24, u25, u26, u27, undef, undef, undef, undef, undef, undef, undef, u35, u36, u37, u38, u39, u40, u41, u42, u43, u44, u45, u46, u47, u48, u49, u50, u51, u52, u53], []⟩ W := by
  unfold regFinal
  show Code.wp Tryd.prog (Code.region 4 _ true) Q _ W
  have k0 : W.cell? ⟨BS, 0, none⟩ = some (.string s) := cell_of_heap hBS
  have k1 : W.cell? ⟨BS, 1, none⟩ = some (.slice pa pcs.length pc) := cell_of_heap hBS
  have k2 : W.cell? ⟨BS, 2, none⟩ = some (.bool tog) := cell_of_heap hBS
  have k3 : W.cell? ⟨BS, 3, none⟩ = some (.bool false) := cell_of_heap hBS
  have k4 : W.cell? ⟨BX, 0, none⟩ = some (.slice (some ⟨RX, 0, none⟩) 1 1) := cell_of_heap hBX
  have k5 : W.cell? ⟨BX, 1, none⟩ = some (.bool rep) := cell_of_heap hBX
  have HRX := Lib.hid (And.intro hRX hRX0)
  have HH := Lib.hid (And.intro hW (And.intro hE (And.intro hi hpn)))
  clear hBS hBX hRX hRX0 hW hE hi hpn
  refine wp_region_inv (by kernel_rfl) (JFinal u0 u1 u4 u5 u6 u9 u10 u11 u12 u13 u14 u15 u16 u17 u18 u19 u20 u21 u22 u23 u24 u25 u26 u27 u35 u36 u37 u38 u39 u40 u41 u42 u43 u44 u45 u46 u47 u48 u49 u50 u51 u52 u53 w W s pa pcs pc tog rep n BS BX r) ?_ ?_ ?_
  · refine ⟨undef, undef, undef, undef, undef, undef, undef, undef, none, 0, [], none, 0, [], 0, [], newT s, false, false, .slice none 0 0, none, 0, 0, rfl, by simp, by simp, by simp, by simp, by simp, by simp, Nat.le_refl _, by simp, by simp, ?_⟩
    exact ⟨bel_dr HH.out.1, fun _ => bel_dr (Below.refl _ _), by simp, by simp, by simp, by simp, by simp, by simp, by simp, by simp, by simp⟩
  · rintro f a w1 i o ⟨vb, v0, v1, v2, v3, v4, va, v5, pa2, pc2, pl2, rp, rc, rl, RB, ts, x', ended, pan, tv, ca, cn, cc, rfl, j0, j4, ja, jo1, jo5, jl, jz, jp, jb, h⟩ ho hfi he
    match i, ho, hfi, he with
    | 0, ho, hfi, he =>
      cases ho
      refine wpOp_of rfl rfl ?_
      have hB : f 6 = false := by
        cases hb : f 6 with
        | false => rfl
        | true => have := jo5 hb; simp_all
      have hb := h.pre hB
      have q0 := (hb.cell (World.block_lt_of_cell? W _ k0)).trans k0
      have q1 := (hb.cell (World.block_lt_of_cell? W _ k1)).trans k1
      have q2 := (hb.cell (World.block_lt_of_cell? W _ k2)).trans k2
      have q3 := (hb.cell (World.block_lt_of_cell? W _ k3)).trans k3
      have HN := Lib.hid (show RJ w W s pcs tog false true 0 0 [r] rep (n + 1).toNat ((fun k => f k || k == 0) 1) ((fun k => f k || k == 0) 2) ((fun k => f k || k == 0) 3) ((fun k => f k || k == 0) 6) ((fun k => f k || k == 0) 7) ((fun k => f k || k == 0) 8) v1 v2 v3 v5 vb pa2 pc2 pl2 rp rc rl RB ts x' ended pan tv ca cn cc w1 from by simpa using h)
      clear h hQ hBy hfi he hb hB hroom
      go_simp
      exact ⟨_, _, _, _, _, _, _, _, _, _, _, _, _, _, _, _, _, _, _, _, _, _, _, rfl, fun _ => rfl, fun hf => by first | exact j4 (by simpa using hf) | rfl, fun hf => by first | exact ja (by simpa using hf) | rfl, fun _ => by simp, fun hf => by simpa using jo5 (by simpa using hf), fun hf => jl (by simpa using hf), jz, fun hf => jp (by simpa using hf), fun hf => jb (by simpa using hf), HN.out⟩
    | 1, ho, hfi, he =>
      cases ho
      refine wpOp_of rfl rfl ?_
      have hf0 := he ⟨0, .data⟩ (by simp) rfl
      obtain rfl := j0 hf0
      have hB : f 6 = false := by
        cases hb : f 6 with
        | false => rfl
        | true => have := jo5 hb; simp_all
      have HC := Lib.hid (toSource_any s pa pcs pc tog false w1 (HH.out.2.2.1.below h.bel) HH.out.2.2.2)
      have HN := Lib.hid (And.intro h hB)
      clear h hQ hBy hfi he hB hroom
      go_simp
      refine HC.out.mono ?_
      rintro e w2 ⟨pa3, pc3, pl3, rfl, hp2, hb2⟩
      have HN2 := HN.out.1.s1 HN.out.2 hp2 hb2
      exact ⟨_, _, _, _, _, _, _, _, _, _, _, _, _, _, _, _, _, _, _, _, _, _, _, rfl, fun hf => by first | exact j0 (by simpa using hf) | rfl, fun hf => by first | exact j4 (by simpa using hf) | rfl, fun hf => by first | exact ja (by simpa using hf) | rfl, fun _ => by simpa using hf0, fun hf => by simp [HN.out.2] at hf, fun hf => by simp [HN.out.2] at hf, Nat.le_trans jz hb2.size, fun _ k hk => Nat.le_trans jz (hp2.hlt k hk).1, fun hf => jb (by simpa using hf), by simpa using HN2⟩
    | 2, ho, hfi, he =>
      cases ho
      refine wpOp_of rfl rfl ?_
      have HC := Lib.hid (hroom w1)
      have HN := Lib.hid h
      clear h hQ hBy hfi he hroom
      go_simp
      refine HC.out.mono ?_
      rintro e w2 ⟨rfl, hb2⟩
      have HN2 := HN.out.s2 hb2
      exact ⟨_, _, _, _, _, _, _, _, _, _, _, _, _, _, _, _, _, _, _, _, _, _, _, rfl, fun hf => by first | exact j0 (by simpa using hf) | rfl, fun hf => by first | exact j4 (by simpa using hf) | rfl, fun hf => by first | exact ja (by simpa using hf) | rfl, fun hf => by simpa using jo1 (by simpa using hf), fun hf => by simpa using jo5 (by simpa using hf), fun hf => ⟨fun k hk => Nat.lt_of_lt_of_le ((jl (by simpa using hf)).1 k hk) hb2.size, fun k hk => Nat.lt_of_lt_of_le ((jl (by simpa using hf)).2 k hk) hb2.size⟩, Nat.le_trans jz hb2.size, fun hf => jp (by simpa using hf), fun hf => jb (by simpa using hf), by simpa using HN2⟩
    | 3, ho, hfi, he =>
      cases ho
      refine wpOp_of rfl rfl ?_
      have hB : f 6 = false := by
        cases hb : f 6 with
        | false => rfl
        | true => have := jo5 hb; simp_all
      have hb := h.pre hB
      have q4 := (hb.cell (World.block_lt_of_cell? W _ k4)).trans k4
      have q5 := (hb.cell (World.block_lt_of_cell? W _ k5)).trans k5
      have hlt := lt_of_heap HRX.out.1
      have hN := h.s3 (rp1 := some ⟨RX, 0, none⟩) (rc1 := 1) (rl1 := [RX]) hB (Below.refl _ _) ⟨by simp, by omega⟩ (reps_one ((hb.block RX hlt).trans HRX.out.1)) (by simp) (fun k hk => by
          simp at hk; subst hk; have := hb.size; have := HRX.out.2; exact ⟨by omega, by omega⟩) (fun hb1 k hk hm => by
          simp at hk; subst hk
          have := jp hb1 _ hm
          omega) (fun hb6 hm => by
          simp at hm
          have := jb hb6
          omega)
      have HN := Lib.hid (And.intro hN hB)
      clear h hQ hBy hfi he hb hB hroom hN
      go_simp
      exact ⟨_, _, _, _, _, _, _, _, _, _, _, _, _, _, _, _, _, _, _, _, _, _, _, rfl, fun hf => by first | exact j0 (by simpa using hf) | rfl, fun hf => by first | exact j4 (by simpa using hf) | rfl, fun hf => by first | exact ja (by simpa using hf) | rfl, fun hf => by simpa using jo1 (by simpa using hf), fun hf => by simp [HN.out.2] at hf, fun hf => by simp [HN.out.2] at hf, jz, fun hf => jp (by simpa using hf), fun hf => jb (by simpa using hf), by simpa using HN.out.1⟩
    | 4, ho, hfi, he =>
      cases ho
      refine wpOp_of rfl rfl ?_
      have HN := Lib.hid h
      clear h hQ hBy hfi he hroom
      go_simp
      exact ⟨_, _, _, _, _, _, _, _, _, _, _, _, _, _, _, _, _, _, _, _, _, _, _, rfl, fun hf => by first | exact j0 (by simpa using hf) | rfl, fun _ => rfl, fun hf => by first | exact ja (by simpa using hf) | rfl, fun hf => by simpa using jo1 (by simpa using hf), fun hf => by simpa using jo5 (by simpa using hf), fun hf => jl (by simpa using hf), jz, fun hf => jp (by simpa using hf), fun hf => jb (by simpa using hf), by simpa using HN.out⟩
    | 5, ho, hfi, he =>
      cases ho
      refine wpOp_of rfl rfl ?_
      obtain rfl := j4 (he ⟨4, .data⟩ (by simp) rfl)
      have HN := Lib.hid h
      have hn1 := hn.1
      have hn2 := hn.2
      clear h hQ hBy hfi he hroom
      go_simp
      exact ⟨_, _, _, _, _, _, _, _, _, _, _, _, _, _, _, _, _, _, _, _, _, _, _, rfl, fun hf => by first | exact j0 (by simpa using hf) | rfl, fun hf => by first | exact j4 (by simpa using hf) | rfl, fun _ => by rw [show IntKind.i64.wrap (n + 1) = n + 1 by rw [IntKind.wrap_i64]; omega], fun hf => by simpa using jo1 (by simpa using hf), fun hf => by simpa using jo5 (by simpa using hf), fun hf => jl (by simpa using hf), jz, fun hf => jp (by simpa using hf), fun hf => jb (by simpa using hf), by simpa using HN.out⟩
    | 6, ho, hfi, he =>
      cases ho
      refine wpOp_of rfl rfl ?_
      have hf1 := he ⟨1, .data⟩ (by simp) rfl
      have hf2 := he ⟨2, .data⟩ (by simp) rfl
      have hf3 := he ⟨3, .data⟩ (by simp) rfl
      obtain rfl := ja (he ⟨5, .data⟩ (by simp) rfl)
      rw [hf1, hf2, hf3, hfi] at h
      obtain ⟨rfl, g1⟩ := h.i1 rfl
      obtain rfl := h.i2 rfl
      obtain ⟨rfl, g2, g3⟩ := h.i3 rfl
      obtain ⟨g4, g5, g6⟩ := g3 rfl
      have HC := Lib.hid (hBy (HH.out.2.1.later h.bel) (g1 rfl) g4 g2 g5 (fun k hk => ⟨(g6 k hk).1, (g6 k hk).2, h.dis rfl rfl k hk⟩))
      have HN := Lib.hid h
      clear h hQ hBy hfi he hroom g1 g2 g3 g4 g5 g6
      go_simp
      refine HC.out.mono ?_
      intro e w2 hpost
      have hzz : w1.heap.size ≤ w2.heap.size := by
        obtain ⟨_, _, _, _, _, _, _, _, _, _, _, _, q4⟩ := hpost
        exact q4.size
      obtain ⟨ts', y, ended', pan', tv', ca', cn', cc', rfl, HN2, hl1, hl2⟩ := HN.out.s5 hpost
      exact ⟨_, _, _, _, _, _, _, _, _, _, _, _, _, _, _, _, _, _, _, _, _, _, _, rfl, fun hf => by first | exact j0 (by simpa using hf) | rfl, fun hf => by first | exact j4 (by simpa using hf) | rfl, fun hf => by first | exact ja (by simpa using hf) | rfl, fun hf => by simpa using jo1 (by simpa using hf), fun _ => by simp [hf1, hf3], fun _ => ⟨hl1, hl2⟩, Nat.le_trans jz hzz, fun hf => jp (by simpa using hf), fun hf => jb (by simpa using hf), by simpa [hf1, hf2, hf3] using HN2⟩
    | 7, ho, hfi, he =>
      cases ho
      refine wpOp_of rfl rfl ?_
      have HN := Lib.hid (h.s6 hfi (fun h5 _ => (jl h5).1) (fun h5 _ => (jl h5).2))
      clear h hQ hBy hfi he hroom
      go_simp
      exact ⟨_, _, _, _, _, _, _, _, _, _, _, _, _, _, _, _, _, _, _, _, _, _, _, rfl, fun hf => by first | exact j0 (by simpa using hf) | rfl, fun hf => by first | exact j4 (by simpa using hf) | rfl, fun hf => by first | exact ja (by simpa using hf) | rfl, fun hf => by simpa using jo1 (by simpa using hf), fun hf => by simpa using jo5 (by simpa using hf), fun hf => ⟨fun k hk => by have := (jl (by simpa using hf)).1 k hk; simp; omega, fun k hk => by have := (jl (by simpa using hf)).2 k hk; simp; omega⟩, by simp; omega, fun hf => jp (by simpa using hf), fun _ => jz, by simpa using HN.out⟩
    | 8, ho, hfi, he =>
      cases ho
      refine wpOp_of rfl rfl ?_
      have hfA := he ⟨7, .data⟩ (by simp) rfl
      have hfB := he ⟨6, .data⟩ (by simp) rfl
      have h' := h
      rw [hfA, hfB] at h'
      obtain ⟨rfl, -, e3⟩ := h'.i6 rfl
      obtain ⟨rfl, e5⟩ := h'.i5 rfl
      obtain ⟨ta, tn, tc, rfl⟩ : ∃ ta tn tc, tv = .slice ta tn tc := by
        rcases e5.strs.2 with ⟨h9, _⟩ | ⟨g, cap, cur, h9, _⟩
        · exact ⟨_, _, _, h9⟩
        · exact ⟨_, _, _, h9⟩
      rw [hfi] at e3
      have q0 := cell_of_heap (i := 0) e3
      have q1 := cell_of_heap (i := 1) e3
      have q2 := cell_of_heap (i := 2) e3
      have q3 := cell_of_heap (i := 3) e3
      have q4 := cell_of_heap (i := 4) e3
      have qz := frozen_of_heap e3
      simp at q0 q1 q2 q3 q4
      have HN := Lib.hid (h'.s7 hfi)
      clear h h' hQ hBy hfi he hroom e3 e5
      go_simp
      exact ⟨_, _, _, _, _, _, _, _, _, _, _, _, _, _, _, _, _, _, _, _, _, _, _, rfl, fun hf => by first | exact j0 (by simpa using hf) | rfl, fun hf => by first | exact j4 (by simpa using hf) | rfl, fun hf => by first | exact ja (by simpa using hf) | rfl, fun hf => by simpa using jo1 (by simpa using hf), fun hf => by simpa using jo5 (by simpa using hf), fun hf => by simpa using jl (by simpa using hf), by simpa using jz, fun hf => jp (by simpa using hf), fun hf => jb (by simpa using hf), by simpa [hfA, hfB] using HN.out⟩
    | k + 9, ho, hfi, he => cases ho
  · rintro f a w1 ⟨vb, v0, v1, v2, v3, v4, va, v5, pa2, pc2, pl2, rp, rc, rl, RB, ts, x', ended, pan, tv, ca, cn, cc, rfl, j0, j4, ja, jo1, jo5, jl, jz, jp, jb, h⟩ hall
    have f0 : f 0 = true := hall 0 (by decide) _ rfl (fun e he => by simp at he)
    have f3 : f 3 = true := hall 3 (by decide) _ rfl (fun e he => by simp at he)
    have f4 : f 4 = true := hall 4 (by decide) _ rfl (fun e he => by simp at he)
    have f7 : f 7 = true := hall 7 (by decide) _ rfl (fun e he => by simp at he)
    have f1 : f 1 = true := hall 1 (by decide) _ rfl (fun e he hb => by simp at he; rcases he with rfl; assumption)
    have f2 : f 2 = true := hall 2 (by decide) _ rfl (fun e he hb => by simp at he; rcases he with rfl; assumption)
    have f5 : f 5 = true := hall 5 (by decide) _ rfl (fun e he hb => by simp at he; rcases he with rfl; assumption)
    have f6 : f 6 = true := hall 6 (by decide) _ rfl (fun e he hb => by simp at he; rcases he with rfl | rfl | rfl | rfl | rfl <;> assumption)
    have f8 : f 8 = true := hall 8 (by decide) _ rfl (fun e he hb => by simp at he; rcases he with rfl | rfl | rfl | rfl | rfl | rfl | rfl | rfl | rfl | rfl | rfl <;> assumption)
    rw [f1, f2, f3, f6, f7, f8] at h
    obtain ⟨rfl, g2, g3⟩ := h.i6 rfl
    obtain ⟨rfl, g5⟩ := h.i5 rfl
    exact hQ _ _ _ _ _ _ RB ts x' ended pan tv ca cn cc w1 h.bel g2 g3 g5
end Final
section Empty
variable {u0 u3 u4 u7 u8 u9 u10 u11 u12 u13 u14 u15 u16 u17 u24 u25 u26 u27 u28 u29 u30 u31 u32 u33 u34 u35 u36 u37 : Value}
variable {w W : World} {E : Nat → Addr} {s : ByteArray} {pa : Option Addr} {pcs : List Int} {pc : Nat} {tog rep : Bool} {n : Int} {BS BX RX : Nat} {r : Rep}
def JEmpty (u0 u3 u4 u7 u8 u9 u10 u11 u12 u13 u14 u15 u16 u17 u24 u25 u26 u27 u28 u29 u30 u31 u32 u33 u34 u35 u36 u37 : Value) (w W : World) (s : ByteArray) (pa : Option Addr) (pcs : List Int) (pc : Nat) (tog rep : Bool) (n : Int) (BS BX : Nat) (r : Rep) (f : Nat → Bool) (a : Act) (w' : World) : Prop :=
  ∃ vb v0 v1 v2 v3 v4 v5 pa2 pc2 pl2 rp rc rl RB ts x' ended pan tv ca cn cc, a = ⟨#[u0, .int .i64 n, .pointer (some ⟨BS, 0, none⟩), u3, u4, .pointer (some ⟨BX, 0, none⟩), vb, u7, u8, u9, u10, u11, u12, u13, u14, u15, u16, u17, v0, v1, v2, v3, v4, v5, u24, u25, u26, u27, u28, u29, u30, u31, u32, u33, u34, u35, u36, u37], []⟩ ∧ (f 0 = true → v0 = srcL s pa pcs.length pc tog false) ∧ (f 4 = true → v4 = .int .i64 n) ∧ (f 1 = true → f 0 = true) ∧ (f 5 = true → f 1 = true ∧ f 3 = true) ∧ (f 5 = true → (∀ k, k ∈ pl2 → k < w'.heap.size) ∧ ∀ k, k ∈ rl → k < w'.heap.size) ∧ W.heap.size ≤ w'.heap.size ∧ (f 1 = true → ∀ k, k ∈ pl2 → W.heap.size ≤ k) ∧ (f 6 = true → W.heap.size ≤ RB) ∧
    RJ w W s pcs tog false true 0 0 [r] rep n.toNat (f 1) (f 2) (f 3) (f 5) (f 6) (f 7) v1 v2 v3 v5 vb pa2 pc2 pl2 rp rc rl RB ts x' ended pan tv ca cn cc w'
set_option maxRecDepth 100000 in
set_option maxHeartbeats 2000000 in
theorem regionEmpty (hW : Below w.heap.size w W) (hE : EnvC w.heap.size w E) (hi : Ints w pa pcs pc) (hpn : pcs.length * 8 ≤ 140737488355328) (hn : -9223372036854775808 ≤ n ∧ n ≤ 1000000)
    (hBS : W.heap[BS]? = some (.cells #[.string s, .slice pa pcs.length pc, .bool tog, .bool false] 24 (0, 0))) (hBX : W.heap[BX]? = some (.cells #[.slice (some ⟨RX, 0, none⟩) 1 1, .bool rep] 59 (0, 0))) (hRX : W.heap[RX]? = some (.cells (repV r).toArray 56 (0, 0))) (hRX0 : w.heap.size ≤ RX)
    (hBy : ∀ {w' pa2 pc2 pl2 rp rc rl}, EnvC w.heap.size w' E → PcsAt w.heap.size w' pa2 pcs pc2 pl2 → RepsAt w' [r] rp rl → ([r].length ≤ rc ∧ rc ≤ 9223372036854775807) → rl.Nodup → (∀ k, k ∈ rl → w.heap.size ≤ k ∧ k < w'.heap.size ∧ k ∉ pl2) →
      Calls Tryd.prog 30 #[srcV s pa2 pcs.length pc2 tog false, roomV true 0 0, scrV rp [r].length rc rep, .int .i64 n] w' (RunPost w.heap.size [r] rep (limitN true 0 0) tog (if false then 5 else 0) (newT s) n.toNat (pl2 ++ rl) w'))
    (hroom : ∀ w', Calls Tryd.prog 22 #[] w' fun e w'' => e = .returned (roomV true 0 0) ∧ Below w'.heap.size w' w'')
    (Q : Exit → Act → World → Prop) (hQ : ∀ v0 v1 v2 v3 v4 RB ts x' ended pan tv ca cn cc w', Below w.heap.size w w' → w.heap.size ≤ RB → w'.heap[RB]? = some (.cells (runCells tv (.slice ca cn cc) (codeI (errOf x'.err)) ended pan) 61 (0, 0)) → Ran w [r] rep (limitN true 0 0) tog 0 s n.toNat ts x' ended pan tv ca cn cc w' →
      Q .normal ⟨#[u0, .int .i64 n, .pointer (some ⟨BS, 0, none⟩), u3, u4, .pointer (some ⟨BX, 0, none⟩), (.pointer (some ⟨RB, 0, none⟩)), u7, u8, u9, u10, u11, u12, u13, u14, u15, u16, u17, v0, v1, v2, v3, v4, (.agg (runCells tv (.slice ca cn cc) (codeI (errOf x'.err)) ended pan)), u24, u25, u26, u27, u28, u29, u30, u31, u32, u33, u34, u35, u36, u37], []⟩ w') :
    Code.wp Tryd.prog regEmpty Q ⟨#[u0, .int .i64 n, .pointer (some ⟨BS, 0, none⟩), u3, u4, .pointer (some ⟨BX, 0, none⟩), undef, u7, u8, u9, u10, u11, u12, u13, u14, u15, u16, u17, undef, undef, undef, undef, undef, undef, u24, u25, u26, u27, u28, u29, u30, u31, u32, u33, u34, u35, u36, u37], []⟩ W := by
  unfold regEmpty
  show Code.wp Tryd.prog (Code.region 6 _ true) Q _ W
  have k0 : W.cell? ⟨BS, 0, none⟩ = some (.string s) := cell_of_heap hBS
  have k1 : W.cell? ⟨BS, 1, none⟩ = some (.slice pa pcs.length pc) := cell_of_heap hBS
  have k2 : W.cell? ⟨BS, 2, none⟩ = some (.bool tog) := cell_of_heap hBS
  have k3 : W.cell? ⟨BS, 3, none⟩ = some (.bool false) := cell_of_heap hBS
  have k4 : W.cell? ⟨BX, 0, none⟩ = some (.slice (some ⟨RX, 0, none⟩) 1 1) := cell_of_heap hBX
  have k5 : W.cell? ⟨BX, 1, none⟩ = some (.bool rep) := cell_of_heap hBX
  have HRX := Lib.hid (And.intro hRX hRX0)
  have HH := Lib.hid (And.intro hW (And.intro hE (And.intro hi hpn)))
  clear hBS hBX hRX hRX0 hW hE hi hpn
  refine wp_region_inv (by kernel_rfl) (JEmpty u0 u3 u4 u7 u8 u9 u10 u11 u12 u13 u14 u15 u16 u17 u24 u25 u26 u27 u28 u29 u30 u31 u32 u33 u34 u35 u36 u37 w W s pa pcs pc tog rep n BS BX r) ?_ ?_ ?_
  · refine ⟨undef, undef, undef, undef, undef, undef, undef, none, 0, [], none, 0, [], 0, [], newT s, false, false, .slice none 0 0, none, 0, 0, rfl, by simp, by simp, by simp, by simp, by simp, Nat.le_refl _, by simp, by simp, ?_⟩
    exact ⟨bel_dr HH.out.1, fun _ => bel_dr (Below.refl _ _), by simp, by simp, by simp, by simp, by simp, by simp, by simp, by simp, by simp⟩
  · rintro f a w1 i o ⟨vb, v0, v1, v2, v3, v4, v5, pa2, pc2, pl2, rp, rc, rl, RB, ts, x', ended, pan, tv, ca, cn, cc, rfl, j0, j4, jo1, jo5, jl, jz, jp, jb, h⟩ ho hfi he
    match i, ho, hfi, he with
    | 0, ho, hfi, he =>
      cases ho
      refine wpOp_of rfl rfl ?_
      have hB : f 5 = false := by
        cases hb : f 5 with
        | false => rfl
        | true => have := jo5 hb; simp_all
      have hb := h.pre hB
      have q0 := (hb.cell (World.block_lt_of_cell? W _ k0)).trans k0
      have q1 := (hb.cell (World.block_lt_of_cell? W _ k1)).trans k1
      have q2 := (hb.cell (World.block_lt_of_cell? W _ k2)).trans k2
      have q3 := (hb.cell (World.block_lt_of_cell? W _ k3)).trans k3
      have HN := Lib.hid (show RJ w W s pcs tog false true 0 0 [r] rep n.toNat ((fun k => f k || k == 0) 1) ((fun k => f k || k == 0) 2) ((fun k => f k || k == 0) 3) ((fun k => f k || k == 0) 5) ((fun k => f k || k == 0) 6) ((fun k => f k || k == 0) 7) v1 v2 v3 v5 vb pa2 pc2 pl2 rp rc rl RB ts x' ended pan tv ca cn cc w1 from by simpa using h)
      clear h hQ hBy hfi he hb hB hroom
      go_simp
      exact ⟨_, _, _, _, _, _, _, _, _, _, _, _, _, _, _, _, _, _, _, _, _, _, rfl, fun _ => rfl, fun hf => by first | exact j4 (by simpa using hf) | rfl, fun _ => by simp, fun hf => by simpa using jo5 (by simpa using hf), fun hf => jl (by simpa using hf), jz, fun hf => jp (by simpa using hf), fun hf => jb (by simpa using hf), HN.out⟩
    | 1, ho, hfi, he =>
      cases ho
      refine wpOp_of rfl rfl ?_
      have hf0 := he ⟨0, .data⟩ (by simp) rfl
      obtain rfl := j0 hf0
      have hB : f 5 = false := by
        cases hb : f 5 with
        | false => rfl
        | true => have := jo5 hb; simp_all
      have HC := Lib.hid (toSource_any s pa pcs pc tog false w1 (HH.out.2.2.1.below h.bel) HH.out.2.2.2)
      have HN := Lib.hid (And.intro h hB)
      clear h hQ hBy hfi he hB hroom
      go_simp
      refine HC.out.mono ?_
      rintro e w2 ⟨pa3, pc3, pl3, rfl, hp2, hb2⟩
      have HN2 := HN.out.1.s1 HN.out.2 hp2 hb2
      exact ⟨_, _, _, _, _, _, _, _, _, _, _, _, _, _, _, _, _, _, _, _, _, _, rfl, fun hf => by first | exact j0 (by simpa using hf) | rfl, fun hf => by first | exact j4 (by simpa using hf) | rfl, fun _ => by simpa using hf0, fun hf => by simp [HN.out.2] at hf, fun hf => by simp [HN.out.2] at hf, Nat.le_trans jz hb2.size, fun _ k hk => Nat.le_trans jz (hp2.hlt k hk).1, fun hf => jb (by simpa using hf), by simpa using HN2⟩
    | 2, ho, hfi, he =>
      cases ho
      refine wpOp_of rfl rfl ?_
      have HC := Lib.hid (hroom w1)
      have HN := Lib.hid h
      clear h hQ hBy hfi he hroom
      go_simp
      refine HC.out.mono ?_
      rintro e w2 ⟨rfl, hb2⟩
      have HN2 := HN.out.s2 hb2
      exact ⟨_, _, _, _, _, _, _, _, _, _, _, _, _, _, _, _, _, _, _, _, _, _, rfl, fun hf => by first | exact j0 (by simpa using hf) | rfl, fun hf => by first | exact j4 (by simpa using hf) | rfl, fun hf => by simpa using jo1 (by simpa using hf), fun hf => by simpa using jo5 (by simpa using hf), fun hf => ⟨fun k hk => Nat.lt_of_lt_of_le ((jl (by simpa using hf)).1 k hk) hb2.size, fun k hk => Nat.lt_of_lt_of_le ((jl (by simpa using hf)).2 k hk) hb2.size⟩, Nat.le_trans jz hb2.size, fun hf => jp (by simpa using hf), fun hf => jb (by simpa using hf), by simpa using HN2⟩
    | 3, ho, hfi, he =>
      cases ho
      refine wpOp_of rfl rfl ?_
      have hB : f 5 = false := by
        cases hb : f 5 with
        | false => rfl
        | true => have := jo5 hb; simp_all
      have hb := h.pre hB
      have q4 := (hb.cell (World.block_lt_of_cell? W _ k4)).trans k4
      have q5 := (hb.cell (World.block_lt_of_cell? W _ k5)).trans k5
      have hlt := lt_of_heap HRX.out.1
      have hN := h.s3 (rp1 := some ⟨RX, 0, none⟩) (rc1 := 1) (rl1 := [RX]) hB (Below.refl _ _) ⟨by simp, by omega⟩ (reps_one ((hb.block RX hlt).trans HRX.out.1)) (by simp) (fun k hk => by
          simp at hk; subst hk; have := hb.size; have := HRX.out.2; exact ⟨by omega, by omega⟩) (fun hb1 k hk hm => by
          simp at hk; subst hk
          have := jp hb1 _ hm
          omega) (fun hb6 hm => by
          simp at hm
          have := jb hb6
          omega)
      have HN := Lib.hid (And.intro hN hB)
      clear h hQ hBy hfi he hb hB hroom hN
      go_simp
      exact ⟨_, _, _, _, _, _, _, _, _, _, _, _, _, _, _, _, _, _, _, _, _, _, rfl, fun hf => by first | exact j0 (by simpa using hf) | rfl, fun hf => by first | exact j4 (by simpa using hf) | rfl, fun hf => by simpa using jo1 (by simpa using hf), fun hf => by simp [HN.out.2] at hf, fun hf => by simp [HN.out.2] at hf, jz, fun hf => jp (by simpa using hf), fun hf => jb (by simpa using hf), by simpa using HN.out.1⟩
    | 4, ho, hfi, he =>
      cases ho
      refine wpOp_of rfl rfl ?_
      have HN := Lib.hid h
      clear h hQ hBy hfi he hroom
      go_simp
      exact ⟨_, _, _, _, _, _, _, _, _, _, _, _, _, _, _, _, _, _, _, _, _, _, rfl, fun hf => by first | exact j0 (by simpa using hf) | rfl, fun _ => rfl, fun hf => by simpa using jo1 (by simpa using hf), fun hf => by simpa using jo5 (by simpa using hf), fun hf => jl (by simpa using hf), jz, fun hf => jp (by simpa using hf), fun hf => jb (by simpa using hf), by simpa using HN.out⟩
    | 5, ho, hfi, he =>
      cases ho
      refine wpOp_of rfl rfl ?_
      have hf1 := he ⟨1, .data⟩ (by simp) rfl
      have hf2 := he ⟨2, .data⟩ (by simp) rfl
      have hf3 := he ⟨3, .data⟩ (by simp) rfl
      obtain rfl := j4 (he ⟨4, .data⟩ (by simp) rfl)
      rw [hf1, hf2, hf3, hfi] at h
      obtain ⟨rfl, g1⟩ := h.i1 rfl
      obtain rfl := h.i2 rfl
      obtain ⟨rfl, g2, g3⟩ := h.i3 rfl
      obtain ⟨g4, g5, g6⟩ := g3 rfl
      have HC := Lib.hid (hBy (HH.out.2.1.later h.bel) (g1 rfl) g4 g2 g5 (fun k hk => ⟨(g6 k hk).1, (g6 k hk).2, h.dis rfl rfl k hk⟩))
      have HN := Lib.hid h
      clear h hQ hBy hfi he hroom g1 g2 g3 g4 g5 g6
      go_simp
      refine HC.out.mono ?_
      intro e w2 hpost
      have hzz : w1.heap.size ≤ w2.heap.size := by
        obtain ⟨_, _, _, _, _, _, _, _, _, _, _, _, q4⟩ := hpost
        exact q4.size
      obtain ⟨ts', y, ended', pan', tv', ca', cn', cc', rfl, HN2, hl1, hl2⟩ := HN.out.s5 hpost
      exact ⟨_, _, _, _, _, _, _, _, _, _, _, _, _, _, _, _, _, _, _, _, _, _, rfl, fun hf => by first | exact j0 (by simpa using hf) | rfl, fun hf => by first | exact j4 (by simpa using hf) | rfl, fun hf => by simpa using jo1 (by simpa using hf), fun _ => by simp [hf1, hf3], fun _ => ⟨hl1, hl2⟩, Nat.le_trans jz hzz, fun hf => jp (by simpa using hf), fun hf => jb (by simpa using hf), by simpa [hf1, hf2, hf3] using HN2⟩
    | 6, ho, hfi, he =>
      cases ho
      refine wpOp_of rfl rfl ?_
      have HN := Lib.hid (h.s6 hfi (fun h5 _ => (jl h5).1) (fun h5 _ => (jl h5).2))
      clear h hQ hBy hfi he hroom
      go_simp
      exact ⟨_, _, _, _, _, _, _, _, _, _, _, _, _, _, _, _, _, _, _, _, _, _, rfl, fun hf => by first | exact j0 (by simpa using hf) | rfl, fun hf => by first | exact j4 (by simpa using hf) | rfl, fun hf => by simpa using jo1 (by simpa using hf), fun hf => by simpa using jo5 (by simpa using hf), fun hf => ⟨fun k hk => by have := (jl (by simpa using hf)).1 k hk; simp; omega, fun k hk => by have := (jl (by simpa using hf)).2 k hk; simp; omega⟩, by simp; omega, fun hf => jp (by simpa using hf), fun _ => jz, by simpa using HN.out⟩
    | 7, ho, hfi, he =>
      cases ho
      refine wpOp_of rfl rfl ?_
      have hfA := he ⟨6, .data⟩ (by simp) rfl
      have hfB := he ⟨5, .data⟩ (by simp) rfl
      have h' := h
      rw [hfA, hfB] at h'
      obtain ⟨rfl, -, e3⟩ := h'.i6 rfl
      obtain ⟨rfl, e5⟩ := h'.i5 rfl
      obtain ⟨ta, tn, tc, rfl⟩ : ∃ ta tn tc, tv = .slice ta tn tc := by
        rcases e5.strs.2 with ⟨h9, _⟩ | ⟨g, cap, cur, h9, _⟩
        · exact ⟨_, _, _, h9⟩
        · exact ⟨_, _, _, h9⟩
      rw [hfi] at e3
      have q0 := cell_of_heap (i := 0) e3
      have q1 := cell_of_heap (i := 1) e3
      have q2 := cell_of_heap (i := 2) e3
      have q3 := cell_of_heap (i := 3) e3
      have q4 := cell_of_heap (i := 4) e3
      have qz := frozen_of_heap e3
      simp at q0 q1 q2 q3 q4
      have HN := Lib.hid (h'.s7 hfi)
      clear h h' hQ hBy hfi he hroom e3 e5
      go_simp
      exact ⟨_, _, _, _, _, _, _, _, _, _, _, _, _, _, _, _, _, _, _, _, _, _, rfl, fun hf => by first | exact j0 (by simpa using hf) | rfl, fun hf => by first | exact j4 (by simpa using hf) | rfl, fun hf => by simpa using jo1 (by simpa using hf), fun hf => by simpa using jo5 (by simpa using hf), fun hf => by simpa using jl (by simpa using hf), by simpa using jz, fun hf => jp (by simpa using hf), fun hf => jb (by simpa using hf), by simpa [hfA, hfB] using HN.out⟩
    | k + 8, ho, hfi, he => cases ho
  · rintro f a w1 ⟨vb, v0, v1, v2, v3, v4, v5, pa2, pc2, pl2, rp, rc, rl, RB, ts, x', ended, pan, tv, ca, cn, cc, rfl, j0, j4, jo1, jo5, jl, jz, jp, jb, h⟩ hall
    have f0 : f 0 = true := hall 0 (by decide) _ rfl (fun e he => by simp at he)
    have f3 : f 3 = true := hall 3 (by decide) _ rfl (fun e he => by simp at he)
    have f4 : f 4 = true := hall 4 (by decide) _ rfl (fun e he => by simp at he)
    have f6 : f 6 = true := hall 6 (by decide) _ rfl (fun e he => by simp at he)
    have f1 : f 1 = true := hall 1 (by decide) _ rfl (fun e he hb => by simp at he; rcases he with rfl; assumption)
    have f2 : f 2 = true := hall 2 (by decide) _ rfl (fun e he hb => by simp at he; rcases he with rfl; assumption)
    have f5 : f 5 = true := hall 5 (by decide) _ rfl (fun e he hb => by simp at he; rcases he with rfl | rfl | rfl | rfl | rfl <;> assumption)
    have f7 : f 7 = true := hall 7 (by decide) _ rfl (fun e he hb => by simp at he; rcases he with rfl | rfl | rfl | rfl | rfl | rfl | rfl | rfl | rfl | rfl <;> assumption)
    rw [f1, f2, f3, f5, f6, f7] at h
    obtain ⟨rfl, g2, g3⟩ := h.i6 rfl
    obtain ⟨rfl, g5⟩ := h.i5 rfl
    exact hQ _ _ _ _ _ RB ts x' ended pan tv ca cn cc w1 h.bel g2 g3 g5
end Empty
end Go.Proofs.YtkclapimgmnldaaDoor
