/-
  FnScript's statement that calls ByScript, whatever order its operations come in. (Printed by gen_regs.py.)
-/
import Derived.Test.YtkclapimgmnldaaDoorQRunJ
import Derived.Test.YtkclapimgmnldaaDoorQA
import Derived.Test.YtkclapimgmnldaaDoorQToScr
namespace Go.Proofs.YtkclapimgmnldaaDoor
set_option linter.unusedVariables false
set_option linter.unusedSimpArgs false
set_option maxRecDepth 20000
open Go.RowKit

/-- the region with a number -/
def regOfS (id : Nat) : Code → Option Code
  | .region i ops b => if i = id then some (.region i ops b) else none
  | .seq a b => (regOfS id a).or (regOfS id b)
  | .block _ c => regOfS id c
  | .scope c => regOfS id c
  | .loop c => regOfS id c
  | .cond _ a b => (regOfS id a).or (regOfS id b)
  | _ => none
noncomputable def regScript : Code := ((Tryd.f10.body.bind (regOfS 3)).getD .skip)
section
variable {u0 u1 u2 u7 u8 u10 u11 u12 u13 u14 u15 u16 u17 u18 u19 u20 u21 u22 u23 u24 u25 u26 u27 u28 u29 u30 u31 u32 u33 u34 u35 u36 u37 u38 u39 u40 u41 u42 u51 u52 u53 u54 u55 u56 u57 u58 u59 u60 u61 u62 u63 u64 u65 u66 u67 u68 u69 u70 u71 u72 u73 u74 u75 u76 u77 u78 u79 u80 u81 u82 u83 u84 u85 u86 u87 u88 u89 u90 u91 u92 u93 u94 u95 u96 u97 u98 u99 u100 u101 u102 u103 u104 u105 u106 u107 u108 u109 u110 u111 u112 u113 u114 u115 u116 u117 u118 u119 u120 u121 u122 u123 u124 u125 u126 u127 u128 u129 u130 u131 u132 u133 u134 u135 u136 u137 u138 u139 u140 u141 u142 u143 u144 u145 u146 u147 u148 u149 u150 u151 u152 u153 : Value}
variable {w W : World} {E : Nat → Addr} {s : ByteArray} {pa : Option Addr} {pcs : List Int} {pc : Nat} {tog rep d : Bool} {c m n : Int} {BS BR BX : Nat} {rs : List Rep} {xp : Option Addr} {xc : Nat}
def JScript (u0 u1 u2 u7 u8 u10 u11 u12 u13 u14 u15 u16 u17 u18 u19 u20 u21 u22 u23 u24 u25 u26 u27 u28 u29 u30 u31 u32 u33 u34 u35 u36 u37 u38 u39 u40 u41 u42 u51 u52 u53 u54 u55 u56 u57 u58 u59 u60 u61 u62 u63 u64 u65 u66 u67 u68 u69 u70 u71 u72 u73 u74 u75 u76 u77 u78 u79 u80 u81 u82 u83 u84 u85 u86 u87 u88 u89 u90 u91 u92 u93 u94 u95 u96 u97 u98 u99 u100 u101 u102 u103 u104 u105 u106 u107 u108 u109 u110 u111 u112 u113 u114 u115 u116 u117 u118 u119 u120 u121 u122 u123 u124 u125 u126 u127 u128 u129 u130 u131 u132 u133 u134 u135 u136 u137 u138 u139 u140 u141 u142 u143 u144 u145 u146 u147 u148 u149 u150 u151 u152 u153 : Value) (w W : World) (s : ByteArray) (pa : Option Addr) (pcs : List Int) (pc : Nat) (tog d : Bool) (c m : Int) (rs : List Rep) (xp : Option Addr) (xc : Nat) (rep : Bool) (n : Int) (BS BR BX : Nat) (f : Nat → Bool) (a : Act) (w' : World) : Prop :=
  ∃ vb v43 v44 v45 v46 v47 v48 v49 v50 pa2 pc2 pl2 rp rc rl RB ts x' ended pan tv ca cn cc, a = ⟨#[u0, u1, u2, .int .i64 n, .pointer (some ⟨BS, 0, none⟩), .pointer (some ⟨BR, 0, none⟩), .pointer (some ⟨BX, 0, none⟩), u7, u8, vb, u10, u11, u12, u13, u14, u15, u16, u17, u18, u19, u20, u21, u22, u23, u24, u25, u26, u27, u28, u29, u30, u31, u32, u33, u34, u35, u36, u37, u38, u39, u40, u41, u42, v43, v44, v45, v46, v47, v48, v49, v50, u51, u52, u53, u54, u55, u56, u57, u58, u59, u60, u61, u62, u63, u64, u65, u66, u67, u68, u69, u70, u71, u72, u73, u74, u75, u76, u77, u78, u79, u80, u81, u82, u83, u84, u85, u86, u87, u88, u89, u90, u91, u92, u93, u94, u95, u96, u97, u98, u99, u100, u101, u102, u103, u104, u105, u106, u107, u108, u109, u110, u111, u112, u113, u114, u115, u116, u117, u118, u119, u120, u121, u122, u123, u124, u125, u126, u127, u128, u129, u130, u131, u132, u133, u134, u135, u136, u137, u138, u139, u140, u141, u142, u143, u144, u145, u146, u147, u148, u149, u150, u151, u152, u153], []⟩ ∧ (f 0 = true → v43 = srcL s pa pcs.length pc tog false) ∧ (f 2 = true → v45 = roomV d c m) ∧ (f 4 = true → v47 = .agg #[.slice xp rs.length xc, .bool rep]) ∧ (f 6 = true → v49 = .int .i64 n) ∧ (f 1 = true → f 0 = true) ∧ (f 3 = true → f 2 = true) ∧ (f 5 = true → f 4 = true) ∧ (f 7 = true → f 0 = true ∧ f 2 = true ∧ f 4 = true ∧ f 1 = true ∧ f 3 = true ∧ f 5 = true) ∧ (f 7 = true → (∀ k, k ∈ pl2 → k < w'.heap.size) ∧ ∀ k, k ∈ rl → k < w'.heap.size) ∧ W.heap.size ≤ w'.heap.size ∧
    RJ w W s pcs tog false d c m rs rep n.toNat (f 1) (f 3) (f 5) (f 7) (f 8) (f 9) v44 v46 v48 v50 vb pa2 pc2 pl2 rp rc rl RB ts x' ended pan tv ca cn cc w'
set_option maxRecDepth 100000 in
set_option maxHeartbeats 4000000 in
theorem regionScript (hW : Below w.heap.size w W) (hE : EnvC w.heap.size w E) (hi : Ints w pa pcs pc) (hpn : pcs.length * 8 ≤ 140737488355328) (hx : RepsC w xp rs xc) (hxn : rs.length * 64 ≤ 140737488355328)
    (hBS : W.heap[BS]? = some (.cells #[.string s, .slice pa pcs.length pc, .bool tog, .bool false] 24 (0, 0))) (hBR : W.heap[BR]? = some (.cells #[.bool d, .int .i64 c, .int .i64 m] 26 (0, 0))) (hBX : W.heap[BX]? = some (.cells #[.slice xp rs.length xc, .bool rep] 67 (0, 0)))
    (hBy : ∀ {w' pa2 pc2 pl2 rp rc rl}, EnvC w.heap.size w' E → PcsAt w.heap.size w' pa2 pcs pc2 pl2 → RepsAt w' rs rp rl → (rs.length ≤ rc ∧ rc ≤ 9223372036854775807) → rl.Nodup → (∀ k, k ∈ rl → w.heap.size ≤ k ∧ k < w'.heap.size ∧ k ∉ pl2) →
      Calls Tryd.prog 30 #[srcV s pa2 pcs.length pc2 tog false, roomV d c m, scrV rp rs.length rc rep, .int .i64 n] w' (RunPost w.heap.size rs rep (limitN d c m) tog (if false then 5 else 0) (newT s) n.toNat (pl2 ++ rl) w'))
    (Q : Exit → Act → World → Prop) (hQ : ∀ v43 v44 v45 v46 v47 v48 v49 RB ts x' ended pan tv ca cn cc w', Below w.heap.size w w' → w.heap.size ≤ RB → W.heap.size ≤ w'.heap.size → w'.heap[RB]? = some (.cells (runCells tv (.slice ca cn cc) (codeI (errOf x'.err)) ended pan) 61 (0, 0)) → Ran w rs rep (limitN d c m) tog 0 s n.toNat ts x' ended pan tv ca cn cc w' →
      Q .normal ⟨#[u0, u1, u2, .int .i64 n, .pointer (some ⟨BS, 0, none⟩), .pointer (some ⟨BR, 0, none⟩), .pointer (some ⟨BX, 0, none⟩), u7, u8, (.pointer (some ⟨RB, 0, none⟩)), u10, u11, u12, u13, u14, u15, u16, u17, u18, u19, u20, u21, u22, u23, u24, u25, u26, u27, u28, u29, u30, u31, u32, u33, u34, u35, u36, u37, u38, u39, u40, u41, u42, v43, v44, v45, v46, v47, v48, v49, (.agg (runCells tv (.slice ca cn cc) (codeI (errOf x'.err)) ended pan)), u51, u52, u53, u54, u55, u56, u57, u58, u59, u60, u61, u62, u63, u64, u65, u66, u67, u68, u69, u70, u71, u72, u73, u74, u75, u76, u77, u78, u79, u80, u81, u82, u83, u84, u85, u86, u87, u88, u89, u90, u91, u92, u93, u94, u95, u96, u97, u98, u99, u100, u101, u102, u103, u104, u105, u106, u107, u108, u109, u110, u111, u112, u113, u114, u115, u116, u117, u118, u119, u120, u121, u122, u123, u124, u125, u126, u127, u128, u129, u130, u131, u132, u133, u134, u135, u136, u137, u138, u139, u140, u141, u142, u143, u144, u145, u146, u147, u148, u149, u150, u151, u152, u153], []⟩ w') :
    Code.wp Tryd.prog regScript Q ⟨#[u0, u1, u2, .int .i64 n, .pointer (some ⟨BS, 0, none⟩), .pointer (some ⟨BR, 0, none⟩), .pointer (some ⟨BX, 0, none⟩), u7, u8, undef, u10, u11, u12, u13, u14, u15, u16, u17, u18, u19, u20, u21, u22, u23, u24, u25, u26, u27, u28, u29, u30, u31, u32, u33, u34, u35, u36, u37, u38, u39, u40, u41, u42, undef, undef, undef, undef, undef, undef, undef, undef, u51, u52, u53, u54, u55, u56, u57, u58, u59, u60, u61, u62, u63, u64, u65, u66, u67, u68, u69, u70, u71, u72, u73, u74, u75, u76, u77, u78, u79, u80, u81, u82, u83, u84, u85, u86, u87, u88, u89, u90, u91, u92, u93, u94, u95, u96, u97, u98, u99, u100, u101, u102, u103, u104, u105, u106, u107, u108, u109, u110, u111, u112, u113, u114, u115, u116, u117, u118, u119, u120, u121, u122, u123, u124, u125, u126, u127, u128, u129, u130, u131, u132, u133, u134, u135, u136, u137, u138, u139, u140, u141, u142, u143, u144, u145, u146, u147, u148, u149, u150, u151, u152, u153], []⟩ W := by
  unfold regScript
  show Code.wp Tryd.prog (Code.region 3 _ true) Q _ W
  have k0 : W.cell? ⟨BS, 0, none⟩ = some (.string s) := cell_of_heap hBS
  have k1 : W.cell? ⟨BS, 1, none⟩ = some (.slice pa pcs.length pc) := cell_of_heap hBS
  have k2 : W.cell? ⟨BS, 2, none⟩ = some (.bool tog) := cell_of_heap hBS
  have k3 : W.cell? ⟨BS, 3, none⟩ = some (.bool false) := cell_of_heap hBS
  have k4 : W.cell? ⟨BR, 0, none⟩ = some (.bool d) := cell_of_heap hBR
  have k5 : W.cell? ⟨BR, 1, none⟩ = some (.int .i64 c) := cell_of_heap hBR
  have k6 : W.cell? ⟨BR, 2, none⟩ = some (.int .i64 m) := cell_of_heap hBR
  have k7 : W.cell? ⟨BX, 0, none⟩ = some (.slice xp rs.length xc) := cell_of_heap hBX
  have k8 : W.cell? ⟨BX, 1, none⟩ = some (.bool rep) := cell_of_heap hBX
  have HH := Lib.hid (And.intro hW (And.intro hE (And.intro hi hpn)))
  have HX := Lib.hid (And.intro hx hxn)
  clear hBS hBR hBX hW hE hi hpn hx hxn
  refine wp_region_inv (by kernel_rfl) (JScript u0 u1 u2 u7 u8 u10 u11 u12 u13 u14 u15 u16 u17 u18 u19 u20 u21 u22 u23 u24 u25 u26 u27 u28 u29 u30 u31 u32 u33 u34 u35 u36 u37 u38 u39 u40 u41 u42 u51 u52 u53 u54 u55 u56 u57 u58 u59 u60 u61 u62 u63 u64 u65 u66 u67 u68 u69 u70 u71 u72 u73 u74 u75 u76 u77 u78 u79 u80 u81 u82 u83 u84 u85 u86 u87 u88 u89 u90 u91 u92 u93 u94 u95 u96 u97 u98 u99 u100 u101 u102 u103 u104 u105 u106 u107 u108 u109 u110 u111 u112 u113 u114 u115 u116 u117 u118 u119 u120 u121 u122 u123 u124 u125 u126 u127 u128 u129 u130 u131 u132 u133 u134 u135 u136 u137 u138 u139 u140 u141 u142 u143 u144 u145 u146 u147 u148 u149 u150 u151 u152 u153 w W s pa pcs pc tog d c m rs xp xc rep n BS BR BX) ?_ ?_ ?_
  · refine ⟨undef, undef, undef, undef, undef, undef, undef, undef, undef, none, 0, [], none, 0, [], 0, [], newT s, false, false, .slice none 0 0, none, 0, 0, rfl, by simp, by simp, by simp, by simp, by simp, by simp, by simp, by simp, by simp, Nat.le_refl _, ?_⟩
    exact ⟨bel_dr HH.out.1, fun _ => bel_dr (Below.refl _ _), by simp, by simp, by simp, by simp, by simp, by simp, by simp, by simp, by simp⟩
  · rintro f a w1 i o ⟨vb, v43, v44, v45, v46, v47, v48, v49, v50, pa2, pc2, pl2, rp, rc, rl, RB, ts, x', ended, pan, tv, ca, cn, cc, rfl, j0, j2, j4, j6, ja, jb, jc, jo, jl, jz, h⟩ ho hfi he
    match i, ho, hfi, he with
    | 0, ho, hfi, he =>
      cases ho
      refine wpOp_of rfl rfl ?_
      have hB : f 7 = false := by
        cases hb : f 7 with
        | false => rfl
        | true => have := jo hb; simp_all
      have hb := h.pre hB
      have q0 := (hb.cell (World.block_lt_of_cell? W _ k0)).trans k0
      have q1 := (hb.cell (World.block_lt_of_cell? W _ k1)).trans k1
      have q2 := (hb.cell (World.block_lt_of_cell? W _ k2)).trans k2
      have q3 := (hb.cell (World.block_lt_of_cell? W _ k3)).trans k3
      have HN := Lib.hid (show RJ w W s pcs tog false d c m rs rep n.toNat ((fun k => f k || k == 0) 1) ((fun k => f k || k == 0) 3) ((fun k => f k || k == 0) 5) ((fun k => f k || k == 0) 7) ((fun k => f k || k == 0) 8) ((fun k => f k || k == 0) 9) v44 v46 v48 v50 vb pa2 pc2 pl2 rp rc rl RB ts x' ended pan tv ca cn cc w1 from by simpa using h)
      have HB7 := Lib.hid hB
      clear h hQ hBy hfi he hb hB
      go_simp
      exact ⟨_, _, _, _, _, _, _, _, _, _, _, _, _, _, _, _, _, _, _, _, _, _, _, _, rfl, fun _ => rfl, fun hf => by first | exact j2 (by simpa using hf) | rfl, fun hf => by first | exact j4 (by simpa using hf) | rfl, fun hf => by first | exact j6 (by simpa using hf) | rfl, fun _ => by simp, fun hf => by simpa using jb (by simpa using hf), fun hf => by simpa using jc (by simpa using hf), fun hf => by simp [HB7.out] at hf, fun hf => by simp [HB7.out] at hf, jz, HN.out⟩
    | 1, ho, hfi, he =>
      cases ho
      refine wpOp_of rfl rfl ?_
      have hf0 := he ⟨0, .data⟩ (by simp) rfl
      obtain rfl := j0 hf0
      have hB : f 7 = false := by
        cases hb : f 7 with
        | false => rfl
        | true => have := jo hb; simp_all
      have HC := Lib.hid (toSource_any s pa pcs pc tog false w1 (HH.out.2.2.1.below h.bel) HH.out.2.2.2)
      have HN := Lib.hid (And.intro h hB)
      clear h hQ hBy hfi he hB
      go_simp
      refine HC.out.mono ?_
      rintro e w2 ⟨pa3, pc3, pl3, rfl, hp2, hb2⟩
      have HN2 := HN.out.1.s1 HN.out.2 hp2 hb2
      exact ⟨_, _, _, _, _, _, _, _, _, _, _, _, _, _, _, _, _, _, _, _, _, _, _, _, rfl, fun hf => by first | exact j0 (by simpa using hf) | rfl, fun hf => by first | exact j2 (by simpa using hf) | rfl, fun hf => by first | exact j4 (by simpa using hf) | rfl, fun hf => by first | exact j6 (by simpa using hf) | rfl, fun _ => by simp [hf0], fun hf => by simpa using jb (by simpa using hf), fun hf => by simpa using jc (by simpa using hf), fun hf => by simp [HN.out.2] at hf, fun hf => by simp [HN.out.2] at hf, Nat.le_trans jz hb2.size, by simpa using HN2⟩
    | 2, ho, hfi, he =>
      cases ho
      refine wpOp_of rfl rfl ?_
      have hB : f 7 = false := by
        cases hb : f 7 with
        | false => rfl
        | true => have := jo hb; simp_all
      have hb := h.pre hB
      have q4 := (hb.cell (World.block_lt_of_cell? W _ k4)).trans k4
      have q5 := (hb.cell (World.block_lt_of_cell? W _ k5)).trans k5
      have q6 := (hb.cell (World.block_lt_of_cell? W _ k6)).trans k6
      have HN := Lib.hid (show RJ w W s pcs tog false d c m rs rep n.toNat ((fun k => f k || k == 2) 1) ((fun k => f k || k == 2) 3) ((fun k => f k || k == 2) 5) ((fun k => f k || k == 2) 7) ((fun k => f k || k == 2) 8) ((fun k => f k || k == 2) 9) v44 v46 v48 v50 vb pa2 pc2 pl2 rp rc rl RB ts x' ended pan tv ca cn cc w1 from by simpa using h)
      have HB7 := Lib.hid hB
      clear h hQ hBy hfi he hb hB
      go_simp
      exact ⟨_, _, _, _, _, _, _, _, _, _, _, _, _, _, _, _, _, _, _, _, _, _, _, _, rfl, fun hf => by first | exact j0 (by simpa using hf) | rfl, fun _ => rfl, fun hf => by first | exact j4 (by simpa using hf) | rfl, fun hf => by first | exact j6 (by simpa using hf) | rfl, fun hf => by simpa using ja (by simpa using hf), fun _ => by simp, fun hf => by simpa using jc (by simpa using hf), fun hf => by simp [HB7.out] at hf, fun hf => by simp [HB7.out] at hf, jz, HN.out⟩
    | 3, ho, hfi, he =>
      cases ho
      refine wpOp_of rfl rfl ?_
      have hf2 := he ⟨2, .data⟩ (by simp) rfl
      obtain rfl := j2 hf2
      have hB : f 7 = false := by
        cases hb : f 7 with
        | false => rfl
        | true => have := jo hb; simp_all
      have HN := Lib.hid (And.intro h hB)
      clear h hQ hBy hfi he hB
      go_simp
      refine (toRoom_any _ _ _ _).mono ?_
      rintro e w2 ⟨rfl, hb2⟩
      have HN2 := HN.out.1.s2 hb2
      exact ⟨_, _, _, _, _, _, _, _, _, _, _, _, _, _, _, _, _, _, _, _, _, _, _, _, rfl, fun hf => by first | exact j0 (by simpa using hf) | rfl, fun hf => by first | exact j2 (by simpa using hf) | rfl, fun hf => by first | exact j4 (by simpa using hf) | rfl, fun hf => by first | exact j6 (by simpa using hf) | rfl, fun hf => by simpa using ja (by simpa using hf), fun _ => by simp [hf2], fun hf => by simpa using jc (by simpa using hf), fun hf => by simp [HN.out.2] at hf, fun hf => by simp [HN.out.2] at hf, Nat.le_trans jz hb2.size, by simpa using HN2⟩
    | 4, ho, hfi, he =>
      cases ho
      refine wpOp_of rfl rfl ?_
      have hB : f 7 = false := by
        cases hb : f 7 with
        | false => rfl
        | true => have := jo hb; simp_all
      have hb := h.pre hB
      have q7 := (hb.cell (World.block_lt_of_cell? W _ k7)).trans k7
      have q8 := (hb.cell (World.block_lt_of_cell? W _ k8)).trans k8
      have HN := Lib.hid (show RJ w W s pcs tog false d c m rs rep n.toNat ((fun k => f k || k == 4) 1) ((fun k => f k || k == 4) 3) ((fun k => f k || k == 4) 5) ((fun k => f k || k == 4) 7) ((fun k => f k || k == 4) 8) ((fun k => f k || k == 4) 9) v44 v46 v48 v50 vb pa2 pc2 pl2 rp rc rl RB ts x' ended pan tv ca cn cc w1 from by simpa using h)
      have HB7 := Lib.hid hB
      clear h hQ hBy hfi he hb hB
      go_simp
      exact ⟨_, _, _, _, _, _, _, _, _, _, _, _, _, _, _, _, _, _, _, _, _, _, _, _, rfl, fun hf => by first | exact j0 (by simpa using hf) | rfl, fun hf => by first | exact j2 (by simpa using hf) | rfl, fun _ => rfl, fun hf => by first | exact j6 (by simpa using hf) | rfl, fun hf => by simpa using ja (by simpa using hf), fun hf => by simpa using jb (by simpa using hf), fun _ => by simp, fun hf => by simp [HB7.out] at hf, fun hf => by simp [HB7.out] at hf, jz, HN.out⟩
    | 5, ho, hfi, he =>
      cases ho
      refine wpOp_of rfl rfl ?_
      have hf4 := he ⟨4, .data⟩ (by simp) rfl
      obtain rfl := j4 hf4
      have hB : f 7 = false := by
        cases hb : f 7 with
        | false => rfl
        | true => have := jo hb; simp_all
      have HC := Lib.hid (toScript_any rs xp xc rep w1 (HX.out.1.below h.bel) HX.out.2)
      have HN := Lib.hid (And.intro h hB)
      clear h hQ hBy hfi he hB
      go_simp
      refine HC.out.mono ?_
      rintro e w2 ⟨rp3, rc3, rl3, rfl, hR, hrc, hnd, hrl, hb2⟩
      have HN2 := HN.out.1.s3 HN.out.2 hb2 hrc hR hnd (fun k hk => ⟨Nat.le_trans HN.out.1.bel.size (hrl k hk).1, (hrl k hk).2⟩) (fun hb1 k hk hm => by
        have h1 := (((HN.out.1.i1 hb1).2 HN.out.2).hlt _ hm).2
        have h2 := (hrl k hk).1
        omega) (fun hb6 hm => by
        have h1 := lt_of_heap (HN.out.1.i6 hb6).2.2
        have h2 := (hrl _ hm).1
        omega)
      exact ⟨_, _, _, _, _, _, _, _, _, _, _, _, _, _, _, _, _, _, _, _, _, _, _, _, rfl, fun hf => by first | exact j0 (by simpa using hf) | rfl, fun hf => by first | exact j2 (by simpa using hf) | rfl, fun hf => by first | exact j4 (by simpa using hf) | rfl, fun hf => by first | exact j6 (by simpa using hf) | rfl, fun hf => by simpa using ja (by simpa using hf), fun hf => by simpa using jb (by simpa using hf), fun _ => by simp [hf4], fun hf => by simp [HN.out.2] at hf, fun hf => by simp [HN.out.2] at hf, Nat.le_trans jz hb2.size, by simpa using HN2⟩
    | 6, ho, hfi, he =>
      cases ho
      refine wpOp_of rfl rfl ?_
      have HN := Lib.hid h
      clear h hQ hBy hfi he
      go_simp
      exact ⟨_, _, _, _, _, _, _, _, _, _, _, _, _, _, _, _, _, _, _, _, _, _, _, _, rfl, fun hf => by first | exact j0 (by simpa using hf) | rfl, fun hf => by first | exact j2 (by simpa using hf) | rfl, fun hf => by first | exact j4 (by simpa using hf) | rfl, fun _ => rfl, fun hf => by simpa using ja (by simpa using hf), fun hf => by simpa using jb (by simpa using hf), fun hf => by simpa using jc (by simpa using hf), fun hf => by have := jo (by simpa using hf); simp [this], fun hf => jl (by simpa using hf), jz, by simpa using HN.out⟩
    | 7, ho, hfi, he =>
      cases ho
      refine wpOp_of rfl rfl ?_
      have hf1 := he ⟨1, .data⟩ (by simp) rfl
      have hf3 := he ⟨3, .data⟩ (by simp) rfl
      have hf5 := he ⟨5, .data⟩ (by simp) rfl
      obtain rfl := j6 (he ⟨6, .data⟩ (by simp) rfl)
      have hjo : f 0 = true ∧ f 2 = true ∧ f 4 = true := ⟨ja hf1, jb hf3, jc hf5⟩
      rw [hf1, hf3, hf5, hfi] at h
      obtain ⟨rfl, g1⟩ := h.i1 rfl
      obtain rfl := h.i2 rfl
      obtain ⟨rfl, g2, g3⟩ := h.i3 rfl
      obtain ⟨g4, g5, g6⟩ := g3 rfl
      have HC := Lib.hid (hBy (HH.out.2.1.later h.bel) (g1 rfl) g4 g2 g5 (fun k hk => ⟨(g6 k hk).1, (g6 k hk).2, h.dis rfl rfl k hk⟩))
      have HN := Lib.hid h
      clear h hQ hBy hfi he g1 g2 g3 g4 g5 g6
      go_simp
      refine HC.out.mono ?_
      intro e w2 hpost
      have hzz : w1.heap.size ≤ w2.heap.size := by
        obtain ⟨_, _, _, _, _, _, _, _, _, _, _, _, q4⟩ := hpost
        exact q4.size
      obtain ⟨ts', y, ended', pan', tv', ca', cn', cc', rfl, HN2, hl1, hl2⟩ := HN.out.s5 hpost
      exact ⟨_, _, _, _, _, _, _, _, _, _, _, _, _, _, _, _, _, _, _, _, _, _, _, _, rfl, fun hf => by first | exact j0 (by simpa using hf) | rfl, fun hf => by first | exact j2 (by simpa using hf) | rfl, fun hf => by first | exact j4 (by simpa using hf) | rfl, fun hf => by first | exact j6 (by simpa using hf) | rfl, fun hf => by simpa using ja (by simpa using hf), fun hf => by simpa using jb (by simpa using hf), fun hf => by simpa using jc (by simpa using hf), fun _ => by simp [hf1, hf3, hf5, hjo], fun _ => ⟨hl1, hl2⟩, Nat.le_trans jz hzz, by simpa [hf1, hf3, hf5] using HN2⟩
    | 8, ho, hfi, he =>
      cases ho
      refine wpOp_of rfl rfl ?_
      have HN := Lib.hid (h.s6 hfi (fun h5 _ => (jl h5).1) (fun h5 _ => (jl h5).2))
      clear h hQ hBy hfi he
      go_simp
      exact ⟨_, _, _, _, _, _, _, _, _, _, _, _, _, _, _, _, _, _, _, _, _, _, _, _, rfl, fun hf => by first | exact j0 (by simpa using hf) | rfl, fun hf => by first | exact j2 (by simpa using hf) | rfl, fun hf => by first | exact j4 (by simpa using hf) | rfl, fun hf => by first | exact j6 (by simpa using hf) | rfl, fun hf => by simpa using ja (by simpa using hf), fun hf => by simpa using jb (by simpa using hf), fun hf => by simpa using jc (by simpa using hf), fun hf => by have := jo (by simpa using hf); simp [this], fun hf => ⟨fun k hk => by have := (jl (by simpa using hf)).1 k hk; simp; omega, fun k hk => by have := (jl (by simpa using hf)).2 k hk; simp; omega⟩, by simp; omega, by simpa using HN.out⟩
    | 9, ho, hfi, he =>
      cases ho
      refine wpOp_of rfl rfl ?_
      have hfA := he ⟨8, .data⟩ (by simp) rfl
      have hfB := he ⟨7, .data⟩ (by simp) rfl
      have h' := h
      rw [hfA, hfB] at h'
      obtain ⟨rfl, -, e3⟩ := h'.i6 rfl
      obtain ⟨rfl, e5⟩ := h'.i5 rfl
      obtain ⟨ta, tn, tc, rfl⟩ : ∃ ta tn tc, tv = .slice ta tn tc := by
        rcases e5.strs.2 with ⟨h9, _⟩ | ⟨g, cap, cur, h9, _⟩
        · exact ⟨_, _, _, h9⟩
        · exact ⟨_, _, _, h9⟩
      rw [hfi] at e3
      have q0 := cell_of_heap (i := 0) e3
      have q1 := cell_of_heap (i := 1) e3
      have q2 := cell_of_heap (i := 2) e3
      have q3 := cell_of_heap (i := 3) e3
      have q4 := cell_of_heap (i := 4) e3
      have qz := frozen_of_heap e3
      simp at q0 q1 q2 q3 q4
      have HN := Lib.hid (h'.s7 hfi)
      clear h h' hQ hBy hfi he e3 e5
      go_simp
      exact ⟨_, _, _, _, _, _, _, _, _, _, _, _, _, _, _, _, _, _, _, _, _, _, _, _, rfl, fun hf => by first | exact j0 (by simpa using hf) | rfl, fun hf => by first | exact j2 (by simpa using hf) | rfl, fun hf => by first | exact j4 (by simpa using hf) | rfl, fun hf => by first | exact j6 (by simpa using hf) | rfl, fun hf => by simpa using ja (by simpa using hf), fun hf => by simpa using jb (by simpa using hf), fun hf => by simpa using jc (by simpa using hf), fun hf => by have := jo (by simpa using hf); simp [this], fun hf => by simpa using jl (by simpa using hf), by simpa using jz, by simpa [hfA, hfB] using HN.out⟩
    | k + 10, ho, hfi, he => cases ho
  · rintro f a w1 ⟨vb, v43, v44, v45, v46, v47, v48, v49, v50, pa2, pc2, pl2, rp, rc, rl, RB, ts, x', ended, pan, tv, ca, cn, cc, rfl, j0, j2, j4, j6, ja, jb, jc, jo, jl, jz, h⟩ hall
    have f0 : f 0 = true := hall 0 (by decide) _ rfl (fun e he => by simp at he)
    have f2 : f 2 = true := hall 2 (by decide) _ rfl (fun e he => by simp at he)
    have f4 : f 4 = true := hall 4 (by decide) _ rfl (fun e he => by simp at he)
    have f6 : f 6 = true := hall 6 (by decide) _ rfl (fun e he => by simp at he)
    have f8 : f 8 = true := hall 8 (by decide) _ rfl (fun e he => by simp at he)
    have f1 : f 1 = true := hall 1 (by decide) _ rfl (fun e he hb => by simp at he; (first | (rcases he with rfl) | (rcases he with rfl | rfl)) <;> assumption)
    have f3 : f 3 = true := hall 3 (by decide) _ rfl (fun e he hb => by simp at he; rcases he with rfl | rfl <;> assumption)
    have f5 : f 5 = true := hall 5 (by decide) _ rfl (fun e he hb => by simp at he; rcases he with rfl | rfl <;> assumption)
    have f7 : f 7 = true := hall 7 (by decide) _ rfl (fun e he hb => by simp at he; rcases he with rfl | rfl | rfl | rfl | rfl <;> assumption)
    have f9 : f 9 = true := hall 9 (by decide) _ rfl (fun e he hb => by simp at he; rcases he with rfl | rfl | rfl | rfl | rfl | rfl | rfl | rfl | rfl | rfl | rfl | rfl <;> assumption)
    rw [f1, f3, f5, f7, f8, f9] at h
    obtain ⟨rfl, g2, g3⟩ := h.i6 rfl
    obtain ⟨rfl, g5⟩ := h.i5 rfl
    exact hQ _ _ _ _ _ _ _ RB ts x' ended pan tv ca cn cc w1 h.bel g2 jz g3 g5
end
end Go.Proofs.YtkclapimgmnldaaDoor
