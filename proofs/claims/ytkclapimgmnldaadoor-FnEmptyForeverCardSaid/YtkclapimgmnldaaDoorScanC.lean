/-
  What comes of the split function's answer, piece by piece: setErr, advance, and Scan's own text behind the call.
-/
import Derived.Test.YtkclapimgmnldaaDoorScanB
namespace Go.Proofs.YtkclapimgmnldaaDoor
set_option linter.unusedVariables false
set_option linter.unusedSimpArgs false
set_option maxRecDepth 20000
open Go.RowKit

/-- the world behind setErr -/
def errW (w : World) (B : Nat) (E : Nat → Addr) (x : Option Nat) (c : Nat) : World :=
  if x = none ∨ x = some 0 then w.setCell ⟨B, 7, none⟩ (.iface 124 (.pointer (some (E c)))) else w

theorem setErr_any (B c : Nat) (w : World) (E : Nat → Addr) (base : Nat) (x : Option Nat) (hg : Glob w E base) (hx : ∀ d, x = some d → d < 7)
    (hc : w.cell? ⟨B, 7, none⟩ = some (errV E x)) (hf : w.frozen? ⟨B, 7, none⟩ = false) :
    Calls Tryd.prog 56 #[.pointer (some ⟨B, 0, none⟩), .iface 124 (.pointer (some (E c)))] w fun e w' => e = .returned (.tuple #[]) ∧ ∃ n, w' = (errW w B E x c).drewN n := by
  cases x with
  | none => simpa [errW] using setErr_nil B (E c) w hc hf
  | some d =>
    by_cases hd : d = 0
    · subst hd; simpa [errW] using setErr_eof B (E c) w E base hg.errs hc hf hg.eof
    · have := setErr_other B d (E c) w E base hg.errs (hx d rfl) hd hc hg.eof
      simpa [errW, hd] using this

theorem errW_drewN (w : World) (B : Nat) (E : Nat → Addr) (x : Option Nat) (c q : Nat) : errW (w.drewN q) B E x c = (errW w B E x c).drewN q := by
  unfold errW; split <;> rfl

section advance
variable (B s e : Nat) (n : Int) (w : World) (E : Nat → Addr) (base : Nat) (x : Option Nat)

set_option maxHeartbeats 400000 in
theorem advance_neg (hg : Glob w E base) (hx : ∀ d, x = some d → d < 7) (hc : w.cell? ⟨B, 7, none⟩ = some (errV E x)) (hf : w.frozen? ⟨B, 7, none⟩ = false) (hn : n < 0) :
    Calls Tryd.prog 57 #[.pointer (some ⟨B, 0, none⟩), .int .i64 n] w fun en w' => en = .returned (.bool false) ∧ ∃ k, w' = (errW w B E x 2).drewN k := by
  have HC := Lib.hid (setErr_any B 2 w E base x hg hx hc hf)
  have h2 := hg.neg
  clear hg hx hc hf
  go_enter Tryd.func57, Tryd.ntmps57
  go_wp2_with fail
  refine HC.out.mono ?_
  rintro en w' ⟨rfl, k, rfl⟩
  go_wp2
  go_ret
  exact ⟨rfl, _, rfl⟩

set_option maxHeartbeats 400000 in
theorem advance_far (hg : Glob w E base) (hx : ∀ d, x = some d → d < 7) (hc : w.cell? ⟨B, 7, none⟩ = some (errV E x)) (hf : w.frozen? ⟨B, 7, none⟩ = false)
    (h5 : w.cell? ⟨B, 5, none⟩ = some (.int .i64 (s : Int))) (h6 : w.cell? ⟨B, 6, none⟩ = some (.int .i64 (e : Int))) (hse : s ≤ e) (he : e ≤ 4194304) (hn : (e : Int) - s < n) :
    Calls Tryd.prog 57 #[.pointer (some ⟨B, 0, none⟩), .int .i64 n] w fun en w' => en = .returned (.bool false) ∧ ∃ k, w' = (errW w B E x 3).drewN k := by
  have HC := Lib.hid fun q => setErr_any B 3 (w.drewN q) E base x (hg.below (below_drewN (Below.refl _ _) q)) hx hc hf
  have h2 := hg.far
  have h0 : ¬ n < 0 := by omega
  clear hg hx hc hf
  go_enter Tryd.func57, Tryd.ntmps57
  go_wp2_with fail
  go_quiet (fail)
  go_wp2_with fail
  refine (HC.out _).mono ?_
  rintro en w' ⟨rfl, k, rfl⟩
  go_wp2
  go_ret
  exact ⟨rfl, _, by rw [errW_drewN, World.drewN_drewN]⟩

set_option maxHeartbeats 400000 in
theorem advance_ok (hf : w.frozen? ⟨B, 5, none⟩ = false)
    (h5 : w.cell? ⟨B, 5, none⟩ = some (.int .i64 (s : Int))) (h6 : w.cell? ⟨B, 6, none⟩ = some (.int .i64 (e : Int))) (hse : s ≤ e) (he : e ≤ 4194304) (k : Nat) (hn : k ≤ e - s) :
    Calls Tryd.prog 57 #[.pointer (some ⟨B, 0, none⟩), .int .i64 (k : Int)] w fun en w' => en = .returned (.bool true) ∧ ∃ q, w' = (w.setCell ⟨B, 5, none⟩ (.int .i64 ((s + k : Nat) : Int))).drewN q := by
  have h0 : ¬ (k : Int) < 0 := by omega
  go_enter Tryd.func57, Tryd.ntmps57
  go_wp2_with fail
  go_quiet (fail)
  go_wp2_with fail
  go_ret
  exact ⟨rfl, _, rfl⟩
end advance

theorem neq_nil_some (w : World) (p : Addr) (n c : Nat) : (binOp .neq 101 (.slice (some p) n c) (.slice none 0 0)).run Tryd.prog w = .ok (.bool true) w :=
  run_neq_slice_nil_any w 101 5 (some p) n c 0 0 Tryd.underlying101
theorem neq_nil_none (w : World) : (binOp .neq 101 (.slice none 0 0) (.slice none 0 0)).run Tryd.prog w = .ok (.bool false) w :=
  run_neq_slice_nil_any w 101 5 none 0 0 0 0 Tryd.underlying101

set_option maxRecDepth 100000 in
set_option maxHeartbeats 1000000 in
/-- the final token -/
theorem r_final (B : Nat) (w : World) (E : Nat → Addr) (base : Nat) (Q : Exit → Act → World → Prop) (v2 : Value) (adv : Int) (g : Nat → Value) (hg : Glob w E base) (hf : ∀ o, w.frozen? ⟨B, o, none⟩ = false)
    (ta : Option Addr) (tn tc : Nat) (b : Bool) (hb : (ta = none ∧ tn = 0 ∧ tc = 0 ∧ b = false) ∨ (∃ p, ta = some p ∧ b = true)) (v3 v10 : Value) (h3 : w.cell? ⟨B, 3, none⟩ = some v3) (h10 : w.cell? ⟨B, 10, none⟩ = some v10)
    (hret : ∀ a', Fr B a' → a'.tmps[2]? = some (.bool b) → Q .ret a' ((w.setCell ⟨B, 3, none⟩ (.slice ta tn tc)).setCell ⟨B, 10, none⟩ (.bool true))) :
    Code.wp Tryd.prog m1r Q (fr B v2 (.int .i64 adv) (.slice ta tn tc) (.iface 124 (.pointer (some (E 6)))) g) w := by
  have h6 := hg.fin
  have he := eql_errs hg.errs 6 6 (by omega) (by omega)
  have HR := Lib.hid hret
  clear hret hg
  conv => arg 2; whnf
  unfold fr
  rcases hb with ⟨rfl, rfl, rfl, rfl⟩ | ⟨p, rfl, rfl⟩
  · have hq := neq_nil_none
    go_wp2
    exact HR.out _ (Fr.of _ _ rfl rfl rfl) rfl
  · have hq := fun w => neq_nil_some w p tn tc
    go_wp2
    exact HR.out _ (Fr.of _ _ rfl rfl rfl) rfl

set_option maxRecDepth 100000 in
set_option maxHeartbeats 1000000 in
/-- the split function's own error -/
theorem r_fail (B : Nat) (w : World) (E : Nat → Addr) (base : Nat) (x : Option Nat) (Q : Exit → Act → World → Prop) (v2 tokv : Value) (adv : Int) (g : Nat → Value) (hg : Glob w E base) (hf : ∀ o, w.frozen? ⟨B, o, none⟩ = false)
    (hx : ∀ d, x = some d → d < 7) (hc : w.cell? ⟨B, 7, none⟩ = some (errV E x))
    (hret : ∀ a' n, Fr B a' → a'.tmps[2]? = some (.bool false) → Q .ret a' ((errW w B E x 4).drewN n)) :
    Code.wp Tryd.prog m1r Q (fr B v2 (.int .i64 adv) tokv (.iface 124 (.pointer (some (E 4)))) g) w := by
  have h6 := hg.fin
  have he := eql_errs hg.errs 4 6 (by omega) (by omega)
  have HC := Lib.hid (setErr_any B 4 w E base x hg hx hc (hf 7))
  have HR := Lib.hid hret
  clear hret hg hx hc
  conv => arg 2; whnf
  unfold fr
  go_wp2_with fail
  refine HC.out.mono ?_
  rintro en w' ⟨rfl, n, rfl⟩
  go_wp2_with fail
  exact HR.out _ _ (Fr.of _ _ rfl rfl rfl) rfl

set_option maxRecDepth 100000 in
set_option maxHeartbeats 1000000 in
/-- an advance below 0 or beyond the data -/
theorem r_badAdvance (B c : Nat) (w : World) (E : Nat → Addr) (x : Option Nat) (Q : Exit → Act → World → Prop) (v2 tokv : Value) (adv : Int) (g : Nat → Value)
    (hcall : Calls Tryd.prog 57 #[.pointer (some ⟨B, 0, none⟩), .int .i64 adv] w fun en w' => en = .returned (.bool false) ∧ ∃ k, w' = (errW w B E x c).drewN k)
    (hret : ∀ a' n, Fr B a' → a'.tmps[2]? = some (.bool false) → Q .ret a' ((errW w B E x c).drewN n)) :
    Code.wp Tryd.prog m1r Q (fr B v2 (.int .i64 adv) tokv .nilIface g) w := by
  have HC := Lib.hid hcall
  have HR := Lib.hid hret
  clear hret hcall
  conv => arg 2; whnf
  unfold fr
  go_wp2_with fail
  refine HC.out.mono ?_
  rintro en w' ⟨rfl, n, rfl⟩
  go_wp2_with fail
  exact HR.out _ _ (Fr.of _ _ rfl rfl rfl) rfl

set_option maxRecDepth 100000 in
set_option maxHeartbeats 1000000 in
/-- no token: on -/
theorem r_none (B s' : Nat) (w : World) (Q : Exit → Act → World → Prop) (v2 : Value) (adv : Int) (g : Nat → Value)
    (hcall : Calls Tryd.prog 57 #[.pointer (some ⟨B, 0, none⟩), .int .i64 adv] w fun en w' => en = .returned (.bool true) ∧ ∃ q, w' = (w.setCell ⟨B, 5, none⟩ (.int .i64 (s' : Int))).drewN q)
    (hf : ∀ o, w.frozen? ⟨B, o, none⟩ = false) (v3 : Value) (h3 : w.cell? ⟨B, 3, none⟩ = some v3)
    (hn : ∀ a' q, Fr B a' → Q .normal a' (((w.setCell ⟨B, 5, none⟩ (.int .i64 (s' : Int))).setCell ⟨B, 3, none⟩ (.slice none 0 0)).drewN q)) :
    Code.wp Tryd.prog m1r Q (fr B v2 (.int .i64 adv) (.slice none 0 0) .nilIface g) w := by
  have HC := Lib.hid hcall
  have HR := Lib.hid hn
  clear hn hcall
  have hq := neq_nil_none
  conv => arg 2; whnf
  unfold fr
  go_wp2_with fail
  refine HC.out.mono ?_
  rintro en w' ⟨rfl, n, rfl⟩
  go_wp2_with fail
  exact HR.out _ _ (Fr.of _ _ rfl rfl rfl)

section tok
variable (B s' tn tc : Nat) (w : World) (Q : Exit → Act → World → Prop) (v2 : Value) (k : Nat) (p : Addr) (g : Nat → Value) (ev : Value) (m : Nat)

/-- the world behind a token: where it starts, the token, the count -/
abbrev tokW (w : World) (B s' : Nat) (p : Addr) (tn tc m : Nat) : World :=
  ((w.setCell ⟨B, 5, none⟩ (.int .i64 (s' : Int))).setCell ⟨B, 3, none⟩ (.slice (some p) tn tc)).setCell ⟨B, 8, none⟩ (.int .i64 (m : Int))

set_option maxRecDepth 100000 in
set_option maxHeartbeats 1000000 in
theorem r_tok_zero (hcall : Calls Tryd.prog 57 #[.pointer (some ⟨B, 0, none⟩), .int .i64 (k : Int)] w fun en w' => en = .returned (.bool true) ∧ ∃ q, w' = (w.setCell ⟨B, 5, none⟩ (.int .i64 (s' : Int))).drewN q)
    (hf : ∀ o, w.frozen? ⟨B, o, none⟩ = false) (v3 : Value) (h3 : w.cell? ⟨B, 3, none⟩ = some v3) (h8 : w.cell? ⟨B, 8, none⟩ = some (.int .i64 (m : Int))) (h7 : w.cell? ⟨B, 7, none⟩ = some ev)
    (hev : ev = .nilIface ∨ (∃ t y, ev = .iface t y) ∧ 0 < k)
    (hret : ∀ a' q, Fr B a' → a'.tmps[2]? = some (.bool true) → Q .ret a' ((tokW w B s' p tn tc 0).drewN q)) :
    Code.wp Tryd.prog m1r Q (fr B v2 (.int .i64 (k : Int)) (.slice (some p) tn tc) .nilIface g) w := by
  have HC := Lib.hid hcall
  have HR := Lib.hid hret
  clear hret hcall
  have hq := fun w => neq_nil_some w p tn tc
  conv => arg 2; whnf
  unfold fr
  rcases hev with rfl | ⟨⟨t, y, rfl⟩, hk⟩
  · go_wp2_with fail
    refine HC.out.mono ?_
    rintro en w' ⟨rfl, n, rfl⟩
    go_wp2_with fail
    exact HR.out _ _ (Fr.of _ _ rfl rfl rfl) rfl
  · go_wp2_with fail
    refine HC.out.mono ?_
    rintro en w' ⟨rfl, n, rfl⟩
    go_wp2_with fail
    exact HR.out _ _ (Fr.of _ _ rfl rfl rfl) rfl

set_option maxRecDepth 100000 in
set_option maxHeartbeats 1000000 in
theorem r_tok_more (hcall : Calls Tryd.prog 57 #[.pointer (some ⟨B, 0, none⟩), .int .i64 0] w fun en w' => en = .returned (.bool true) ∧ ∃ q, w' = (w.setCell ⟨B, 5, none⟩ (.int .i64 (s' : Int))).drewN q)
    (hf : ∀ o, w.frozen? ⟨B, o, none⟩ = false) (v3 : Value) (h3 : w.cell? ⟨B, 3, none⟩ = some v3) (h8 : w.cell? ⟨B, 8, none⟩ = some (.int .i64 (m : Int))) (h7 : w.cell? ⟨B, 7, none⟩ = some ev)
    (hev : ∃ t y, ev = .iface t y) (hm : m + 1 ≤ 100)
    (hret : ∀ a' q, Fr B a' → a'.tmps[2]? = some (.bool true) → Q .ret a' ((tokW w B s' p tn tc (m + 1)).drewN q)) :
    Code.wp Tryd.prog m1r Q (fr B v2 (.int .i64 0) (.slice (some p) tn tc) .nilIface g) w := by
  have HC := Lib.hid hcall
  have HR := Lib.hid hret
  clear hret hcall
  have hq := fun w => neq_nil_some w p tn tc
  conv => arg 2; whnf
  unfold fr
  obtain ⟨t, y, rfl⟩ := hev
  go_wp2_with fail
  refine HC.out.mono ?_
  rintro en w' ⟨rfl, n, rfl⟩
  go_wp2_with fail
  exact HR.out _ _ (Fr.of _ _ rfl rfl rfl) rfl

set_option maxRecDepth 100000 in
set_option maxHeartbeats 1000000 in
theorem r_tok_dies (hcall : Calls Tryd.prog 57 #[.pointer (some ⟨B, 0, none⟩), .int .i64 0] w fun en w' => en = .returned (.bool true) ∧ ∃ q, w' = (w.setCell ⟨B, 5, none⟩ (.int .i64 (s' : Int))).drewN q)
    (hf : ∀ o, w.frozen? ⟨B, o, none⟩ = false) (v3 : Value) (h3 : w.cell? ⟨B, 3, none⟩ = some v3) (h8 : w.cell? ⟨B, 8, none⟩ = some (.int .i64 (m : Int))) (h7 : w.cell? ⟨B, 7, none⟩ = some ev)
    (hev : ∃ t y, ev = .iface t y) (hm : 100 < m + 1) (hm2 : m ≤ 1000)
    (hret : ∀ a' q y, a'.defers = [] → Q (.panic [{ v := .iface 9 y, recovered := false }]) a' ((tokW w B s' p tn tc (m + 1)).drewN q)) :
    Code.wp Tryd.prog m1r Q (fr B v2 (.int .i64 0) (.slice (some p) tn tc) .nilIface g) w := by
  have HC := Lib.hid hcall
  have HR := Lib.hid hret
  clear hret hcall
  have hq := fun w => neq_nil_some w p tn tc
  conv => arg 2; whnf
  unfold fr
  obtain ⟨t, y, rfl⟩ := hev
  go_wp2_with fail
  refine HC.out.mono ?_
  rintro en w' ⟨rfl, n, rfl⟩
  go_wp2_with fail
  exact HR.out _ _ _ rfl
end tok
end Go.Proofs.YtkclapimgmnldaaDoor
