/-
  FnScript: where it says nothing.
-/
import Derived.Test.YtkclapimgmnldaaDoorQScrL
namespace Go.Proofs.YtkclapimgmnldaaDoor
set_option linter.unusedVariables false
set_option linter.unusedSimpArgs false
set_option maxRecDepth 20000
open Go.RowKit

section
variable {w : World} {E : Nat → Addr} {s : ByteArray} {pa : Option Addr} {pcs : List Int} {pc : Nat} {tog d rep : Bool} {c m n : Int} {xp : Option Addr} {xc : Nat} {rs : List Rep}
set_option maxRecDepth 100000 in
set_option maxHeartbeats 2000000 in
theorem fnScript_e (br : Bool) (hn : n < 0 ∨ 300 < n) :
    Calls Tryd.prog 10 #[srcL s pa pcs.length pc tog br, roomV d c m, .agg #[.slice xp rs.length xc, .bool rep], .int .i64 n] w (TrueB w) := by
  have hb := Lib.hid (lawX_below w s pa pcs.length pc tog br d c m xp rs.length xc rep)
  by_cases h1 : n < 0
  · have d1 : decide (n < 0) = true := decide_eq_true h1
    go_enter Tryd.func10, Tryd.ntmps10
    go_wp2_with fail
    go_quiet (fail)
    go_wp2_with fail
    go_ret
    exact ⟨rfl, bel_drewR hb.out _⟩
  · have d1 : decide (n < 0) = false := decide_eq_false h1
    have d2 : decide (300 < n) = true := decide_eq_true (by omega)
    go_enter Tryd.func10, Tryd.ntmps10
    go_wp2_with fail
    go_quiet (fail)
    go_wp2_with fail
    go_ret
    exact ⟨rfl, bel_drewR hb.out _⟩
set_option maxRecDepth 100000 in
set_option maxHeartbeats 4000000 in
theorem fnScript_e3 (br : Bool) (hn : 0 ≤ n ∧ n ≤ 300) (hsz : sizedB d c m = false) :
    Calls Tryd.prog 10 #[srcL s pa pcs.length pc tog br, roomV d c m, .agg #[.slice xp rs.length xc, .bool rep], .int .i64 n] w (TrueB w) := by
  have H1 := Lib.hid hsz
  have d1 : decide (n < 0) = false := decide_eq_false (by omega)
  have d2 : decide (300 < n) = false := decide_eq_false (by omega)
  clear hsz hn
  go_enter Tryd.func10, Tryd.ntmps10
  go_wp2_with fail
  first
    | go_region_with ((go_at_call 12; refine (sized_any _ _ _ _).mono ?_; rintro e w' ⟨rfl, rfl⟩; rw [H1.out]))
    | skip
  all_goals
    go_wp2_with fail
    go_ret
    refine ⟨rfl, ?_⟩
    repeat (first | exact Below.refl _ _ | refine bel_al ?_ _ | refine bel_dr ?_)
set_option maxRecDepth 100000 in
set_option maxHeartbeats 4000000 in
theorem fnScript_e4 (br : Bool) (hn : 0 ≤ n ∧ n ≤ 300) (hs : s.size ≤ 140737488355328) (hsz : sizedB d c m = true) (lim : Nat) (hl : limitN d c m = lim) (h4 : lim ≤ s.size + 1) :
    Calls Tryd.prog 10 #[srcL s pa pcs.length pc tog br, roomV d c m, .agg #[.slice xp rs.length xc, .bool rep], .int .i64 n] w (TrueB w) := by
  have H1 := Lib.hid hsz
  have HL := Lib.hid (fun w => limit_any d c m w)
  rw [hl] at HL
  have d1 : decide (n < 0) = false := decide_eq_false (by omega)
  have d2 : decide (300 < n) = false := decide_eq_false (by omega)
  have hwr : IntKind.i64.wrap ((s.size : Int) + 1) = (s.size : Int) + 1 := by rw [IntKind.wrap_i64]; omega
  have d3 : decide ((lim : Int) ≤ (s.size : Int) + 1) = true := decide_eq_true (by omega)
  have d3n : decide (lim ≤ s.size + 1) = true := decide_eq_true h4
  have HX0 := Lib.hid (bel_dr (lawX_refl w s pa pcs.length pc tog br d c m xp rs.length xc rep))
  clear hsz hn hl
  go_enter Tryd.func10, Tryd.ntmps10
  go_wp2_with fail
  first
    | go_region_with (first
      | (go_at_call 12; refine (sized_any _ _ _ _).mono ?_; rintro e w' ⟨rfl, rfl⟩; rw [H1.out])
      | (go_at_call 13; refine (HL.out _).mono ?_; rintro e w' ⟨rfl, rfl⟩))
    | skip
  all_goals
    go_wp2_with fail
    go_ret
    refine ⟨rfl, ?_⟩
    repeat (first | exact Below.refl _ _ | refine bel_al ?_ _ | refine bel_dr ?_)
set_option maxRecDepth 100000 in
set_option maxHeartbeats 4000000 in
theorem fnScript_e5 (br : Bool) (hn : 0 ≤ n ∧ n ≤ 300) (hs : s.size ≤ 140737488355328) (hsz : sizedB d c m = true) (lim : Nat) (hl : limitN d c m = lim) (h4 : s.size + 1 < lim) (h5 : lim < 3) :
    Calls Tryd.prog 10 #[srcL s pa pcs.length pc tog br, roomV d c m, .agg #[.slice xp rs.length xc, .bool rep], .int .i64 n] w (TrueB w) := by
  have H1 := Lib.hid hsz
  have HL := Lib.hid (fun w => limit_any d c m w)
  rw [hl] at HL
  have d1 : decide (n < 0) = false := decide_eq_false (by omega)
  have d2 : decide (300 < n) = false := decide_eq_false (by omega)
  have hwr : IntKind.i64.wrap ((s.size : Int) + 1) = (s.size : Int) + 1 := by rw [IntKind.wrap_i64]; omega
  have d3 : decide ((lim : Int) ≤ (s.size : Int) + 1) = false := decide_eq_false (by omega)
  have d4 : decide ((lim : Int) < 3) = true := decide_eq_true (by omega)
  have d3n : decide (lim ≤ s.size + 1) = false := decide_eq_false (by omega)
  have d4n : decide (lim < 3) = true := decide_eq_true h5
  have HX0 := Lib.hid (bel_dr (lawX_refl w s pa pcs.length pc tog br d c m xp rs.length xc rep))
  clear hsz hn hl
  go_enter Tryd.func10, Tryd.ntmps10
  go_wp2_with fail
  first
    | go_region_with (first
      | (go_at_call 12; refine (sized_any _ _ _ _).mono ?_; rintro e w' ⟨rfl, rfl⟩; rw [H1.out])
      | (go_at_call 13; refine (HL.out _).mono ?_; rintro e w' ⟨rfl, rfl⟩))
    | skip
  all_goals
    go_wp2_with fail
    go_ret
    refine ⟨rfl, ?_⟩
    repeat (first | exact Below.refl _ _ | refine bel_al ?_ _ | refine bel_dr ?_)
end
end Go.Proofs.YtkclapimgmnldaaDoor
