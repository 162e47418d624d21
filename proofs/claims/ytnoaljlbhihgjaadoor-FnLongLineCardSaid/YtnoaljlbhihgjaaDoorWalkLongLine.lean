/-
  The walk of FnLongLine.
-/
import Derived.Test.YtnoaljlbhihgjaaDoorLongLine
import Derived.Test.YtnoaljlbhihgjaaDoorLaw
namespace Go.Proofs.YtnoaljlbhihgjaaDoor
set_option linter.unusedVariables false
set_option linter.unusedSimpArgs false
set_option maxRecDepth 20000
open Go.RowKit

theorem nlAt_a (N : Nat) : nlAt (List.replicate N 97) = none := by
  induction N with
  | zero => rfl
  | succ N ih =>
    rw [List.replicate_succ]
    unfold nlAt
    rw [if_neg (by decide), ih]; rfl
theorem lines_a {N : Nat} (h : 0 < N) : lines (List.replicate N 97) = [List.replicate N 97] := lines_none (nlAt_a N) (fun e => by have := congrArg List.length e; simp at this; omega)
theorem last_a (N : Nat) : (List.replicate N (97 : UInt8)).getLast? ≠ some 13 := by
  intro h
  have := List.mem_of_getLast? h
  rw [List.mem_replicate] at this
  exact absurd this.2 (by decide)
/-- the one line, or none -/
def oneA (N : Nat) : List (List UInt8) := if N = 0 then [] else [List.replicate N 97]
theorem tokens_a (N : Nat) : tokens (List.replicate N 97) = oneA N := by
  rw [tokens_lines _ _ (Nat.le_refl _) (last_a N)]
  unfold oneA
  by_cases h : N = 0
  · subst h; rfl
  · rw [if_neg h, lines_a (by omega)]
theorem oneA_len (N : Nat) : (oneA N).length = min N 1 := by unfold oneA; split <;> simp <;> omega
theorem oneA_flat (N : Nat) : (oneA N).flatten.length = N := by unfold oneA; split <;> simp <;> omega
theorem roomy_a {N lim : Nat} (h : N + 2 < lim) : Roomy lim (List.replicate N 97) := by
  intro l hl
  by_cases h0 : N = 0
  · subst h0; rw [show List.replicate 0 (97 : UInt8) = [] from rfl, lines_nil] at hl; cases hl
  · rw [lines_a (by omega)] at hl
    simp at hl
    subst hl
    simpa using h

section
variable {base : Nat} {w : World} {E : Nat → Addr} {d : Bool} {c m : Int}
theorem longLine_fit (N : Nat) (hE : EnvC base w E) (hN : N ≤ 1000000) (hsz : sizedB d c m = true) (h : N + 2 < limitN d c m) :
    Calls Tryd.prog 34 #[.int .i64 (N : Int), roomV d c m] w (LongPost (oneA N) 0 w) := by
  have hs : (⟨(List.replicate N 97).toArray⟩ : ByteArray).data.toList = List.replicate N 97 := by simp
  have hr := lines_all (lim := limitN d c m) false 0 ⟨(List.replicate N 97).toArray⟩ (by omega) (by rw [hs]; exact roomy_a h)
  rw [hs] at hr
  have hsz' : (⟨(List.replicate N 97).toArray⟩ : ByteArray).size = N := by simp [ByteArray.size]
  rw [hsz'] at hr
  exact longLine_gen N d hE hN hsz (EndsL 0 (List.replicate N 97)) N (by omega) hr (oneA N) (by rw [oneA_flat]; omega) (by rw [oneA_len]; omega) 0 (.inl rfl) (fun ts x h => ⟨h.1.trans (tokens_a N), h.2.2.2.2⟩)
theorem longLine_long (N : Nat) (hE : EnvC base w E) (hN : N ≤ 1000000) (hsz : sizedB d c m = true) (h3 : 3 ≤ limitN d c m) (h : limitN d c m ≤ N) :
    Calls Tryd.prog 34 #[.int .i64 (N : Int), roomV d c m] w (LongPost [] 1 w) := by
  have hs : (⟨(List.replicate N 97).toArray⟩ : ByteArray).data.toList = List.replicate N 97 := by simp
  have hl := lines_a (N := N) (by omega)
  have hL : LongAt (limitN d c m) false 0 (List.replicate N 97) := longAt_of _ false 0 _ (by rw [hl]; simp) (fun l hl => by simp at hl) (.inr ⟨rfl, by simp [hl]; exact h⟩)
  have hr := long_runs (limitN d c m) false 0 (by omega) 0 (newSm ⟨(List.replicate N 97).toArray⟩) [] ⟨⟨rfl, rfl, .inl rfl⟩, by simp, by simp⟩ (by
    show LongAt _ _ 0 ((⟨(List.replicate N 97).toArray⟩ : ByteArray).data.toList)
    rw [hs]; exact hL)
  exact longLine_gen N d hE hN hsz _ 0 (by omega) hr [] (by simp) (by simp) 1 (.inr ⟨by omega, by omega⟩) (fun ts x h => ⟨by simpa using h.1, h.2⟩)

theorem longLine_fit2 (N : Nat) (hE : EnvC base w E) (hN : N ≤ 1000000) (hsz : sizedB d c m = true) (h : N + 2 < limitN d c m) :
    Calls Tryd.prog 34 #[.int .i64 (N : Int), roomV d c m] w fun e w' => e = .returned (.tuple #[.int .i64 (min (N : Int) 1), .int .i64 (N : Int), .int .i64 0]) ∧ Below w.heap.size w w' := by
  refine (longLine_fit N hE hN hsz h).mono ?_
  rintro e w' ⟨rfl, hb⟩
  refine ⟨?_, hb⟩
  have h1 : (((oneA N).length : Nat) : Int) = min (N : Int) 1 := by rw [oneA_len]; omega
  rw [oneA_flat, h1]

/-- the box -/
theorem one_cells {w w1 : World} (hb : Below (w.heap.size + 1) (w.alloc (roomO d c m)) w1) : w1.cell? ⟨w.heap.size, 0, none⟩ = some (.bool d) ∧ w1.cell? ⟨w.heap.size, 1, none⟩ = some (.int .i64 c) ∧ w1.cell? ⟨w.heap.size, 2, none⟩ = some (.int .i64 m) := by
  have h0 : w1.heap[w.heap.size]? = some (roomO d c m) := (hb.block _ (by omega)).trans (heap_new w _)
  exact ⟨cell_of_heap h0, cell_of_heap h0, cell_of_heap h0⟩
theorem one_step {w w1 w2 : World} (h : Below (w.heap.size + 1) (w.alloc (roomO d c m)) w1) (hb : Below w1.heap.size w1 w2) : Below (w.heap.size + 1) (w.alloc (roomO d c m)) w2 := h.trans (hb.mono (by have := h.size; simp at this; omega))
theorem one_base {w w1 : World} (h : Below (w.heap.size + 1) (w.alloc (roomO d c m)) w1) : Below w.heap.size w w1 := ((Below.refl _ _).alloc (Nat.le_refl _) _).trans (h.mono (by omega))

set_option maxRecDepth 100000 in
set_option maxHeartbeats 2000000 in
theorem fnLongLine_f (n : Int) (hn : n < 0 ∨ 1000000 < n) : Calls Tryd.prog 14 #[.int .i64 n, roomV d c m] w (TrueB w) := by
  rcases hn with hn | hn
  · have h1 : decide (n < 0) = true := decide_eq_true hn
    go_enter Tryd.func14, Tryd.ntmps14
    go_wp2_with fail
    go_ret
    exact ⟨rfl, (Below.refl _ _).alloc (Nat.le_refl _) _⟩
  · have h1 : decide (n < 0) = false := decide_eq_false (by omega)
    have h2 : decide (1000000 < n) = true := decide_eq_true hn
    go_enter Tryd.func14, Tryd.ntmps14
    go_wp2_with fail
    go_ret
    exact ⟨rfl, (Below.refl _ _).alloc (Nat.le_refl _) _⟩

set_option maxRecDepth 100000 in
set_option maxHeartbeats 2000000 in
theorem fnLongLine_t (N : Nat) (hE : EnvC w.heap.size w E) (hN : N ≤ 1000000) : Calls Tryd.prog 14 #[.int .i64 (N : Int), roomV d c m] w (TrueB w) := by
  have HZ := Lib.hid (fun w => sized_any d c m w)
  have HLm := Lib.hid (fun w => limit_any d c m w)
  have g1 : decide ((N : Int) < 0) = false := decide_eq_false (by omega)
  have g2 : decide (1000000 < (N : Int)) = false := decide_eq_false (by omega)
  have HE := Lib.hid hE
  have HB1 := Lib.hid ((Below.refl (w.heap.size + 1) (w.alloc (roomO d c m))).alloc (by simp) (roomO d c m))
  have HB2 := Lib.hid (HB1.out.alloc (by simp) (roomO d c m))
  have HB3 := Lib.hid (HB2.out.alloc (by simp) (roomO d c m))
  have HB4 := Lib.hid (HB3.out.alloc (by simp) (roomO d c m))
  cases hsz : sizedB d c m with
  | false =>
    rw [hsz] at HZ
    clear hE hsz HE
    go_enter Tryd.func14, Tryd.ntmps14
    go_wp2_with fail
    refine (HZ.out _).mono ?_
    rintro e w1 ⟨rfl, rfl⟩
    go_wp2_with fail
    go_ret
    exact ⟨rfl, one_base HB1.out⟩
  | true =>
    rw [hsz] at HZ
    have hlb := limitN_le hsz
    by_cases h3 : limitN d c m < 3
    · have g3 : decide (((limitN d c m : Nat) : Int) < 3) = true := decide_eq_true (by omega)
      clear hE hsz HE h3
      generalize limitN d c m = l at *
      go_enter Tryd.func14, Tryd.ntmps14
      go_wp2_with fail
      refine (HZ.out _).mono ?_
      rintro e w1 ⟨rfl, rfl⟩
      go_wp2_with fail
      refine (HLm.out _).mono ?_
      rintro e w1 ⟨rfl, rfl⟩
      go_wp2_with fail
      go_ret
      exact ⟨rfl, one_base HB2.out⟩
    · have g3 : decide (((limitN d c m : Nat) : Int) < 3) = false := decide_eq_false (by omega)
      by_cases h4 : limitN d c m ≤ N + 2
      · have g4 : decide (((limitN d c m : Nat) : Int) ≤ (N : Int) + 2) = true := decide_eq_true (by omega)
        by_cases h5 : N < limitN d c m
        · have g5 : decide (N < limitN d c m) = true := decide_eq_true (by omega)
          clear hE hsz HE h3 h4 h5
          generalize limitN d c m = l at *
          go_enter Tryd.func14, Tryd.ntmps14
          go_wp2_with fail
          refine (HZ.out _).mono ?_
          rintro e w1 ⟨rfl, rfl⟩
          go_wp2_with fail
          refine (HLm.out _).mono ?_
          rintro e w1 ⟨rfl, rfl⟩
          go_wp2_with fail
          refine (HLm.out _).mono ?_
          rintro e w1 ⟨rfl, rfl⟩
          go_wp2_with fail
          refine (HLm.out _).mono ?_
          rintro e w1 ⟨rfl, rfl⟩
          go_wp2_with fail
          go_ret
          exact ⟨rfl, one_base HB4.out⟩
        · have g5 : decide (N < limitN d c m) = false := decide_eq_false (by omega)
          have g6 : decide (limitN d c m ≤ N) = true := decide_eq_true (by omega)
          have HA := Lib.hid (fun w' (h : EnvC w.heap.size w' E) => longLine_long (d := d) (c := c) (m := m) N h hN hsz (by omega) (by omega))
          clear hE hsz h3 h4 h5
          generalize limitN d c m = l at *
          go_enter Tryd.func14, Tryd.ntmps14
          go_wp2_with fail
          refine (HZ.out _).mono ?_
          rintro e w1 ⟨rfl, rfl⟩
          go_wp2_with fail
          refine (HLm.out _).mono ?_
          rintro e w1 ⟨rfl, rfl⟩
          go_wp2_with fail
          refine (HLm.out _).mono ?_
          rintro e w1 ⟨rfl, rfl⟩
          go_wp2_with fail
          refine (HLm.out _).mono ?_
          rintro e w1 ⟨rfl, rfl⟩
          go_wp2_with fail
          refine (toRoom_any _ _ _ _).mono ?_
          rintro e w5 ⟨rfl, hb5⟩
          have HB5 := Lib.hid (one_step HB4.out hb5)
          clear hb5
          go_wp2_with fail
          refine (HA.out _ (HE.out.later (one_base HB5.out))).mono ?_
          rintro e w6 ⟨rfl, hb6⟩
          have HB6 := Lib.hid (one_step HB5.out hb6)
          obtain ⟨a0, a1, a2⟩ := one_cells HB6.out
          clear hb6 HB1 HB2 HB3 HB4 HB5
          simp only [List.length_nil, List.flatten_nil] at *
          go_wp2_with fail
          refine (HLm.out _).mono ?_
          rintro e w7 ⟨rfl, rfl⟩
          have HB7 := Lib.hid (HB6.out.alloc (by have := HB6.out.size; simpa using this) (roomO d c m))
          clear a0 a1 a2
          go_wp2_with fail
          go_ret
          exact ⟨rfl, one_base HB7.out⟩
      · have g4 : decide (((limitN d c m : Nat) : Int) ≤ (N : Int) + 2) = false := decide_eq_false (by omega)
        have g6 : decide (limitN d c m ≤ N) = false := decide_eq_false (by omega)
        have HA := Lib.hid (fun w' (h : EnvC w.heap.size w' E) => longLine_fit2 (d := d) (c := c) (m := m) N h hN hsz (by omega))
        have gq : (min (N : Int) 1 == min (N : Int) 1) = true := by simp
        have gr : ((N : Int) == (N : Int)) = true := by simp
        clear hE hsz h3 h4
        generalize limitN d c m = l at *
        go_enter Tryd.func14, Tryd.ntmps14
        go_wp2_with fail
        refine (HZ.out _).mono ?_
        rintro e w1 ⟨rfl, rfl⟩
        go_wp2_with fail
        refine (HLm.out _).mono ?_
        rintro e w1 ⟨rfl, rfl⟩
        go_wp2_with fail
        refine (HLm.out _).mono ?_
        rintro e w1 ⟨rfl, rfl⟩
        go_wp2_with fail
        refine (toRoom_any _ _ _ _).mono ?_
        rintro e w5 ⟨rfl, hb5⟩
        have HB5 := Lib.hid (one_step HB3.out hb5)
        clear hb5
        go_wp2_with fail
        refine (HA.out _ (HE.out.later (one_base HB5.out))).mono ?_
        rintro e w6 ⟨rfl, hb6⟩
        have HB6 := Lib.hid (one_step HB5.out hb6)
        obtain ⟨a0, a1, a2⟩ := one_cells HB6.out
        clear hb6 HB1 HB2 HB3 HB4 HB5
        go_wp2_with fail
        refine (HLm.out _).mono ?_
        rintro e w7 ⟨rfl, rfl⟩
        have HB7 := Lib.hid (HB6.out.alloc (by have := HB6.out.size; simpa using this) (roomO d c m))
        clear a0 a1 a2
        go_wp2_with fail
        go_ret
        exact ⟨rfl, one_base HB7.out⟩

theorem fnLongLine_walk (n : Int) (d : Bool) (hE : EnvC w.heap.size w E) : Calls Tryd.prog 14 #[.int .i64 n, roomV d c m] w (TrueB w) := by
  by_cases h : n < 0 ∨ 1000000 < n
  · exact fnLongLine_f n h
  · obtain ⟨N, rfl⟩ : ∃ N : Nat, n = (N : Int) := ⟨n.toNat, by omega⟩
    exact fnLongLine_t N hE (by omega)
end
end Go.Proofs.YtnoaljlbhihgjaaDoor
