/-
  lined: whether the lines of a text are fixed in a room.
-/
import Derived.Test.YtkclapimgmnldaaDoorHelp
import Derived.Deep.RegionHeld3
namespace Go.Proofs.YtkclapimgmnldaaDoor
set_option linter.unusedVariables false
set_option linter.unusedSimpArgs false
set_option maxRecDepth 20000
open Go.RowKit

theorem bcell {W w1 : World} (hb : Below W.heap.size W w1) : (∀ b o, b < W.heap.size → w1.cell? ⟨b, o, none⟩ = W.cell? ⟨b, o, none⟩) ∧ (∀ b o, b < W.heap.size → w1.frozen? ⟨b, o, none⟩ = W.frozen? ⟨b, o, none⟩) :=
  ⟨fun b o h => hb.cell (p := ⟨b, o, none⟩) h, fun b o h => hb.frozen (p := ⟨b, o, none⟩) h⟩

theorem noCR_len_le (d : List UInt8) : (noCR d).length ≤ d.length := by
  unfold noCR; split
  · simp
  · exact Nat.le_refl _
theorem linesFrom_each (t : List UInt8) : ∀ (cur x : List UInt8), x ∈ linesFrom cur t → x.length ≤ cur.length + t.length := by
  induction t with
  | nil =>
    intro cur x hx
    simp only [linesFrom] at hx
    split at hx
    · cases hx
    · simp at hx; subst hx; simp
  | cons c r ih =>
    intro cur x hx
    rw [linesFrom_cons] at hx
    split at hx
    · rcases List.mem_cons.1 hx with rfl | hx
      · have := noCR_len_le cur; omega
      · have := ih [] x hx; simp at this ⊢; omega
    · have := ih _ x hx
      simp at this ⊢; omega
theorem lines_each {t : List UInt8} : ∀ x ∈ lines t, x.length ≤ t.length := fun x hx => by
  have := linesFrom_each t [] x hx
  simpa using this

abbrev roomO (d : Bool) (c m : Int) : Obj := .cells #[.bool d, .int .i64 c, .int .i64 m] 26
theorem Strs.alloc {w : World} {v : Value} {xs : List (List UInt8)} (h : Strs w v xs) (o : Obj) : Strs (w.alloc o) v xs := h.below ((Below.refl _ _).alloc (Nat.le_refl _) _)
theorem Strs.drew {w : World} {v : Value} {xs : List (List UInt8)} (h : Strs w v xs) : Strs w.drew v xs := h

theorem below_step {w W w' : World} (h : Below w.heap.size w W) (hb : Below W.heap.size W w') : Below w.heap.size w w' := h.trans (hb.mono h.size)

set_option maxRecDepth 100000 in
set_option maxHeartbeats 2000000 in
theorem lined_f1 (s : ByteArray) (d : Bool) (c m : Int) (w : World) (h1 : sizedB d c m = false) :
    Calls Tryd.prog 20 #[.string s, roomV d c m] w fun e w' => e = .returned (.bool false) ∧ Below w.heap.size w w' := by
  have H1 := Lib.hid h1
  clear h1
  go_enter Tryd.func20, Tryd.ntmps20
  go_wp2_with fail
  first
    | go_region_with ((go_at_call 12; refine (sized_any _ _ _ _).mono ?_; rintro e w' ⟨rfl, rfl⟩; rw [H1.out]))
    | skip
  all_goals
    go_wp2_with fail
    go_ret
    exact ⟨rfl, (((Below.refl _ _).alloc (Nat.le_refl _) _).alloc (by simp) _).drew⟩

set_option maxRecDepth 100000 in
set_option maxHeartbeats 2000000 in
theorem lined_f2 (s : ByteArray) (d : Bool) (c m n : Int) (w : World) (h1 : sizedB d c m = true) (hn : ((limitN d c m : Nat) : Int) = n) (h3 : decide (3 ≤ n) = false) :
    Calls Tryd.prog 20 #[.string s, roomV d c m] w fun e w' => e = .returned (.bool false) ∧ Below w.heap.size w w' := by
  have H1 := Lib.hid h1
  have HL := Lib.hid (fun w => limit_any d c m w)
  rw [hn] at HL
  clear h1 hn
  go_enter Tryd.func20, Tryd.ntmps20
  go_wp2_with fail
  first
    | go_region_with (first
      | (go_at_call 12; refine (sized_any _ _ _ _).mono ?_; rintro e w' ⟨rfl, rfl⟩; rw [H1.out])
      | (go_at_call 13; refine (HL.out _).mono ?_; rintro e w' ⟨rfl, rfl⟩))
    | skip
  all_goals
    go_wp2_with fail
    go_ret
    exact ⟨rfl, ((((Below.refl _ _).alloc (Nat.le_refl _) _).alloc (by simp) _).alloc (by simp; omega) _).drew⟩

set_option maxRecDepth 100000 in
set_option maxHeartbeats 2000000 in
theorem lined_f3 (s : ByteArray) (d : Bool) (c m n : Int) (w : World) (hs : s.size ≤ 9223372036854775807) (h1 : sizedB d c m = true) (hn : ((limitN d c m : Nat) : Int) = n) (h3 : decide (3 ≤ n) = true) (h4 : looseB s.data.toList = true) :
    Calls Tryd.prog 20 #[.string s, roomV d c m] w fun e w' => e = .returned (.bool false) ∧ Below w.heap.size w w' := by
  have H1 := Lib.hid h1
  have HL := Lib.hid (fun w => limit_any d c m w)
  rw [hn] at HL
  have H4 := Lib.hid (fun w => loose_any s w hs)
  rw [h4] at H4
  clear h1 hn h4
  go_enter Tryd.func20, Tryd.ntmps20
  go_wp2_with fail
  first
    | go_region_with (first
      | (go_at_call 12; refine (sized_any _ _ _ _).mono ?_; rintro e w' ⟨rfl, rfl⟩; rw [H1.out])
      | (go_at_call 13; refine (HL.out _).mono ?_; rintro e w' ⟨rfl, rfl⟩)
      | (go_at_call 23; refine (H4.out _).mono ?_; rintro e w' ⟨rfl, rfl⟩))
    | skip
  all_goals
    go_wp2_with fail
    go_ret
    exact ⟨rfl, ((((Below.refl _ _).alloc (Nat.le_refl _) _).alloc (by simp) _).alloc (by simp; omega) _).drew⟩

set_option maxRecDepth 100000 in
set_option maxHeartbeats 2000000 in
theorem lined_f4 (s : ByteArray) (d : Bool) (c m n : Int) (w : World) (hs : s.size ≤ 4194304) (h1 : sizedB d c m = true) (hn : ((limitN d c m : Nat) : Int) = n) (h3 : decide (3 ≤ n) = true) (h4 : looseB s.data.toList = false) :
    Calls Tryd.prog 20 #[.string s, roomV d c m] w fun e w' => e = .returned (.bool (belowB (lines s.data.toList) 2 n)) ∧ Below w.heap.size w w' := by
  have hl := lines_len s.data.toList
  have hll : s.data.toList.length = s.size := by simp
  have hcap : (lines s.data.toList).length * 16 ≤ 140737488355328 := by omega
  have HLen := Lib.hid (fun x hx => Nat.le_trans (lines_each (t := s.data.toList) x hx) (by omega : s.data.toList.length ≤ 9000000000000000000))
  have HLines := Lib.hid (fun w => specLines_any s w (by omega) hcap)
  have H1 := Lib.hid h1
  have HL := Lib.hid (fun w => limit_any d c m w)
  rw [hn] at HL
  have H4 := Lib.hid (fun w => loose_any s w (by omega))
  rw [h4] at H4
  clear h1 hn h4 hcap hll hl
  generalize lines s.data.toList = ls at *
  have HBel := Lib.hid (fun v w (h : Strs w v ls) => below_any v ls 2 n w h (by omega) (by omega) HLen.out)
  generalize belowB ls 2 n = k at *
  have HW := Lib.hid (fun w' hb => below_step (((((Below.refl w.heap.size w).alloc (Nat.le_refl _) (roomO d c m)).alloc (by simp) (roomO d c m)).alloc (by simp; omega) (roomO d c m)).drew) (w' := w') hb)
  go_enter Tryd.func20, Tryd.ntmps20
  go_wp2_with fail
  first
    | go_region_with (first
      | (go_at_call 12; refine (sized_any _ _ _ _).mono ?_; rintro e w' ⟨rfl, rfl⟩; rw [H1.out])
      | (go_at_call 13; refine (HL.out _).mono ?_; rintro e w' ⟨rfl, rfl⟩)
      | (go_at_call 23; refine (H4.out _).mono ?_; rintro e w' ⟨rfl, rfl⟩)
      | (go_at_call 25; refine (HLines.out _).mono ?_; rintro e w' ⟨v, rfl, hst, hb⟩; obtain ⟨hc, hf⟩ := bcell hb; have HST := Lib.hid hst.strs; have HBB := Lib.hid hb; clear hst hb)
      | (go_at_call 41; refine (HBel.out _ _ ?_).mono ?_; (repeat (first | exact HST.out | refine Strs.alloc ?_ _ | refine Strs.drew ?_)); rintro e w' ⟨rfl, rfl⟩))
    | skip
  all_goals
    go_wp2_with fail
    go_ret
    exact ⟨rfl, (HW.out _ HBB.out).alloc (HW.out _ HBB.out).size _⟩

/-- lined -/
theorem lined_any (s : ByteArray) (d : Bool) (c m : Int) (w : World) (hs : s.size ≤ 4194304) :
    Calls Tryd.prog 20 #[.string s, roomV d c m] w fun e w' => e = .returned (.bool (linedB s.data.toList d c m)) ∧ Below w.heap.size w w' := by
  unfold linedB
  cases h1 : sizedB d c m with
  | false => simpa using lined_f1 s d c m w h1
  | true =>
    by_cases h2 : 3 ≤ limitN d c m
    · rw [decide_eq_true h2]
      have h3 : decide ((3 : Int) ≤ ((limitN d c m : Nat) : Int)) = true := by rw [decide_eq_true_eq]; omega
      cases h4 : looseB s.data.toList with
      | true => simpa using lined_f3 s d c m _ w (by omega) h1 rfl h3 h4
      | false => simpa using lined_f4 s d c m _ w hs h1 rfl h3 h4
    · rw [decide_eq_false h2]
      have h3 : decide ((3 : Int) ≤ ((limitN d c m : Nat) : Int)) = false := by rw [decide_eq_false_iff_not]; omega
      simpa using lined_f2 s d c m _ w h1 rfl h3

end Go.Proofs.YtkclapimgmnldaaDoor
