/-
  worded: whether the words of a text have room; what the laws' walks on words share.
-/
import Derived.Test.YtkclapimgmnldaaDoorQO
import Derived.Test.YtkclapimgmnldaaDoorQSpecWords
import Derived.Test.YtkclapimgmnldaaDoorQWordRuns
import Derived.Test.YtkclapimgmnldaaDoorQFromW
namespace Go.Proofs.YtkclapimgmnldaaDoor
set_option linter.unusedVariables false
set_option linter.unusedSimpArgs false
set_option maxRecDepth 20000
open Go.RowKit

set_option maxRecDepth 100000 in
set_option maxHeartbeats 2000000 in
theorem worded_f1 (s : ByteArray) (d : Bool) (c m : Int) (w : World) (h1 : sizedB d c m = false) :
    Calls Tryd.prog 27 #[.string s, roomV d c m] w fun e w' => e = .returned (.bool false) ∧ Below w.heap.size w w' := by
  have H1 := Lib.hid h1
  clear h1
  go_enter Tryd.func27, Tryd.ntmps27
  go_wp2_with fail
  first
    | go_region_with ((go_at_call 12; refine (sized_any _ _ _ _).mono ?_; rintro e w' ⟨rfl, rfl⟩; rw [H1.out]))
    | skip
  all_goals
    go_wp2_with fail
    go_ret
    exact ⟨rfl, (((Below.refl _ _).alloc (Nat.le_refl _) _).alloc (by simp) _).drew⟩

set_option maxRecDepth 100000 in
set_option maxHeartbeats 2000000 in
theorem worded_f2 (s : ByteArray) (d : Bool) (c m n : Int) (w : World) (h1 : sizedB d c m = true) (hn : ((limitN d c m : Nat) : Int) = n) (h3 : decide (5 ≤ n) = false) :
    Calls Tryd.prog 27 #[.string s, roomV d c m] w fun e w' => e = .returned (.bool false) ∧ Below w.heap.size w w' := by
  have H1 := Lib.hid h1
  have HL := Lib.hid (fun w => limit_any d c m w)
  rw [hn] at HL
  clear h1 hn
  go_enter Tryd.func27, Tryd.ntmps27
  go_wp2_with fail
  first
    | go_region_with (first
      | (go_at_call 12; refine (sized_any _ _ _ _).mono ?_; rintro e w' ⟨rfl, rfl⟩; rw [H1.out])
      | (go_at_call 13; refine (HL.out _).mono ?_; rintro e w' ⟨rfl, rfl⟩))
    | skip
  all_goals
    go_wp2_with fail
    go_ret
    exact ⟨rfl, ((((Below.refl _ _).alloc (Nat.le_refl _) _).alloc (by simp) _).alloc (by simp; omega) _).drew⟩

set_option maxRecDepth 100000 in
set_option maxHeartbeats 2000000 in
theorem worded_f4 (s : ByteArray) (d : Bool) (c m n : Int) (w : World) (hs : s.size ≤ 4194304) (h1 : sizedB d c m = true) (hn : ((limitN d c m : Nat) : Int) = n) (h3 : decide (5 ≤ n) = true) :
    Calls Tryd.prog 27 #[.string s, roomV d c m] w fun e w' => e = .returned (.bool (belowB (words s.data.toList) 4 n)) ∧ Below w.heap.size w w' := by
  have hl := words_len _ s.data.toList (Nat.le_refl _)
  have hll : s.data.toList.length = s.size := by simp
  have hcap : (words s.data.toList).length * 16 ≤ 140737488355328 := by omega
  have HLen := Lib.hid (fun x hx => Nat.le_trans (words_small _ s.data.toList (Nat.le_refl _) x hx) (by omega : s.data.toList.length ≤ 9000000000000000000))
  have HLines := Lib.hid (fun w => specWords_any s w (by omega) hcap)
  have H1 := Lib.hid h1
  have HL := Lib.hid (fun w => limit_any d c m w)
  rw [hn] at HL
  clear h1 hn hcap hll hl
  generalize words s.data.toList = ls at *
  have HBel := Lib.hid (fun v w (h : Strs w v ls) => below_any v ls 4 n w h (by omega) (by omega) HLen.out)
  generalize belowB ls 4 n = k at *
  have HW := Lib.hid (fun w' hb => below_step (((((Below.refl w.heap.size w).alloc (Nat.le_refl _) (roomO d c m)).alloc (by simp) (roomO d c m)).alloc (by simp; omega) (roomO d c m)).drew) (w' := w') hb)
  go_enter Tryd.func27, Tryd.ntmps27
  go_wp2_with fail
  first
    | go_region_with (first
      | (go_at_call 12; refine (sized_any _ _ _ _).mono ?_; rintro e w' ⟨rfl, rfl⟩; rw [H1.out])
      | (go_at_call 13; refine (HL.out _).mono ?_; rintro e w' ⟨rfl, rfl⟩)
      | (go_at_call 29; refine (HLines.out _).mono ?_; rintro e w' ⟨v, rfl, hst, hb⟩; obtain ⟨hc, hf⟩ := bcell hb; have HST := Lib.hid hst.strs; have HBB := Lib.hid hb; clear hst hb)
      | (go_at_call 41; refine (HBel.out _ _ ?_).mono ?_; (repeat (first | exact HST.out | refine Strs.alloc ?_ _ | refine Strs.drew ?_)); rintro e w' ⟨rfl, rfl⟩))
    | skip
  all_goals
    go_wp2_with fail
    go_ret
    exact ⟨rfl, (HW.out _ HBB.out).alloc (HW.out _ HBB.out).size _⟩

/-- the words of a text have room -/
def wordedB (t : List UInt8) (d : Bool) (c m : Int) : Bool := sizedB d c m && decide (5 ≤ limitN d c m) && belowB (words t) 4 (limitN d c m)
/-- worded -/
theorem worded_any (s : ByteArray) (d : Bool) (c m : Int) (w : World) (hs : s.size ≤ 4194304) :
    Calls Tryd.prog 27 #[.string s, roomV d c m] w fun e w' => e = .returned (.bool (wordedB s.data.toList d c m)) ∧ Below w.heap.size w w' := by
  unfold wordedB
  cases h1 : sizedB d c m with
  | false => simpa using worded_f1 s d c m w h1
  | true =>
    by_cases h2 : 5 ≤ limitN d c m
    · rw [decide_eq_true h2]
      have h3 : decide ((5 : Int) ≤ ((limitN d c m : Nat) : Int)) = true := by rw [decide_eq_true_eq]; omega
      simpa using worded_f4 s d c m _ w hs h1 rfl h3
    · rw [decide_eq_false h2]
      have h3 : decide ((5 : Int) ≤ ((limitN d c m : Nat) : Int)) = false := by rw [decide_eq_false_iff_not]; omega
      simpa using worded_f2 s d c m _ w h1 rfl h3
/-- worded, at any room -/
theorem worded_r {s : ByteArray} (d : Bool) (c m : Int) (w : World) (hs : s.size ≤ 4194304) (b : Bool) (h : wordedB s.data.toList d c m = b) :
    Calls Tryd.prog 27 #[.string s, roomV d c m] w fun e w' => e = .returned (.bool b) ∧ Below w.heap.size w w' := by
  subst h
  exact worded_any s d c m w hs
theorem belowB_roomyW {t : List UInt8} {n : Nat} (h5 : 5 ≤ n) (h : belowB (words t) 4 n = true) : RoomyW n t := by
  refine ⟨h5, fun l hl => ?_⟩
  unfold belowB at h
  have := List.all_eq_true.1 h l hl
  simp at this
  omega
/-- .. and what it says -/
theorem wordedB_of {t : List UInt8} {d : Bool} {c m : Int} (h : wordedB t d c m = true) : sizedB d c m = true ∧ RoomyW (limitN d c m) t := by
  unfold wordedB at h
  simp only [Bool.and_eq_true, decide_eq_true_eq] at h
  obtain ⟨⟨h1, h2⟩, h3⟩ := h
  exact ⟨h1, belowB_roomyW h2 h3⟩
open Go.RowKit

/-- what the walks lean on: the errors and the two tables -/
structure EnvT (base : Nat) (w : World) (E : Nat → Addr) : Prop where
  e : Env base w E
  t : TabsB base w
theorem EnvT.later {base : Nat} {w w' : World} {E : Nat → Addr} (h : EnvT base w E) (hb : Below w.heap.size w w') : EnvT base w' E := ⟨h.e.later hb, h.t.later h.e.le hb⟩
structure EnvW (base : Nat) (w : World) (E : Nat → Addr) : Prop where
  c : EnvC base w E
  t : TabsB base w
theorem EnvW.later {base : Nat} {w w' : World} {E : Nat → Addr} (h : EnvW base w E) (hb : Below w.heap.size w w') : EnvW base w' E := ⟨h.c.later hb, h.t.later h.c.e.le hb⟩

theorem specWordsG (s : ByteArray) (w : World) (hs : s.size ≤ 4194304) : Calls Tryd.prog 29 #[.string s] w (GivesL (words s.data.toList) w) := by
  have hl := words_len _ s.data.toList (Nat.le_refl _)
  have hll : s.data.toList.length = s.size := by simp
  exact specWords_any s w (by omega) (by omega)
/-- worded, at a room of its own -/
theorem worded_t {s : ByteArray} (w : World) (hs : s.size ≤ 4194304) (b : Bool) (h : wordedB s.data.toList true 0 0 = b) :
    Calls Tryd.prog 27 #[.string s, roomV true 0 0] w fun e w' => e = .returned (.bool b) ∧ Below w.heap.size w w' := by
  subst h
  exact worded_any s true 0 0 w hs
theorem wordedF_of {t : List UInt8} {d : Bool} {c m : Int} (h : wordedB t d c m = true) : WordedF t d c m := ⟨(wordedB_of h).1, (wordedB_of h).2⟩
end Go.Proofs.YtkclapimgmnldaaDoor
