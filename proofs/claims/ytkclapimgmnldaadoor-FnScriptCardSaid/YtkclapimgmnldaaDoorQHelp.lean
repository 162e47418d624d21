/-
  The small functions that the laws share: limit, sized, loose, below, same, lined.
-/
import Derived.Test.YtkclapimgmnldaaDoorQP
import Derived.Test.YtkclapimgmnldaaDoorQMake
namespace Go.Proofs.YtkclapimgmnldaaDoor
set_option linter.unusedVariables false
set_option linter.unusedSimpArgs false
set_option maxRecDepth 20000
open Go.RowKit

/-- a slice that reads as these texts -/
def Strs (w : World) (v : Value) (xs : List (List UInt8)) : Prop :=
  ∃ a cap, v = .slice a xs.length cap ∧ xs.length ≤ cap ∧ cap ≤ 9223372036854775807 ∧ ∀ i x, xs[i]? = some x → ∃ b o, a = some ⟨b, o, none⟩ ∧ w.cell? ⟨b, o + i, none⟩ = some (sv x)

theorem StrsAt.strs {base : Nat} {w : World} {v : Value} {xs : List (List UInt8)} (h : StrsAt base w v xs) : Strs w v xs := by
  obtain ⟨h1, h2⟩ := h
  rcases h2 with ⟨rfl, h2⟩ | ⟨g, cap, cur, rfl, h3, h4, h5, h6, h7, h8⟩
  · have : xs = [] := List.length_eq_zero_iff.1 h2
    subst this
    exact ⟨none, 0, rfl, Nat.le_refl _, by omega, fun i x h => by simp at h⟩
  · unfold maxLen at h6
    refine ⟨_, cap, rfl, h5, by omega, fun i x hx => ⟨g, 0, rfl, ?_⟩⟩
    have h9 := World.ownsRow.cells (w := w) (base := base) (e := 9) (size := 1) (v := .slice (some ⟨g, 0, none⟩) xs.length cap) (n := xs.length) (xs := xs.map sv) ⟨h1, .inr ⟨g, cap, cur, rfl, h3, h4, h5, by unfold maxLen; exact h6, h7, h8⟩⟩ rfl i (sv x) (by simp [hx])
    have hplain : (⟨g, 0, none⟩ : Addr).add i = ⟨g, 0 + i, none⟩ := by unfold Addr.add; split <;> simp_all
    rw [hplain] at h9
    exact h9
/-- it goes on reading so -/
theorem Strs.below {w w' : World} {v : Value} {xs : List (List UInt8)} (h : Strs w v xs) (hb : Below w.heap.size w w') : Strs w' v xs := by
  obtain ⟨a, cap, h1, h2, h3, h4⟩ := h
  refine ⟨a, cap, h1, h2, h3, fun i x hx => ?_⟩
  obtain ⟨b, o, e, hc⟩ := h4 i x hx
  exact ⟨b, o, e, (hb.cell (p := ⟨b, o + i, none⟩) (World.block_lt_of_cell? w _ hc)).trans hc⟩
theorem StrsAt.below {base : Nat} {w w' : World} {v : Value} {xs : List (List UInt8)} (h : StrsAt base w v xs) (hb : Below w.heap.size w w') : StrsAt base w' v xs := by
  obtain ⟨h1, h2⟩ := h
  refine ⟨h1, ?_⟩
  rcases h2 with h2 | ⟨g, cap, cur, e, h3, h4, r⟩
  · exact .inl h2
  · refine .inr ⟨g, cap, cur, e, h3, (hb.block g ?_).trans h4, r⟩
    rcases Nat.lt_or_ge g w.heap.size with h | h
    · exact h
    · rw [Array.getElem?_eq_none h] at h4; cases h4


theorem ret_int {k : IntKind} {a b : Int} (h : a = b) : Ending.returned (.int k a) = .returned (.int k b) := by rw [h]
theorem ret_b {a b : Bool} (h : a = b) : Ending.returned (.bool a) = .returned (.bool b) := by rw [h]

theorem max3 (c m : Int) : max (max c m) 0 = ((limitN false c m : Nat) : Int) := by
  simp [limitN]; omega

set_option maxHeartbeats 400000 in
theorem limit_any (d : Bool) (c m : Int) (w : World) : Calls Tryd.prog 13 #[roomV d c m] w fun e w' => e = .returned (.int .i64 (limitN d c m : Nat)) ∧ w' = w.alloc (.cells #[.bool d, .int .i64 c, .int .i64 m] 26) := by
  cases d with
  | true =>
    have HE := Lib.hid (show ((limitN true c m : Nat) : Int) = 65536 from rfl)
    generalize ((limitN true c m : Nat) : Int) = k at *
    go_enter Tryd.func13, Tryd.ntmps13
    go_wp2
    go_ret
    exact ⟨ret_int HE.out.symm, rfl⟩
  | false =>
    have HE := Lib.hid (max3 c m)
    generalize ((limitN false c m : Nat) : Int) = k at *
    go_enter Tryd.func13, Tryd.ntmps13
    go_wp2
    all_goals
      go_ret
      exact ⟨ret_int (by rw [← HE.out]; omega), rfl⟩
set_option maxHeartbeats 400000 in
theorem sized_any (d : Bool) (c m : Int) (w : World) : Calls Tryd.prog 12 #[roomV d c m] w fun e w' => e = .returned (.bool (sizedB d c m)) ∧ w' = w.alloc (.cells #[.bool d, .int .i64 c, .int .i64 m] 26) := by
  have HE := Lib.hid (show (d || (decide (c ≤ 1000000) && decide (m ≤ 1000000))) = sizedB d c m from rfl)
  generalize sizedB d c m = k at *
  cases d with
  | true =>
    go_enter Tryd.func12, Tryd.ntmps12
    go_wp2
    go_ret
    exact ⟨ret_b HE.out, rfl⟩
  | false =>
    go_enter Tryd.func12, Tryd.ntmps12
    go_wp2
    all_goals
      go_ret
      exact ⟨ret_b (by rw [← HE.out]; simp; try omega), rfl⟩

theorem toList_ne (s : ByteArray) (h : 0 < s.size) : (s.toList = []) = False ∧ s.toList.isEmpty = false := by
  rw [ByteArray.toList_eq]
  have h1 : s.data.toList.length = s.size := by simp
  cases hd : s.data.toList with
  | nil => rw [hd] at h1; simp at h1; omega
  | cons _ _ => simp
theorem looseB_empty : looseB [] = false := rfl
theorem looseB_last (s : ByteArray) (h : 0 < s.size) : looseB s.data.toList = (((s[s.size - 1]'(by omega)).toNat : Int) == 13) := by
  have e : s.data.toList.getLast? = some (s[s.size - 1]'(by omega)) := by
    rw [List.getLast?_eq_getElem?]
    have : s.data.toList.length = s.size := by simp
    rw [this, List.getElem?_eq_getElem (by simp; omega)]
    rfl
  unfold looseB
  rw [e]
  generalize s[s.size - 1]'(by omega) = c
  rw [Bool.eq_iff_iff]
  simp
  constructor
  · rintro rfl; rfl
  · intro h; exact UInt8.toNat_inj.1 (by show c.toNat = 13; omega)

set_option maxHeartbeats 400000 in
theorem loose_any (s : ByteArray) (w : World) (hs : s.size ≤ 9223372036854775807) : Calls Tryd.prog 23 #[.string s] w fun e w' => e = .returned (.bool (looseB s.data.toList)) ∧ w = w' := by
  by_cases h : s.size = 0
  · have h1 : s.data.toList = [] := List.length_eq_zero_iff.1 (by simpa using h)
    obtain rfl : s = ⟨#[]⟩ := by
      obtain ⟨d⟩ := s
      congr 1
      simpa using h1
    clear h h1 hs
    rw [show looseB (ByteArray.mk #[]).data.toList = false from rfl]
    go_enter Tryd.func23, Tryd.ntmps23
    go_wp2
    go_ret
    exact ⟨rfl, rfl⟩
  · have h0 : 0 < s.size := by omega
    have HL := Lib.hid (looseB_last s h0)
    obtain ⟨hne, hni⟩ := toList_ne s h0
    have hlt : s.size - 1 < s.size := by omega
    generalize looseB s.data.toList = k at *
    go_enter Tryd.func23, Tryd.ntmps23
    go_wp2
    go_ret
    exact ⟨ret_b HL.out.symm, rfl⟩

/-- below: all texts so far have room -/
def belowTo (xs : List (List UInt8)) (more n : Int) (k : Nat) : Bool := belowB (xs.take k) more n
theorem belowTo_succ (xs : List (List UInt8)) (more n : Int) (k : Nat) (h : k < xs.length) : belowB (xs.take (k + 1)) more n = (belowB (xs.take k) more n && decide ((xs[k].length : Int) + more < n)) := by
  unfold belowB
  rw [List.take_succ_eq_append_getElem h, List.all_append]
  simp
theorem belowB_no {xs : List (List UInt8)} {more n : Int} {k : Nat} (h : k < xs.length) (hb : n ≤ (xs[k].length : Int) + more) : belowB xs more n = false := by
  unfold belowB
  rw [List.all_eq_false]
  exact ⟨xs[k], List.getElem_mem h, by simp; omega⟩

set_option maxHeartbeats 1000000 in
theorem below_any (v : Value) (xs : List (List UInt8)) (more n : Int) (w : World) (h : Strs w v xs) (hm0 : 0 ≤ more) (hm1 : more ≤ 100) (hl : ∀ x ∈ xs, x.length ≤ 9000000000000000000) :
    Calls Tryd.prog 41 #[v, .int .i64 more, .int .i64 n] w fun e w' => e = .returned (.bool (belowB xs more n)) ∧ w = w' := by
  obtain ⟨a, cap, rfl, h1, h2, h3⟩ := h
  have HL := Lib.hid hl
  have H3 := Lib.hid h3
  have HK := Lib.hid (fun k hk => belowTo_succ xs more n k hk)
  have HN := Lib.hid (fun k hk hb => belowB_no (xs := xs) (more := more) (n := n) (k := k) hk hb)
  have hx0 : belowB (xs.take 0) more n = true := by simp [belowB]
  have HX := Lib.hid hx0
  clear hl h3 hx0
  go_enter Tryd.func41, Tryd.ntmps41
  go_wp2_with fail
  go_loop [11] (fun i => ∃ k : Nat, k ≤ xs.length ∧ i = .int .i64 k ∧ Hid (belowB (xs.take k) more n = true)) (fun i => xs.length - (intOf i).toNat)
  case atStart => exact ⟨0, Nat.zero_le _, rfl, HX⟩
  case round =>
    obtain ⟨k, hk, rfl, hb⟩ := hrel
    by_cases hlt : k < xs.length
    · obtain ⟨b, o, rfl, hc⟩ := H3.out k xs[k] (List.getElem?_eq_getElem hlt)
      have hle := HL.out xs[k] (List.getElem_mem hlt)
      have HE := Lib.hid (HK.out k hlt)
      have HM := Lib.hid (HN.out k hlt)
      generalize xs[k] = x at hc hle HE HM
      by_cases hn : n ≤ (x.length : Int) + more
      · have hr := HM.out hn
        have HR := Lib.hid hr
        clear hr
        go_wp2_with fail
        go_ret
        exact ⟨ret_b HR.out.symm, rfl⟩
      · have hr := HE.out
        rw [hb.out, Bool.true_and, decide_eq_true (by omega)] at hr
        have HR := Lib.hid hr
        have hn' : (x.length : Int) + more < n := by omega
        clear hr hn
        go_wp2_with fail
        go_round
        case rel => exact ⟨k + 1, by omega, by go_num, HR⟩
        case measure => simp [intOf]; omega
    · obtain rfl : k = xs.length := by omega
      have hr := hb.out
      rw [List.take_length] at hr
      have HR := Lib.hid hr
      clear hr hb
      go_wp2_with fail
      go_ret
      exact ⟨ret_b HR.out.symm, rfl⟩

/-- a call that answers so and only draws -/
def SaysB (b : Bool) (w : World) (e : Ending) (w' : World) : Prop := e = .returned (.bool b) ∧ ∃ n, w' = w.drewN n

set_option maxHeartbeats 1000000 in
theorem same_yes (va vb : Value) (xs : List (List UInt8)) (w : World) (ha : Strs w va xs) (hb : Strs w vb xs) :
    Calls Tryd.prog 18 #[va, vb] w (SaysB true w) := by
  obtain ⟨aa, ca, rfl, ha1, ha2, ha3⟩ := ha
  obtain ⟨ab, cb, rfl, hb1, hb2, hb3⟩ := hb
  have HA := Lib.hid ha3
  have HB := Lib.hid hb3
  clear ha3 hb3
  go_enter Tryd.func18, Tryd.ntmps18
  go_wp2_with fail
  go_loopw [13, 5] (fun i _ wr => ∃ k : Nat, k ≤ xs.length ∧ i = .int .i64 k ∧ ∃ m, wr = w.drewN m) (fun i _ _ => xs.length - (intOf i).toNat)
  case atStart => exact ⟨0, Nat.zero_le _, rfl, 0, rfl⟩
  case round =>
    obtain ⟨k, hk, rfl, m, rfl⟩ := hrel
    by_cases hlt : k < xs.length
    · obtain ⟨b, o, rfl, hc⟩ := HA.out k xs[k] (List.getElem?_eq_getElem hlt)
      obtain ⟨b', o', rfl, hc'⟩ := HB.out k xs[k] (List.getElem?_eq_getElem hlt)
      generalize xs[k] = x at hc hc'
      have hb0 : (x != x) = false := by simp
      go_wp2_with fail
      go_quiet (fail)
      go_wp2_with fail
      go_roundw
      case rel => exact ⟨k + 1, by omega, by go_num, _, rfl⟩
      case measure => simp [intOf]; omega
    · obtain rfl : k = xs.length := by omega
      go_wp2_with fail
      go_ret
      exact ⟨rfl, _, rfl⟩
end Go.Proofs.YtkclapimgmnldaaDoor
