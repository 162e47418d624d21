/-
  laws.empties (where an answer does not advance for certain) and laws.begins.
-/
import Derived.Test.YtkclapimgmnldaaDoorQOpenScr
import Derived.Test.YtkclapimgmnldaaDoorQMadeS
import Derived.Test.YtkclapimgmnldaaDoorQQ
import Derived.Test.YtkclapimgmnldaaDoorQHelp
import Derived.Test.YtkclapimgmnldaaDoorQO
namespace Go.Proofs.YtkclapimgmnldaaDoor
set_option linter.unusedVariables false
set_option linter.unusedSimpArgs false
set_option maxRecDepth 20000
open Go.RowKit

def emptyB (r : Rep) : Prop := r.tok ≠ 0 ∧ (r.all = true ∨ r.adv = 0)
set_option maxHeartbeats 2000000 in
theorem empties_yes (rs : List Rep) (xp : Option Addr) (xc : Nat) (rep : Bool) (w : World) (hx : RepsC w xp rs xc) (hE : Empties rs) :
    Calls Tryd.prog 33 #[.agg #[.slice xp rs.length xc, .bool rep]] w (TrueB w) := by
  have HX := Lib.hid (fun wr (hb : Below w.heap.size w wr) => hx.below hb)
  have HE := Lib.hid hE
  have hxc := hx.cap
  have hxl := hx.le
  have hb0 := Lib.hid (bel_al (Below.refl w.heap.size w) (.cells #[.slice xp rs.length xc, .bool rep] 67))
  clear hx hE
  go_enter Tryd.func33, Tryd.ntmps33
  go_wp2_with fail
  go_loopw [8] (fun iv wr => ∃ k : Nat, iv = .int .i64 (k : Int) ∧ k ≤ rs.length ∧ Below w.heap.size w wr ∧ Hid (∀ j r, j < k → rs[j]? = some r → ¬ emptyB r)) (fun iv _ => rs.length - (intOf iv).toNat)
  case atStart => exact ⟨0, rfl, Nat.zero_le _, hb0.out, Lib.hid (fun j r h => by omega)⟩
  case round =>
    obtain ⟨k, rfl, hk, hbw, hpre⟩ := hrel
    have HB := Lib.hid hbw
    by_cases hlt : k < rs.length
    · obtain ⟨b, q, rfl, hc⟩ := (HX.out wr hbw).cells k rs[k] (List.getElem?_eq_getElem hlt)
      have hrk : rs[k]? = some rs[k] := List.getElem?_eq_getElem hlt
      have HRk := Lib.hid hrk
      have q0 := hc 0 _ rfl
      have q1 := hc 1 _ rfl
      have q2 := hc 2 _ rfl
      have q3 := hc 3 _ rfl
      have q4 := hc 4 _ rfl
      have q5 := hc 5 _ rfl
      have q6 := hc 6 _ rfl
      rw [Nat.add_zero] at q0
      clear hc hrk hbw
      generalize rs[k] = r at *
      have HN : ¬ emptyB r → Hid (∀ j r, j < k + 1 → rs[j]? = some r → ¬ emptyB r) := fun hn => Lib.hid (fun j r' hj hr' => by
        by_cases hjk : j = k
        · subst hjk
          rw [HRk.out] at hr'
          cases hr'
          exact hn
        · exact hpre.out j r' (by omega) hr')
      have HN := Lib.hid HN
      clear hpre
      by_cases h1 : r.tok = 0
      · have e1 : (r.tok == 0) = true := by simp [h1]
        have HN2 := HN.out (fun h => h.1 h1)
        clear HN HRk
        go_wp2_with fail
        go_roundw
        case rel => exact ⟨k + 1, by go_num, by omega, HB.out.alloc HB.out.size _, HN2⟩
        case measure => simp [intOf]; omega
      · have e1 : (r.tok == 0) = false := by simp [h1]
        cases hal : r.all with
        | true =>
          rw [hal] at q1
          clear HN HRk
          go_wp2_with fail
          go_ret
          exact ⟨rfl, HB.out.alloc HB.out.size _⟩
        | false =>
          rw [hal] at q1
          by_cases h2 : r.adv = 0
          · have e2 : (r.adv == 0) = true := by simp [h2]
            clear HN HRk
            go_wp2_with fail
            go_ret
            exact ⟨rfl, HB.out.alloc HB.out.size _⟩
          · have e2 : (r.adv == 0) = false := by simp [h2]
            have HN2 := HN.out (fun h => by
              rcases h.2 with h | h
              · rw [hal] at h; cases h
              · exact h2 h)
            clear HN HRk
            go_wp2_with fail
            go_roundw
            case rel => exact ⟨k + 1, by go_num, by omega, HB.out.alloc HB.out.size _, HN2⟩
            case measure => simp [intOf]; omega
    · exfalso
      obtain ⟨r, hr, hr2⟩ := HE.out
      obtain ⟨j, hj, rfl⟩ := List.getElem_of_mem hr
      exact hpre.out j _ (by omega) (List.getElem?_eq_getElem hj) hr2

/-- the beginning of a list of texts -/
theorem begins_yes (ta : Option Addr) (tc : Nat) (xs ys : List (List UInt8)) (vb : Value) (w : World) (ha : Strs w (.slice ta xs.length tc) xs) (hb : Strs w vb (xs ++ ys)) :
    Calls Tryd.prog 34 #[.slice ta xs.length tc, vb] w (TrueB w) := by
  obtain ⟨ab, cb, rfl, hb1, hb2, hb3⟩ := hb
  have hle : xs.length ≤ (xs ++ ys).length := by simp
  have HA := Lib.hid ha
  have HP := Lib.hid (show Strs w (.slice ab xs.length cb) xs from ⟨ab, cb, rfl, by omega, hb2, fun i x hx => hb3 i x (by
    rw [List.getElem?_append_left (List.getElem?_eq_some_iff.1 hx).1]
    exact hx)⟩)
  clear ha hb3
  generalize (xs ++ ys).length = n at *
  have e1 : decide (xs.length ≤ n) = true := decide_eq_true hle
  go_enter Tryd.func34, Tryd.ntmps34
  go_wp2_with fail
  refine (same_yes _ _ _ _ HA.out HP.out).mono ?_
  rintro e w2 ⟨rfl, nn, rfl⟩
  go_wp2_with fail
  go_ret
  exact ⟨rfl, ⟨rfl, rfl, rfl, Nat.le_refl _, fun _ _ => rfl⟩⟩
end Go.Proofs.YtkclapimgmnldaaDoor
