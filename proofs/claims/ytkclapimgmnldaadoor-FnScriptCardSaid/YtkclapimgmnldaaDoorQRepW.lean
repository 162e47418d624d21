/-
  laws.place, laws.answer, laws.empties, laws.begins: what the law on scripts asks of a reply and of lists of texts.
-/
import Derived.Test.YtkclapimgmnldaaDoorQMadeS
import Derived.Test.YtkclapimgmnldaaDoorQQ
import Derived.Test.YtkclapimgmnldaaDoorQHelp
namespace Go.Proofs.YtkclapimgmnldaaDoor
set_option linter.unusedVariables false
set_option linter.unusedSimpArgs false
set_option maxRecDepth 20000
open Go.RowKit

set_option maxHeartbeats 400000 in
theorem placeL_any (k : Int) (n : Nat) (w : World) (hn : n ≤ 4194304) :
    Calls Tryd.prog 58 #[.int .i64 k, .int .i64 (n : Int)] w fun e w' => e = .returned (.int .i64 (placeZ k n)) ∧ w = w' := by
  have h1 := Int.lt_tmod_of_pos k (b := (n : Int) + 1) (by omega)
  have h2 := Int.tmod_lt_of_pos k (b := (n : Int) + 1) (by omega)
  have h3 := placeZ_le k n
  unfold placeZ at *
  have hz : ((n : Int) + 1 == 0) = false := by simp; omega
  go_enter Tryd.func58, Tryd.ntmps58
  go_wp2
  go_ret
  exact ⟨by rw [Int.tmod_eq_emod_of_nonneg (a := k.tmod ((n : Int) + 1) + n + 1) (by omega)]; rfl, rfl⟩

theorem bel_drewR {B : Nat} {a w : World} (h : Below B a w) (n : Nat) : Below B a (w.drewN n) := ⟨h.os, h.tape, h.output, h.size, h.block⟩
/-- what answer gives -/
abbrev ansV (t : Option (List UInt8)) : Value := .tuple #[sv (t.getD []), .bool t.isSome]
set_option maxHeartbeats 2000000 in
theorem answer_any (r : Rep) (db : ByteArray) (w : World) (hd : db.size ≤ 4194304) :
    Calls Tryd.prog 49 #[.agg (repV r).toArray, .string db] w fun e w' => e = .returned (ansV (tokR r db.data.toList)) ∧ Below w.heap.size w w' := by
  have hb1 := Lib.hid (bel_al (Below.refl w.heap.size w) (.cells (repV r).toArray 94))
  have hdl : db.data.toList.length = db.size := by simp
  by_cases h1 : r.tok = 1
  · have HP := Lib.hid (fun k w' => placeL_any k db.size w' hd)
    have hI := placeZ_le r.frm db.size
    have hJ := placeZ_le r.till db.size
    obtain ⟨a, ha⟩ : ∃ a : Nat, placeZ r.frm db.size = (a : Int) := ⟨(placeZ r.frm db.size).toNat, by omega⟩
    obtain ⟨b, hb⟩ : ∃ b : Nat, placeZ r.till db.size = (b : Int) := ⟨(placeZ r.till db.size).toNat, by omega⟩
    have HQ := Lib.hid (show ansV (tokR r db.data.toList) = .tuple #[.string (db.extract (min (a : Int) (b : Int)).toNat (max (a : Int) (b : Int)).toNat), .bool true] from by
      have : tokR r db.data.toList = some ((db.data.toList.take (max a b)).drop (min a b)) := by
        unfold tokR
        rw [if_pos h1, hdl, ha, hb]
        have e1 : (max (a : Int) (b : Int)).toNat = max a b := by omega
        have e2 : (min (a : Int) (b : Int)).toNat = min a b := by omega
        rw [e1, e2]
      have e1 : (max (a : Int) (b : Int)).toNat = max a b := by omega
      have e2 : (min (a : Int) (b : Int)).toNat = min a b := by omega
      rw [this, e1, e2, sv_extract]
      rfl)
    rw [ha] at hI
    rw [hb] at hJ
    have HAB := Lib.hid (And.intro ha hb)
    clear ha hb
    rw [HQ.out]
    have e1 : (r.tok == 1) = true := by simp [h1]
    go_enter Tryd.func49, Tryd.ntmps49
    go_wp2_with fail
    go_quiet (first | (go_at_call 58; exact Calls.quiet_of_same ((HP.out _ _).mono (fun e w' h => ⟨h.1, h.2.symm⟩))))
    obtain ⟨ha, hb⟩ := HAB.out
    rw [ha, hb]
    clear HP ha hb HAB
    go_wp2_with fail
    go_ret2
    exact ⟨rfl, bel_drewR hb1.out _⟩
  · by_cases h2 : r.tok = 2
    · have HQ := Lib.hid (show ansV (tokR r db.data.toList) = .tuple #[.string r.text, .bool true] from by
        unfold tokR
        rw [if_neg h1, if_pos h2]
        rfl)
      have e1 : (r.tok == 1) = false := by simp [h1]
      have e2 : (r.tok == 2) = true := by simp [h2]
      rw [HQ.out]
      go_enter Tryd.func49, Tryd.ntmps49
      go_wp2_with fail
      go_ret2
      exact ⟨rfl, hb1.out⟩
    · have HQ := Lib.hid (show ansV (tokR r db.data.toList) = .tuple #[.string ⟨#[]⟩, .bool false] from by
        unfold tokR
        rw [if_neg h1, if_neg h2]
        rfl)
      have e1 : (r.tok == 1) = false := by simp [h1]
      have e2 : (r.tok == 2) = false := by simp [h2]
      rw [HQ.out]
      go_enter Tryd.func49, Tryd.ntmps49
      go_wp2_with fail
      go_ret2
      exact ⟨rfl, hb1.out⟩
end Go.Proofs.YtkclapimgmnldaaDoor
