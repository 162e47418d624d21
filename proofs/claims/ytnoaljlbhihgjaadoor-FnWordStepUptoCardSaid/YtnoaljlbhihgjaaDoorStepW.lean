/-
  impl.WordStep: one call of ScanWords over a text's bytes.
-/
import Derived.Test.YtnoaljlbhihgjaaDoorStep
import Derived.Test.YtnoaljlbhihgjaaDoorFromW
import Derived.Test.YtnoaljlbhihgjaaDoorWordFacts
namespace Go.Proofs.YtnoaljlbhihgjaaDoor
set_option linter.unusedVariables false
set_option linter.unusedSimpArgs false
set_option maxRecDepth 20000
open Go.RowKit

set_option maxHeartbeats 1000000 in
theorem wordStep_any (s : ByteArray) (w : World) (hTb : Tabs w) (hs : s.size ≤ 140737488355328) : Calls Tryd.prog 30 #[.string s, .bool true] w (StepPost (splitWords () s.data.toList true) w) := by
  have hcap := grownCap_le_maxLen w s.size 0 5 (by unfold maxLen; omega)
  have hge := grownCap_ge w s.size 0 5
  have HConv := Lib.hid (run_bytes_of_string (P := Tryd.prog) w 9 59 5 s (by kernel_rfl) (by kernel_rfl) (by kernel_rfl))
  generalize grownCap w s.size 0 5 = c at *
  unfold maxLen at hcap
  have hlen : s.data.toList.length = s.size := by simp
  have hby := bytes_row w.drew s c hge ((bytesRow s c).size, (bytesRow s c).size + 1)
  have hbl : Below w.heap.size w (w.drew.alloc (.cells (bytesRow s c) 5 ((bytesRow s c).size, (bytesRow s c).size + 1))) := (Below.refl _ _).drew.alloc (Nat.le_refl _) _
  have hsc := scanWords_any (some ⟨w.heap.size, 0, none⟩) s.size c s.data.toList true _ (tabs_below hTb hbl) hby hlen hge (by omega) (fun _ => rfl)
  have HB := Lib.hid hbl
  have HSC := Lib.hid hsc
  clear hcap hge hby hsc hbl hlen hTb
  generalize w.drew.alloc (.cells (bytesRow s c) 5 ((bytesRow s c).size, (bytesRow s c).size + 1)) = w1 at *
  generalize splitWords () s.data.toList true = r at *
  obtain ⟨sp, adv, tok, cd⟩ := r
  go_enter Tryd.func30, Tryd.ntmps30
  go_wp2_with fail
  rw [HConv.out]
  simp only [Result.andThen]
  rw [Oper.upon_value]
  go_wp2_with fail
  refine HSC.out.mono ?_
  rintro e w2 ⟨tokv, rfl, hb2, htok⟩
  have HB2 := Lib.hid (below_step HB.out hb2)
  clear hb2 HB HSC HConv
  cases tok with
  | none =>
    obtain rfl : tokv = .slice none 0 0 := htok
    have hcv := conv_nil
    have hne := neq_nil_none
    go_wp2_with fail
    go_region_with ((go_at_call 47; refine (code_nil _).mono ?_; rintro e w' ⟨rfl, rfl⟩))
    all_goals
      go_wp2_with fail
      refine ⟨rfl, _, results_tmp4 rfl _ _ _, ?_⟩
      exact ⟨rfl, HB2.out.drew⟩
  | some t =>
    obtain ⟨p, c', rfl, h1, h2, hby, -, -⟩ := htok
    have hcv := conv_text (w2.drewN 1) p c' t (hby.drewN 1)
    rw [show w2.drewN 1 = w2.drew from rfl] at hcv
    have hne := fun (w' : World) => neq_nil_some w' p t.length c'
    clear hby
    go_wp2_with fail
    go_region_with ((go_at_call 47; refine (code_nil _).mono ?_; rintro e w' ⟨rfl, rfl⟩))
    all_goals
      go_wp2_with fail
      refine ⟨rfl, _, results_tmp4 rfl _ _ _, ?_⟩
      exact ⟨rfl, HB2.out.drew⟩
end Go.Proofs.YtnoaljlbhihgjaaDoor
