/-
  More bounds of the second form.
-/
import Derived.Test.YtnoaljlbhihgjaaDoorOpen
namespace Go.Proofs.YtnoaljlbhihgjaaDoor
set_option linter.unusedVariables false
set_option linter.unusedSimpArgs false
set_option maxRecDepth 20000
open Go.ChangeShapes Go.WideShapes Go.ChangeAt Go.RowKit

theorem bulk_ss {H : Type} {a b : ByteArray} {ds : List (DataW H)} (h : Rows.uptoSmall H (DataW.lit (.string a.data.toList) :: DataW.lit (.string b.data.toList) :: ds) = true) : a.size + b.size ≤ 4194303 := by
  have h1 := bulk_le h
  have ha : a.data.toList.length = a.size := by simp
  have hb : b.data.toList.length = b.size := by simp
  simp only [Rows.uptoBulkAll, Rows.uptoBulk] at h1
  omega
theorem bulk_1 {H : Type} {d : DataW H} {ds : List (DataW H)} {n : Nat} (h : Rows.uptoSmall H (d :: ds) = true) (hn : n ≤ Rows.uptoBulk d) : n ≤ 1048576 := Nat.le_trans hn (bulk_d h)
theorem bulk_tl {H : Type} {d : DataW H} {ds : List (DataW H)} (h : Rows.uptoSmall H (d :: ds) = true) : Rows.uptoSmall H ds = true := by
  have h1 := bulk_le h
  simp only [Rows.uptoBulkAll] at h1
  exact decide_eq_true (by omega)
end Go.Proofs.YtnoaljlbhihgjaaDoor
