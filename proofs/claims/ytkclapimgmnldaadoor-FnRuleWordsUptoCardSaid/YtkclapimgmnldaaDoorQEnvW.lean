/-
  Out of a row's list of errors and the two tables of unicode/utf8: what the walks on words lean on.
-/
import Derived.Test.YtkclapimgmnldaaDoorQE
import Derived.Test.YtkclapimgmnldaaDoorQTrueW
import Derived.Lay
namespace Go.Proofs.YtkclapimgmnldaaDoor
set_option linter.unusedVariables false
set_option linter.unusedSimpArgs false
set_option maxRecDepth 20000
open Go.ChangeShapes Go.WideShapes Go.ChangeAt Go.RowKit

theorem laidVars_app {W : World} : ∀ (l r : List (String × DataW Unit)) (ps : List MemPlace), DataW.LaidVars Tryd.prog W (l ++ r) ps → ∃ p q, DataW.LaidVars Tryd.prog W l p ∧ ps = p ++ q
  | [], r, ps, _ => ⟨[], ps, rfl, rfl⟩
  | x :: l, r, ps, h => by
    obtain ⟨n, d⟩ := x
    obtain ⟨g, t, cs, fuel, p, q, h1, h2, h3, h4, hq, rfl⟩ := h
    obtain ⟨p2, q2, h5, rfl⟩ := laidVars_app l r q hq
    exact ⟨_, q2, ⟨g, t, cs, fuel, p, p2, h1, h2, h3, h4, h5, rfl⟩, by simp⟩
theorem laidMet_init {W : World} {l r : List (String × DataW Unit)} (h : laidMet Tryd.prog (l ++ r) W) : laidMet Tryd.prog l W := by
  obtain ⟨ps, hv, hnd, hrows⟩ := h
  obtain ⟨p, q, h1, rfl⟩ := laidVars_app l r ps hv
  exact ⟨p, h1, List.Nodup.sublist (List.sublist_append_left _ _) hnd, fun b off hm => hrows b off (List.mem_append_left _ hm)⟩

def renU : Go.Shelf.Ren := ⟨fun n => n, fun | 5 => 5 | 119 => 119 | 138 => 122 | 139 => 123 | n => n, fun | 3 => 9 | 4 => 10 | n => n⟩
theorem typesU : U8Types Tryd.prog renU := ⟨Tryd.underlying5, Tryd.underlying119, Tryd.underlying122, Tryd.underlying123⟩
theorem extraU : U8Extra Tryd.prog renU := ⟨by kernel_rfl, by kernel_rfl, by kernel_rfl, by kernel_rfl, by kernel_rfl, by kernel_rfl, by kernel_rfl⟩

theorem tabs_of {W : World} {l : List (String × DataW Unit)} (hL : laidMet Tryd.prog l W) (h3 : ("unicode/utf8.first", Rows.laid_unicode_utf8_first) ∈ l) (h4 : ("unicode/utf8.acceptRanges", Rows.laid_unicode_utf8_acceptRanges) ∈ l) : TabsB W.heap.size W := by
  have r3 := Lib.laidMet.reads hL h3
  have r4 := Lib.laidMet.reads hL h4
  have e3 : Rows.laid_unicode_utf8_first = Lib.firstData := Go.Pinned.utf8First_eq
  have e4 : (Rows.laid_unicode_utf8_acceptRanges : DataW Unit) = Lib.acceptData := by kernel_rfl
  rw [e3] at r3
  rw [e4] at r4
  have ht := utf8Tabs_of_readsT typesU extraU r3 r4
  exact ⟨ht, World.block_lt_of_cell? W _ (ht.1 0 (by omega)), World.block_lt_of_cell? W _ (ht.2 0 (by omega)).1⟩

theorem env9w {W : World} (hL : laidMet Tryd.prog (("unicode/utf8.acceptRanges", Rows.laid_unicode_utf8_acceptRanges) :: (list9.map (fun x => (x.1, errD x.2.2)) ++ [("unicode/utf8.first", Rows.laid_unicode_utf8_first)])) W) :
    ∃ E, EnvW W.heap.size W E ∧ W.var? Tryd.prog "loop.example/lib-g01189/impl.errRead" = some (errReadV (E 5)) ∧ W.var? Tryd.prog "loop.example/lib-g01189/impl.errSplit" = some (errReadV (E 4)) := by
  have ht := tabs_of hL (by simp) (by simp)
  obtain ⟨E, h1, h2, h3⟩ := env9 (laidMet_init hL.tail)
  exact ⟨E, ⟨h1, ht⟩, h2, h3⟩
theorem env8w {W : World} (hL : laidMet Tryd.prog (("unicode/utf8.acceptRanges", Rows.laid_unicode_utf8_acceptRanges) :: (list8.map (fun x => (x.1, errD x.2.2)) ++ [("unicode/utf8.first", Rows.laid_unicode_utf8_first)])) W) :
    ∃ E, EnvT W.heap.size W E ∧ W.var? Tryd.prog "loop.example/lib-g01189/impl.errRead" = some (errReadV (E 5)) := by
  have ht := tabs_of hL (by simp) (by simp)
  obtain ⟨E, h1, h2⟩ := env8 (laidMet_init hL.tail)
  exact ⟨E, ⟨h1, ht⟩, h2⟩
end Go.Proofs.YtkclapimgmnldaaDoor
