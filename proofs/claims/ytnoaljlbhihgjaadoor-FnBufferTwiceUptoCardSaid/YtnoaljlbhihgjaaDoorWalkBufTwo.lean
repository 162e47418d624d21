/-
  The walk of FnBufferTwice.
-/
import Derived.Test.YtnoaljlbhihgjaaDoorBufTwo
import Derived.Test.YtnoaljlbhihgjaaDoorTwoRooms
namespace Go.Proofs.YtnoaljlbhihgjaaDoor
set_option linter.unusedVariables false
set_option linter.unusedSimpArgs false
set_option maxRecDepth 20000
open Go.RowKit

section
variable {w : World} {E : Nat → Addr} {s : ByteArray} {c m c2 m2 : Int}
set_option maxRecDepth 100000 in
set_option maxHeartbeats 2000000 in
theorem fnBufferTwice_walk (d d2 : Bool) (hE : EnvC w.heap.size w E) (hs : s.size ≤ 4194304) :
    Calls Tryd.prog 13 #[.string s, roomV d c m, roomV d2 c2 m2] w (TrueB w) := by
  have HZ := Lib.hid (fun w => sized_any d c m w)
  have HB0 := Lib.hid (Below.refl (w.heap.size + 2) (twoW w d c m false c2 m2))
  cases h1 : sizedB d c m with
  | false =>
    rw [h1] at HZ
    clear hE h1
    go_enter Tryd.func13, Tryd.ntmps13
    go_wp2_with fail
    refine (HZ.out _).mono ?_
    rintro e w1 ⟨rfl, rfl⟩
    go_wp2_with fail
    go_ret
    exact ⟨rfl, (twoW_below w d c m false c2 m2).alloc (by simp; omega) _⟩
  | true =>
    rw [h1] at HZ
    have HB1 := Lib.hid (HB0.out.alloc (by simp) (roomO d c m))
    cases hl : linedB s.data.toList false c2 m2 with
    | false =>
      have HL := Lib.hid (fun w' => lined_r false c2 m2 w' hs false hl)
      clear hE h1 hl
      go_enter Tryd.func13, Tryd.ntmps13
      go_wp2_with fail
      refine (HZ.out _).mono ?_
      rintro e w1 ⟨rfl, rfl⟩
      go_wp2_with fail
      refine (HL.out _).mono ?_
      rintro e w2 ⟨rfl, hb2⟩
      have HB2 := Lib.hid (two_step HB1.out hb2)
      clear hb2
      go_wp2_with fail
      go_ret
      exact ⟨rfl, two_base HB2.out⟩
    | true =>
      have HL := Lib.hid (fun w' => lined_r false c2 m2 w' hs true hl)
      have hf := LinedF.of hl
      have HA := Lib.hid (fun w' (h : EnvC w.heap.size w' E) => bufferTwice_any (s := s) (c := c) (m := m) d false h hs h1 hf)
      have HSp := Lib.hid (fun w' => specLinesG s w' hs)
      have HE := Lib.hid hE
      clear hE h1 hl hf
      generalize lines s.data.toList = ls at *
      go_enter Tryd.func13, Tryd.ntmps13
      go_wp2_with fail
      refine (HZ.out _).mono ?_
      rintro e w1 ⟨rfl, rfl⟩
      go_wp2_with fail
      refine (HL.out _).mono ?_
      rintro e w2 ⟨rfl, hb2⟩
      have HB2 := Lib.hid (two_step HB1.out hb2)
      obtain ⟨a0, a1, a2, a3, a4, a5⟩ := two_cells HB2.out
      clear hb2 HB1 HB0 HL HZ
      go_wp2_with fail
      go_region_held3 (fun w' => w'.cell? ⟨w.heap.size, 0, none⟩ = some (.bool d) ∧ w'.cell? ⟨w.heap.size, 1, none⟩ = some (.int .i64 c) ∧ w'.cell? ⟨w.heap.size, 2, none⟩ = some (.int .i64 m) ∧
          w'.cell? ⟨w.heap.size + 1, 0, none⟩ = some (.bool false) ∧ w'.cell? ⟨w.heap.size + 1, 1, none⟩ = some (.int .i64 c2) ∧ w'.cell? ⟨w.heap.size + 1, 2, none⟩ = some (.int .i64 m2))
        (first
          | exact two_cells HB5.out
          | exact two_cells HB4.out
          | exact two_cells HB3.out
          | go_keep)
        (first
          | (go_at_call 18; refine (toRoom_any _ _ _ _).mono ?_; rintro e w4 ⟨rfl, hb4⟩; (first | (have HB4 := Lib.hid (two_step HB3.out hb4)) | (have HB3 := Lib.hid (two_step HB2.out.drew hb4))); clear hb4)
          | (go_at_call 32; refine (HA.out _ (HE.out.later (two_base HB4.out))).mono ?_; rintro e w5 ⟨v5, rfl, hst, hoff⟩; have HB5 := Lib.hid (two_step HB4.out (off_nil hoff)); have HF := Lib.hid hst.strs; clear hst hoff))
      have HBB := Lib.hid (two_base HB5.out)
      clear HB2 HB3 HB4 HB5 HA HE a0 a1 a2 a3 a4 a5
      go_wp2_with fail
      refine (HSp.out _).mono ?_
      rintro e w6 ⟨v6, rfl, hst, hb⟩
      have HB6 := Lib.hid (below_step HBB.out hb)
      have HF6 := Lib.hid (HF.out.below hb)
      have HG6 := Lib.hid hst.strs
      clear hst hb HBB HF
      go_wp2_with fail
      refine (same_yes _ _ _ _ HF6.out HG6.out).mono ?_
      rintro e w7 ⟨rfl, n, rfl⟩
      go_wp2_with fail
      go_ret
      exact ⟨rfl, two_drew HB6.out n⟩
end
end Go.Proofs.YtnoaljlbhihgjaaDoor
