/-
  impl.BufferTwice: the buffer that is given last is used.
-/
import Derived.Test.YtnoaljlbhihgjaaDoorBuf
namespace Go.Proofs.YtnoaljlbhihgjaaDoor
set_option linter.unusedVariables false
set_option linter.unusedSimpArgs false
set_option maxRecDepth 20000
open Go.RowKit

section
/-- the two boxes of the rooms -/
abbrev boxR (w : World) (d : Bool) (c m : Int) (d2 : Bool) (c2 m2 : Int) : World := (w.alloc (.cells #[.bool d, .int .i64 c, .int .i64 m] 32)).alloc (.cells #[.bool d2, .int .i64 c2, .int .i64 m2] 32)
theorem boxR_below (w : World) (d : Bool) (c m : Int) (d2 : Bool) (c2 m2 : Int) : Below w.heap.size w (boxR w d c m d2 c2 m2) := ((Below.refl _ _).alloc (Nat.le_refl _) _).alloc (by simp) _
theorem boxR_cells {w w1 : World} {d : Bool} {c m : Int} {d2 : Bool} {c2 m2 : Int} (hb : Below (w.heap.size + 2) (boxR w d c m d2 c2 m2) w1) : w1.heap[w.heap.size + 1]? = some (.cells #[.bool d2, .int .i64 c2, .int .i64 m2] 32 (0, 0)) := by
  rw [hb.block _ (by omega)]
  have := heap_new (w.alloc (.cells #[.bool d, .int .i64 c, .int .i64 m] 32)) (.cells #[.bool d2, .int .i64 c2, .int .i64 m2] 32)
  simpa using this
end

section
variable {base : Nat} {w : World} {E : Nat → Addr} {s : ByteArray} {c m c2 m2 : Int}
set_option maxRecDepth 100000 in
set_option maxHeartbeats 2000000 in
theorem bufferTwice_any (d d2 : Bool) (hE : EnvC base w E) (hs : s.size ≤ 4194304) (hsz : sizedB d c m = true) (hl : LinedF s.data.toList false c2 m2) :
    Calls Tryd.prog 32 #[.string s, roomV d c m, roomV d2 c2 m2] w (FromPost (lines s.data.toList) 0 [] w) := by
  have hbx := boxR_below w d c m d2 c2 m2
  have HS := Lib.hid (scanner_any0 (s := s) (pa := none) (pcs := []) (pc := 0) (pl := []) (tog := false) d false (hE.e.later hbx) (PcsAt.none base _) (by omega) hsz)
  have hlc := (sizedB_cases hl.sized).resolve_left (by simp)
  obtain ⟨N, hN⟩ : ∃ N : Nat, max 0 c2 = (N : Int) := ⟨(max 0 c2).toNat, by omega⟩
  have hNb : N ≤ 4194304 := by omega
  have hlim : max N m2.toNat = limitN false c2 m2 := by simp [limitN]; omega
  have hlb := limitN_le hl.sized
  have HR := Lib.hid (lines_all (lim := limitN false c2 m2) false 0 s (by have := hl.three; omega) hl.roomy)
  have HTk := Lib.hid hl.tokens
  have HM : ∀ w, (Instr.makeSlice 59 (.int .i64 0) (.int .i64 (max 0 c2))).run Tryd.prog w = .ok (.slice (some ⟨w.heap.size, 0, none⟩) 0 N) (w.alloc (.cells (madeCells #[.int .u8 0] N) 5)) := fun w => by rw [hN]; exact make_cap w N hNb
  have HE := Lib.hid hE
  have HBX := Lib.hid hbx
  have HLm := Lib.hid hlim
  clear hE hbx hN hl hlc
  go_enter Tryd.func32, Tryd.ntmps32
  go_wp2_with fail
  refine HS.out.mono ?_
  rintro e w1 ⟨ba, L, bytes, bl, rfl, hI, hb, hown⟩
  have hsz2 : (boxR w d c m d2 c2 m2).heap.size = w.heap.size + 2 := by simp
  have hIL := hI.buffer rfl N m2 (by omega)
  have hcells := boxR_cells (w1 := w1) (d := d) (c := c) (m := m) (d2 := d2) (c2 := c2) (m2 := m2) (w := w) (by rw [← hsz2]; exact hb)
  have z0 := cell_of_heap (i := 0) hcells
  have z1 := cell_of_heap (i := 1) hcells
  have z2 := cell_of_heap (i := 2) hcells
  simp at z0 z1 z2
  have hlt := (hI.r.hlt (newCf E base (boxR w d c m d2 c2 m2).heap.size false false d c m).B (by simp)).2
  have hBB : (w1.alloc (.cells (madeCells #[.int .u8 0] N) 5)).heap[(newCf E base (boxR w d c m d2 c2 m2).heap.size false false d c m).B]? = w1.heap[(newCf E base (boxR w d c m d2 c2 m2).heap.size false false d c m).B]? := Below.heap_alloc _ _ _ hlt
  have hBc := hBB.trans hI.hB
  have hBuf := fun q => buffer_any (newCf E base (boxR w d c m d2 c2 m2).heap.size false false d c m).B 0 N (some ⟨w1.heap.size, 0, none⟩) m2 ((w1.alloc (.cells (madeCells #[.int .u8 0] N) 5)).drewN q) (cell_of_heap hBc) (frozen_of_heap hBc) ⟨_, cell_of_heap hBc⟩ ⟨_, cell_of_heap hBc⟩ (by omega) (by omega)
  have hOff : Off (ownOf (newCf E base (boxR w d c m d2 c2 m2).heap.size false false d c m) [] bl []) w1 (bufW w1 (newCf E base (boxR w d c m d2 c2 m2).heap.size false false d c m).B N m2) := (((Off.refl _ _).alloc _).setCell (p := ⟨(newCf E base (boxR w d c m d2 c2 m2).heap.size false false d c m).B, 4, none⟩) (by simp [ownOf]) _).setCell (p := ⟨(newCf E base (boxR w d c m d2 c2 m2).heap.size false false d c m).B, 2, none⟩) (by simp [ownOf]) _
  have hFr : Fresh (ownOf (newCf E base (boxR w d c m d2 c2 m2).heap.size false false d c m) [] bl []) (ownOf { newCf E base (boxR w d c m d2 c2 m2).heap.size false false d c m with max := m2, lim := max N m2.toNat } [] [w1.heap.size] []) w1 := fun k hk => by
    simp only [ownOf, List.mem_cons, List.append_nil, List.nil_append, List.not_mem_nil, or_false] at hk ⊢
    rcases hk with h1 | h1 | h1
    · exact .inl (.inl h1)
    · exact .inl (.inr (.inl h1))
    · exact .inr (by omega)
  have hso := lines_ok { newCf E base (boxR w d c m d2 c2 m2).heap.size false false d c m with max := m2, lim := max N m2.toNat } rfl rfl rfl
  have hR := HR.out
  rw [← HLm.out] at hR
  have hT := fun q => texts_any hso (ownOf { newCf E base (boxR w d c m d2 c2 m2).heap.size false false d c m with max := m2, lim := max N m2.toNat } [] [w1.heap.size] []) (show SOk _ noMem (newSm s) (.slice none 0 0) false _ _ _ ((bufW w1 (newCf E base (boxR w d c m d2 c2 m2).heap.size false false d c m).B N m2).drewN q) from ⟨0, 0, _, _, _, _, _, _, _, hIL.alk hso (Alk.drewN _ q), rfl⟩) (by simp) (by simp) (EndsL 0 s.data.toList) s.size hR (by omega)
  have HB := Lib.hid hb
  have HO := Lib.hid hown
  generalize ownOf (newCf E base (boxR w d c m d2 c2 m2).heap.size false false d c m) [] bl [] = own1 at *
  clear hI hb hown HS HR hIL hBB hBc hR hso hlt hcells
  have hcB : (newCf E base (boxR w d c m d2 c2 m2).heap.size false false d c m).B = w.heap.size + 6 := by simp
  generalize hcf : ({ newCf E base (boxR w d c m d2 c2 m2).heap.size false false d c m with max := m2, lim := max N m2.toNat } : Cfg) = cf2 at *
  have hcB2 : cf2.B = w.heap.size + 6 := by rw [← hcf]; exact hcB
  have hcE2 : cf2.E = E := by rw [← hcf]
  generalize ownOf cf2 [] [w1.heap.size] [] = own2 at *
  rw [hcB] at hBuf hOff hT
  rw [hcB2] at hT
  have HT := Lib.hid hT
  have HBuf := Lib.hid hBuf
  have HOff := Lib.hid hOff
  have HFr := Lib.hid hFr
  have HCB := Lib.hid hcB2
  have HCE := Lib.hid hcE2
  clear hcf hcB hcB2 hcE2 hT hBuf hOff hFr
  rw [hsz2]
  go_wp2_with fail
  go_region_held3 (fun w' => w'.cell? ⟨w.heap.size + 1, 1, none⟩ = some (.int .i64 c2) ∧ w'.cell? ⟨w.heap.size + 1, 2, none⟩ = some (.int .i64 m2))
    (first | go_keep)
    ((go_at_call 48; refine (HBuf.out 1).mono ?_; rintro e w' ⟨rfl, rfl⟩))
  have HT1 := Lib.hid (HT.out 1)
  have HOff1 := Lib.hid (HOff.out.drewN 1)
  clear HT HOff HBuf z0 z1 z2
  change Exit.then _ _ Exit.normal _ ((bufW w1 (w.heap.size + 6) N m2).drewN 1)
  generalize (bufW w1 (w.heap.size + 6) N m2).drewN 1 = wS at *
  go_wp2_with fail
  refine HT1.out.mono ?_
  rintro e w2 ⟨v, x, tokv, ba', L', own', ts, rfl, hPP, hok, ho, hf, hg⟩
  obtain ⟨rfl, -, -, -, hxe⟩ := hPP
  have hErr := err_any hok
  rw [hxe, HCB.out, HCE.out] at hErr
  have HErr := Lib.hid hErr
  have hoff : Off [] w w2 := off_box HBX.out (off_new HB.out HO.out (HOff1.out.trans ho HFr.out))
  have hbase : Below base w w2 := hoff.below HE.out.e.le (fun k hk => by cases hk)
  have HCd := Lib.hid (fun n => code_any ((HE.out.below hbase).drewN n) (errOf (some 0)) (fun k hk => by cases hk))
  have hsz3 : w.heap.size ≤ wS.heap.size := Nat.le_trans (Nat.le_trans HBX.out.size HB.out.size) HOff1.out.size
  have HQ := Lib.hid (fun n => (show FromPost (lines s.data.toList) 0 [] w (.returned (.tuple #[v, .int .i64 (codeI (errOf (some 0)))])) (w2.drewN n) from ⟨v, rfl, by rw [← HTk.out]; exact hg.1.mono hsz3, hoff.drewN n⟩))
  clear hok hErr hoff hbase ho hf hg hxe HT1 HB HO HBX HE hsz3 HOff1 HFr HCB HCE HTk
  generalize FromPost (lines s.data.toList) 0 [] w = PP at *
  generalize codeI (errOf (some 0)) = cd at *
  generalize errOf (some 0) = oe at *
  go_wp2_with fail
  refine HErr.out.mono ?_
  rintro e w3 ⟨rfl, nn, rfl⟩
  go_wp2_with fail
  refine (HCd.out nn).mono ?_
  rintro e w3 ⟨rfl, rfl⟩
  go_wp2_with fail
  exact HQ.out nn
end
end Go.Proofs.YtnoaljlbhihgjaaDoor
