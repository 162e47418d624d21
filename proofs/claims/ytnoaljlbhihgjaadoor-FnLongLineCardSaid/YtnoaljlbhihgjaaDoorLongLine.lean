/-
  impl.LongLine: one line of some bytes.
-/
import Derived.Test.YtnoaljlbhihgjaaDoorFrom
import Derived.Test.YtnoaljlbhihgjaaDoorLined
namespace Go.Proofs.YtnoaljlbhihgjaaDoor
set_option linter.unusedVariables false
set_option linter.unusedSimpArgs false
set_option maxRecDepth 20000
open Go.RowKit

theorem make_lenL (w : World) (N : Nat) (h : N ≤ 4194304) : (Instr.makeSlice 59 (.int .i64 (N : Int)) (.int .i64 (N : Int))).run Tryd.prog w = .ok (.slice (some ⟨w.heap.size, 0, none⟩) N N) (w.alloc (.cells (madeCells #[.int .u8 0] N) 5)) := by
  obtain ⟨i, hi, hz⟩ := Option.map_eq_some_iff.1 info_u8_all
  simp only [Prod.mk.injEq] at hz
  obtain ⟨hz, hsz, hby⟩ := hz
  have := run_make (P := Tryd.prog) w 59 5 i (.int .u8 0) Tryd.underlying59 hi hz .i64 .i64 (N : Int) (N : Int) (by omega) (by omega) (by rw [hby]; omega) (by omega)
  rw [this, hsz]
  simp [Value.cells]

/-- the bytes while they are written -/
def fillB (N k : Nat) : List UInt8 := List.replicate k 97 ++ List.replicate (N - k) 0
theorem fillB_len {N k : Nat} (h : k ≤ N) : (fillB N k).length = N := by simp [fillB]; omega
theorem fillB_zero (N : Nat) : fillB N 0 = List.replicate N 0 := by simp [fillB]
theorem fillB_all (N : Nat) : fillB N N = List.replicate N 97 := by simp [fillB]
theorem fillB_set {N k : Nat} (h : k < N) : (fillB N k).set k 97 = fillB N (k + 1) := by
  unfold fillB
  rw [List.set_append_right _ _ (by simp)]
  have : N - k = (N - (k + 1)) + 1 := by omega
  rw [this, List.replicate_succ, List.length_replicate, Nat.sub_self, List.set_cons_zero, List.replicate_succ', List.append_assoc]
  rfl

/-- the memory while it is written -/
def FillI (w0 : World) (D N k : Nat) (w : World) : Prop := w.heap[D]? = some (.cells ((fillB N k).map bv).toArray 5 (0, 0)) ∧ Below D w0 w
theorem FillI.start (w0 : World) (N : Nat) : FillI w0 w0.heap.size N 0 (w0.alloc (.cells (madeCells #[.int .u8 0] N) 5)) :=
  ⟨by rw [heap_new w0 _, made_zero, fillB_zero], (Below.refl _ _).alloc (Nat.le_refl _) _⟩
theorem FillI.step {w0 w : World} {D N k : Nat} (h : FillI w0 D N k w) (hk : k < N) : FillI w0 D N (k + 1) (w.setCell ⟨D, k, none⟩ (.int .u8 97)) := by
  refine ⟨?_, h.2.setCell (Nat.le_refl _) _⟩
  rw [heap_setCell_at h.1, ← fillB_set hk]
  congr 2
  rw [List.map_set]
  simp
  rfl
theorem FillI.cell {w0 w : World} {D N k : Nat} (h : FillI w0 D N k w) (hk : k < N) : ∃ v, w.cell? ⟨D, k, none⟩ = some v := by
  rw [cell_of_heap h.1]
  refine ⟨_, Array.getElem?_eq_getElem ?_⟩
  simp [fillB_len (Nat.le_of_lt hk)]
  exact hk
theorem FillI.frozen {w0 w : World} {D N k : Nat} (h : FillI w0 D N k w) (i : Nat) : w.frozen? ⟨D, i, none⟩ = false := frozen_of_heap h.1 i
theorem FillI.bytes {w0 w : World} {D N : Nat} (h : FillI w0 D N N w) : Bytes8 w (some ⟨D, 0, none⟩) (List.replicate N 97) := by
  intro i c hc
  refine ⟨D, 0, rfl, ?_⟩
  have h1 := h.1
  rw [fillB_all] at h1
  rw [cell_of_heap h1, Nat.zero_add]
  have hlt : i < N := by
    have := (List.getElem?_eq_some_iff.1 hc).1
    simpa using this
  have hcc : c = 97 := by
    rw [List.getElem?_replicate, if_pos hlt] at hc
    exact (Option.some.inj hc).symm
  subst hcc
  simp [hlt]

/-- what LongLine gives -/
def LongPost (xs : List (List UInt8)) (cd : Int) (w : World) (e : Ending) (w' : World) : Prop := e = .returned (.tuple #[.int .i64 (xs.length : Nat), .int .i64 (xs.flatten.length : Nat), .int .i64 cd]) ∧ Below w.heap.size w w'

section
variable {base : Nat} {w : World} {E : Nat → Addr} {c m : Int}
set_option maxRecDepth 100000 in
set_option maxHeartbeats 2000000 in
theorem longLine_gen (N : Nat) (d : Bool) (hE : EnvC base w E) (hN : N ≤ 1000000) (hsz : sizedB d c m = true) (P : List (List UInt8) → Sm Unit → Prop) (k : Nat) (hk : k ≤ 4194304)
    (hr : Runs splitLines (limitN d c m) false 0 P k (newSm ⟨(List.replicate N 97).toArray⟩) []) (xs : List (List UInt8)) (hfl : xs.flatten.length ≤ 4194304) (hxl : xs.length ≤ 4194304) (ce : Nat) (hce : ce = 0 ∨ (1 ≤ ce ∧ ce ≤ 5)) (hP : ∀ ts x, P ts x → ts = xs ∧ x.err = some ce) :
    Calls Tryd.prog 34 #[.int .i64 (N : Int), roomV d c m] w (LongPost xs (codeI (errOf (some ce))) w) := by
  have hmax : max 0 (N : Int) = (N : Int) := by omega
  have HM : ∀ w, (Instr.makeSlice 59 (.int .i64 (max 0 (N : Int))) (.int .i64 (max 0 (N : Int)))).run Tryd.prog w = .ok (.slice (some ⟨w.heap.size, 0, none⟩) N N) (w.alloc (.cells (madeCells #[.int .u8 0] N) 5)) := fun w => by rw [hmax]; exact make_lenL w N (by omega)
  have HM2 := fun w => make_lenL w N (by omega)
  have hbx : Below w.heap.size w (w.alloc (.cells #[.bool d, .int .i64 c, .int .i64 m] 32)) := (Below.refl _ _).alloc (Nat.le_refl _) _
  have HBX := Lib.hid hbx
  have HF0 := Lib.hid (FillI.start (w.alloc (.cells #[.bool d, .int .i64 c, .int .i64 m] 32)) N)
  have HRm := Lib.hid (heap_new w (.cells #[.bool d, .int .i64 c, .int .i64 m] 32))
  rw [World.size_alloc] at HF0
  have HR := Lib.hid hr
  have HP := Lib.hid hP
  have HE := Lib.hid hE
  have HSz := Lib.hid hsz
  have hcc : ∀ k, errOf (some ce) = some k → 1 ≤ k ∧ k ≤ 5 := by
    intro k hk
    rcases hce with rfl | h
    · cases hk
    · cases ce with
      | zero => omega
      | succ j => simp [errOf] at hk; omega
  have HCC := Lib.hid hcc
  have HFl := Lib.hid hfl
  clear hE hr hP hce hcc hbx hsz hfl
  go_enter Tryd.func34, Tryd.ntmps34
  go_wp2_with fail
  go_loopw [19] (fun i wr => ∃ q : Nat, q ≤ N ∧ i = .int .i64 q ∧ Hid (FillI (w.alloc (.cells #[.bool d, .int .i64 c, .int .i64 m] 32)) (w.heap.size + 1) N q wr)) (fun i _ => N - (intOf i).toNat)
  case atStart => exact ⟨0, Nat.zero_le _, rfl, HF0⟩
  case round =>
    obtain ⟨q, hq, rfl, hF⟩ := hrel
    by_cases hlt : q < N
    · obtain ⟨v, hv⟩ := hF.out.cell hlt
      have hz := hF.out.frozen q
      have HS1 := Lib.hid (hF.out.step hlt)
      clear hF
      go_wp2_with fail
      go_roundw
      case rel => exact ⟨q + 1, by omega, by go_num, HS1⟩
      case measure => simp [intOf]; omega
    · obtain rfl : q = N := by omega
      have hV := conv_text wr ⟨w.heap.size + 1, 0, none⟩ q (List.replicate q 97) hF.out.bytes
      rw [List.length_replicate] at hV
      have HV := Lib.hid hV
      have hb1 : Below w.heap.size w wr := HBX.out.trans (hF.out.2.mono (by omega))
      have hrm : wr.heap[w.heap.size]? = some (.cells #[.bool d, .int .i64 c, .int .i64 m] 32 (0, 0)) := (hF.out.2.block _ (by omega)).trans HRm.out
      have z0 := cell_of_heap (i := 0) hrm
      have z1 := cell_of_heap (i := 1) hrm
      have z2 := cell_of_heap (i := 2) hrm
      simp at z0 z1 z2
      have HS := Lib.hid (scanner_any (s := ⟨(List.replicate q 97).toArray⟩) (pa := none) (pcs := []) (pc := 0) (pl := []) (tog := false) d false (HE.out.e.later hb1) (PcsAt.none base _) (by simp [ByteArray.size]; omega) HSz.out)
      have HB1 := Lib.hid hb1
      clear hV hb1 hrm hF HF0 HM HM2 HRm HBX
      go_wp2_with fail
      rw [HV.out]
      simp only [Result.andThen]
      rw [Oper.upon_value]
      go_wp2_with fail
      refine HS.out.mono ?_
      rintro e w1 ⟨ba, L, own, rfl, hok, hb, hown⟩
      have hT := texts_any (lines_ok (newCf E base wr.heap.size false false d c m) rfl rfl rfl) own hok (by simp) (by simp) P k HR.out (by omega)
      have HB := Lib.hid hb
      have HO := Lib.hid hown
      clear hok hb hown HS HR z0 z1 z2 HV
      generalize hcf : newCf E base wr.heap.size false false d c m = cf at *
      have hcB : cf.B = wr.heap.size + 4 := by rw [← hcf]
      have hcE : cf.E = E := by rw [← hcf]
      rw [hcB] at hT
      have HT := Lib.hid hT
      have HCB := Lib.hid hcB
      have HCE := Lib.hid hcE
      clear hcf hcB hcE hT
      go_wp2_with fail
      refine HT.out.mono ?_
      rintro e w2 ⟨v, x, tokv, ba', L', own', ts, rfl, hPP, hok, ho, hf, hg⟩
      obtain ⟨rfl, hxe⟩ := HP.out _ _ hPP
      have hErr := err_any hok
      rw [hxe, HCB.out, HCE.out] at hErr
      have HErr := Lib.hid hErr
      have hb2 : Below w.heap.size w w2 := below_step HB1.out (off_nil (off_new HB.out HO.out ho))
      have HB2 := Lib.hid hb2
      have HCd := Lib.hid (fun n => code_any ((HE.out.later hb2).drewN n) (errOf (some ce)) HCC.out)
      obtain ⟨a2, cap2, rfl, hx1, hx2, hx3⟩ := hg.1.strs
      have HX3 := Lib.hid hx3
      clear hok hErr ho hf hg hPP hxe HT HP HB HO HE HCC HB1 HCB HCE hb2 hx3
      have hQ : ∀ n, LongPost ts (codeI (errOf (some ce))) w (.returned (.tuple #[.int .i64 (ts.length : Nat), .int .i64 (ts.flatten.length : Nat), .int .i64 (codeI (errOf (some ce)))])) (w2.drewN n) := fun n => ⟨rfl, ⟨HB2.out.os, HB2.out.tape, HB2.out.output, HB2.out.size, HB2.out.block⟩⟩
      have HQ := Lib.hid hQ
      clear hQ
      generalize LongPost ts (codeI (errOf (some ce))) w = PP at *
      generalize codeI (errOf (some ce)) = cd at *
      generalize errOf (some ce) = oe at *
      go_wp2_with fail
      go_loopw [11, 35] (fun tt i wr => wr = w2 ∧ ∃ j : Nat, j ≤ ts.length ∧ i = .int .i64 j ∧ tt = .int .i64 (((ts.take j).flatten.length : Nat) : Int)) (fun _ i _ => ts.length - (intOf i).toNat)
      case atStart => exact ⟨rfl, 0, Nat.zero_le _, rfl, by simp⟩
      case round =>
        obtain ⟨rfl, j, hj, rfl, rfl⟩ := hrel
        by_cases hjl : j < ts.length
        · obtain ⟨b, o, rfl, hc⟩ := HX3.out j ts[j] (List.getElem?_eq_getElem hjl)
          have hfs : (ts.take (j + 1)).flatten.length = (ts.take j).flatten.length + ts[j].length := by
            rw [List.take_succ_eq_append_getElem hjl, List.flatten_append, List.length_append]; simp
          have hfle : (ts.take (j + 1)).flatten.length ≤ ts.flatten.length := by
            conv => rhs; rw [← List.take_append_drop (j + 1) ts, List.flatten_append, List.length_append]
            omega
          have hfl := HFl.out
          have HFS := Lib.hid (show (((ts.take (j + 1)).flatten.length : Nat) : Int) = (((ts.take j).flatten.length : Nat) : Int) + ((ts[j].length : Nat) : Int) by omega)
          have hbd : (ts.take j).flatten.length + ts[j].length ≤ 4194304 := by omega
          clear hfs hfle hfl
          generalize (ts.take j).flatten.length = A at *
          generalize ts[j] = z at *
          go_wp2_with fail
          go_roundw
          case rel => exact ⟨trivial, j + 1, by omega, by go_num, by rw [HFS.out]⟩
          case measure => simp [intOf]; omega
        · obtain rfl : j = ts.length := by omega
          rw [List.take_length]
          generalize ts.flatten.length = T at *
          go_wp2_with fail
          refine HErr.out.mono ?_
          rintro e w3 ⟨rfl, nn, rfl⟩
          go_wp2_with fail
          refine (HCd.out nn).mono ?_
          rintro e w3 ⟨rfl, rfl⟩
          go_wp2_with fail
          go_ret3
          exact HQ.out nn
end
end Go.Proofs.YtnoaljlbhihgjaaDoor
