/-
  impl.LineStep: one call of ScanLines over a text's bytes.
-/
import Derived.Test.YtnoaljlbhihgjaaDoorLines
import Derived.Test.YtnoaljlbhihgjaaDoorTexts
import Derived.Test.YtnoaljlbhihgjaaDoorHelp
import Derived.Laws.IdiomStrings
import Derived.Deep.RegionHeld3
namespace Go.Proofs.YtnoaljlbhihgjaaDoor
set_option linter.unusedVariables false
set_option linter.unusedSimpArgs false
set_option maxRecDepth 20000
open Go.RowKit

set_option maxHeartbeats 1000000 in
theorem scanLines_some2 (b o c i : Nat) (eof : Bool) (d : List UInt8) (w : World) (hd : Bytes8 w (some ⟨b, o, none⟩) d) (hdc : d.length ≤ c) (hc : c ≤ 9223372036854775807) (hl : d.length ≤ 9000000000000000000) (hi : nlAt d = some i) :
    Calls Tryd.prog 45 #[.slice (some ⟨b, o, none⟩) d.length c, .bool eof] w fun e w' => e = .returned (.tuple #[.int .i64 ((i : Int) + 1), .slice (some ⟨b, o, none⟩) (noCR (d.take i)).length c, .nilIface]) ∧ w = w' := by
  obtain ⟨_, _, hlt⟩ := nlAt_some hi
  have h1 := indexByte_any b o c d w hd
  rw [indexByte_nl, hi] at h1
  have H1 := Lib.hid h1
  have h2 := dropCR_any b o c (d.take i) w (by have := hd.part 0 i; simpa using this) (by simp; omega) (by omega)
  rw [List.length_take, Nat.min_eq_left (by omega)] at h2
  have H2 := Lib.hid h2
  generalize (noCR (d.take i)).length = m at H2 ⊢
  have hl0 : ((d.length : Int) == 0) = false := by rw [beq_eq_false_iff_ne]; omega
  have hi0 : (0 : Int) ≤ (i : Int) := by omega
  have hic : i ≤ c := by omega
  have hib : (i : Int) ≤ 9000000000000000000 := by omega
  clear h1 h2 hd hi
  generalize d.length = n at *
  cases eof
  · go_enter Tryd.func45, Tryd.ntmps45
    go_wp2_with fail
    refine H1.out.mono ?_
    rintro e w' ⟨rfl, rfl⟩
    go_wp2_with fail
    refine H2.out.mono ?_
    rintro e w' ⟨rfl, rfl⟩
    go_wp2_with fail
    go_ret3
    exact ⟨rfl, rfl⟩
  · go_enter Tryd.func45, Tryd.ntmps45
    go_wp2_with fail
    refine H1.out.mono ?_
    rintro e w' ⟨rfl, rfl⟩
    go_wp2_with fail
    refine H2.out.mono ?_
    rintro e w' ⟨rfl, rfl⟩
    go_wp2_with fail
    go_ret3
    exact ⟨rfl, rfl⟩

set_option maxHeartbeats 1000000 in
theorem scanLines_last2 (b o c : Nat) (d : List UInt8) (w : World) (hd : Bytes8 w (some ⟨b, o, none⟩) d) (hdc : d.length ≤ c) (hc : c ≤ 9223372036854775807) (hi : nlAt d = none) (hne : d ≠ []) :
    Calls Tryd.prog 45 #[.slice (some ⟨b, o, none⟩) d.length c, .bool true] w fun e w' => e = .returned (.tuple #[.int .i64 (d.length : Int), .slice (some ⟨b, o, none⟩) (noCR d).length c, .nilIface]) ∧ w = w' := by
  have hpos := List.length_pos_iff.2 hne
  have h1 := indexByte_any b o c d w hd
  rw [indexByte_nl, hi] at h1
  have H1 := Lib.hid h1
  have H2 := Lib.hid (dropCR_any b o c d w hd hdc (by omega))
  generalize (noCR d).length = m at H2 ⊢
  have hl0 : ((d.length : Int) == 0) = false := by rw [beq_eq_false_iff_ne]; omega
  clear h1 hd hi hne
  generalize d.length = n at *
  go_enter Tryd.func45, Tryd.ntmps45
  go_wp2_with fail
  refine H1.out.mono ?_
  rintro e w' ⟨rfl, rfl⟩
  go_wp2_with fail
  refine H2.out.mono ?_
  rintro e w' ⟨rfl, rfl⟩
  go_wp2_with fail
  go_ret3
  exact ⟨rfl, rfl⟩

/-- what ScanLines answers to data that are not nil -/
theorem scanLines_two (b o c : Nat) (d : List UInt8) (eof : Bool) (w : World) (hd : Bytes8 w (some ⟨b, o, none⟩) d) (hdc : d.length ≤ c) (hc : c ≤ 9223372036854775807) (hl : d.length ≤ 9000000000000000000) :
    Calls Tryd.prog 45 #[.slice (some ⟨b, o, none⟩) d.length c, .bool eof] w fun e w' =>
      e = .returned (.tuple #[.int .i64 (splitLines () d eof).adv, (match (splitLines () d eof).tok with | none => .slice none 0 0 | some t => .slice (some ⟨b, o, none⟩) t.length c), .nilIface]) ∧ w = w' := by
  cases hi : nlAt d with
  | some i =>
    refine (scanLines_some2 b o c i eof d w hd hdc hc hl hi).mono ?_
    rintro e w' ⟨rfl, rfl⟩
    simp [splitLines, hi]
  | none =>
    cases eof with
    | false =>
      refine (scanLines_more b o c d w hd hi).mono ?_
      rintro e w' ⟨rfl, rfl⟩
      simp [splitLines, hi]
    | true =>
      by_cases hne : d = []
      · subst hne
        refine (scanLines_end _ c w).mono ?_
        rintro e w' ⟨rfl, rfl⟩
        simp [splitLines, nlAt]
      · have hie : d.isEmpty = false := by cases d with | nil => exact absurd rfl hne | cons _ _ => rfl
        refine (scanLines_last2 b o c d w hd hdc hc hi hne).mono ?_
        rintro e w' ⟨rfl, rfl⟩
        simp [splitLines, hi, hie]

/-- the token's text, or none -/
def tokText : Option (List UInt8) → List UInt8
  | none => []
  | some t => t
theorem split_tok_take {d : List UInt8} {eof : Bool} {t : List UInt8} (h : (splitLines () d eof).tok = some t) : t = d.take t.length ∧ t.length ≤ d.length := by
  unfold splitLines at h
  split at h
  · rename_i i hi
    simp only [Option.some.injEq] at h
    subst h
    have hil := (nlAt_some hi).2.2
    have h1 := noCR_length_le (d.take i)
    rw [List.length_take] at h1
    have h2 := noCR_take (d.take i)
    rw [List.take_take, Nat.min_eq_left (by omega)] at h2
    exact ⟨h2, by omega⟩
  · split at h
    · simp only [Option.some.injEq] at h
      subst h
      exact ⟨noCR_take d, noCR_length_le d⟩
    · cases h

theorem conv_nil (w : World) : (convert 59 9 (.slice none 0 0)).run Tryd.prog w = .ok (sv []) w := by
  rw [run_convert_bytes_string w 59 9 5 _ 0 0 (by kernel_rfl) (by kernel_rfl) (by kernel_rfl)]
  rfl

/-- the bytes of a text in a new block -/
theorem bytes_row (w : World) (s : ByteArray) (c : Nat) (hc : s.size ≤ c) (fz : Nat × Nat) : Bytes8 (w.alloc (.cells (bytesRow s c) 5 fz)) (some ⟨w.heap.size, 0, none⟩) s.data.toList := by
  intro i x hx
  refine ⟨_, _, rfl, ?_⟩
  have hlt : i < s.data.size := by
    have := (List.getElem?_eq_some_iff.1 hx).1
    simpa using this
  have h : (w.alloc (.cells (bytesRow s c) 5 fz)).heap[w.heap.size]? = some (.cells (bytesRow s c) 5 fz) := by show (w.heap.push _)[w.heap.size]? = _; simp
  rw [cell_of_heap h, Nat.zero_add, bytesRow_at s c i hlt]
  have hx' : s.data[i] = x := by
    rw [Array.getElem?_toList, Array.getElem?_eq_getElem hlt] at hx
    exact Option.some.inj hx
  rw [hx']

set_option maxHeartbeats 400000 in
theorem code_nil (w : World) : Calls Tryd.prog 47 #[.nilIface] w fun e w' => e = .returned (.int .i64 0) ∧ w = w' := by
  go_enter Tryd.func47, Tryd.ntmps47
  go_wp2
  go_ret
  exact ⟨rfl, rfl⟩

theorem results_tmp4 {fn : Func} {t u v x : Tmp} (h : fn.results = #[.tmp t, .tmp u, .tmp v, .tmp x]) (tmps : Array Value) (P : Program) (w : World) :
    (results fn tmps).run P w = .ok (.tuple #[tmps.getD t undef, tmps.getD u undef, tmps.getD v undef, tmps.getD x undef]) w := by
  simp [results, h]

/-- what LineStep gives -/
def StepPost (r : Ans Unit) (w : World) (e : Ending) (w' : World) : Prop := e = .returned (.tuple #[.int .i64 r.adv, sv (tokText r.tok), .bool r.tok.isSome, .int .i64 0]) ∧ Below w.heap.size w w'

end Go.Proofs.YtnoaljlbhihgjaaDoor
