/-
  bufio.ScanLines: what one call answers; it keeps the word of a split function.
-/
import Derived.Test.YtkclapimgmnldaaDoorQB
import Derived.Test.YtkclapimgmnldaaDoorQP
import Derived.Lib.BytesEntry
namespace Go.Proofs.YtkclapimgmnldaaDoor
set_option linter.unusedVariables false
set_option linter.unusedSimpArgs false
set_option maxRecDepth 20000
open Go.RowKit

theorem indexByte_nl : ∀ d : List UInt8, Lib.indexByte d 10 = (match nlAt d with | some i => (i : Int) | none => -1)
  | [] => rfl
  | c :: r => by
    have ih := indexByte_nl r
    unfold Lib.indexByte nlAt
    by_cases hc : c = 10
    · subst hc; rfl
    · have hb : (c == 10) = false := by simpa using hc
      rw [hb, ih, if_neg hc]
      cases nlAt r with
      | none => rfl
      | some i =>
        simp only [Option.map_some]
        have : ((i : Int) == -1) = false := by simp
        rw [this]
        simp

/-- the bytes as numbers -/
abbrev numsOf (d : List UInt8) : List Int := d.map fun c => (c.toNat : Int)
theorem bytesOf_nums (d : List UInt8) : Lib.bytesOf (numsOf d) = d := by
  simp [Lib.bytesOf, numsOf, Function.comp_def]

set_option maxHeartbeats 400000 in
set_option maxRecDepth 100000 in
theorem indexByte_any (b o c : Nat) (d : List UInt8) (w : World) (hd : Bytes8 w (some ⟨b, o, none⟩) d) :
    Calls Tryd.prog 61 #[.slice (some ⟨b, o, none⟩) d.length c, .int .u8 10] w fun e w' => e = .returned (.int .i64 (Lib.indexByte d 10)) ∧ w = w' := by
  have hrun := Lib.run_indexByteSlice (P := Tryd.prog) w b o d.length c (numsOf d) (by simp) (fun i hi => by
    rw [hd.at i hi]
    simp [numsOf, hi]) 10
  rw [bytesOf_nums] at hrun
  have hrun' : (Extern.BytealgIndexByte.indexByte #[.slice (some ⟨b, o, none⟩) d.length c, .int .u8 10]).run Tryd.prog w = .ok (.int .i64 (Lib.indexByte d 10)) w := hrun
  have HR := Lib.hid hrun'
  clear hrun hrun' hd
  generalize Lib.indexByte d 10 = k at HR ⊢
  go_enter Tryd.func61, Tryd.ntmps61
  go_wp2
  rw [run_callFunc_extern Tryd.func63 (by kernel_rfl) (by kernel_rfl) (by kernel_rfl) (e := Extern.BytealgIndexByte.indexByte) (by kernel_rfl), HR.out]
  simp only [Result.andThen]
  rw [Oper.upon_value]
  go_wp2
  go_ret
  exact ⟨rfl, rfl⟩

set_option maxHeartbeats 400000 in
theorem dropCR_empty (a : Option Addr) (c : Nat) (w : World) :
    Calls Tryd.prog 62 #[.slice a 0 c] w fun e w' => e = .returned (.slice a 0 c) ∧ w = w' := by
  go_enter Tryd.func62, Tryd.ntmps62
  go_wp2
  go_ret
  exact ⟨rfl, rfl⟩
set_option maxHeartbeats 400000 in
theorem dropCR_yes (b o n c : Nat) (w : World) (hn : n + 1 ≤ c) (hc : c ≤ 9223372036854775807) (hcell : w.cell? ⟨b, o + n, none⟩ = some (.int .u8 13)) :
    Calls Tryd.prog 62 #[.slice (some ⟨b, o, none⟩) (n + 1) c] w fun e w' => e = .returned (.slice (some ⟨b, o, none⟩) n c) ∧ w = w' := by
  go_enter Tryd.func62, Tryd.ntmps62
  go_wp2
  go_ret
  exact ⟨rfl, rfl⟩
set_option maxHeartbeats 400000 in
theorem dropCR_no (b o n c : Nat) (v : Int) (w : World) (hn : n + 1 ≤ c) (hc : c ≤ 9223372036854775807) (hcell : w.cell? ⟨b, o + n, none⟩ = some (.int .u8 v)) (hv : (v == 13) = false) :
    Calls Tryd.prog 62 #[.slice (some ⟨b, o, none⟩) (n + 1) c] w fun e w' => e = .returned (.slice (some ⟨b, o, none⟩) (n + 1) c) ∧ w = w' := by
  go_enter Tryd.func62, Tryd.ntmps62
  go_wp2
  go_ret
  exact ⟨rfl, rfl⟩

theorem noCR_length_le (d : List UInt8) : (noCR d).length ≤ d.length := by
  unfold noCR; split
  · simp
  · exact Nat.le_refl _
theorem noCR_take (d : List UInt8) : noCR d = d.take (noCR d).length := by
  unfold noCR; split
  · rw [List.dropLast_eq_take]; simp
  · simp

/-- dropCR: the same slice, cut to the length of the line -/
theorem dropCR_any (b o c : Nat) (d : List UInt8) (w : World) (hd : Bytes8 w (some ⟨b, o, none⟩) d) (hdc : d.length ≤ c) (hc : c ≤ 9223372036854775807) :
    Calls Tryd.prog 62 #[.slice (some ⟨b, o, none⟩) d.length c] w fun e w' => e = .returned (.slice (some ⟨b, o, none⟩) (noCR d).length c) ∧ w = w' := by
  rcases List.eq_nil_or_concat d with rfl | ⟨l, z, rfl⟩
  · exact dropCR_empty _ _ _
  · have hlen : (l ++ [z]).length = l.length + 1 := by simp
    rw [List.concat_eq_append] at hd hdc ⊢
    rw [hlen] at hdc ⊢
    have hcell : w.cell? ⟨b, o + l.length, none⟩ = some (bv z) := by
      have := hd.at l.length (by simp)
      simpa using this
    by_cases hz : z = 13
    · subst hz
      have e : (noCR (l ++ [13])).length = l.length := by simp [noCR]
      rw [e]
      exact dropCR_yes b o l.length c w hdc hc hcell
    · have e : (noCR (l ++ [z])).length = l.length + 1 := by simp [noCR, hz]
      rw [e]
      refine dropCR_no b o l.length c _ w hdc hc hcell ?_
      have : z.toNat ≠ 13 := fun h => hz (UInt8.toNat_inj.1 (by simpa using h))
      simp; omega

set_option maxHeartbeats 1000000 in
/-- no data at the end of the input -/
theorem scanLines_end (a : Option Addr) (c : Nat) (w : World) :
    Calls Tryd.prog 59 #[.slice a 0 c, .bool true] w fun e w' => e = .returned (.tuple #[.int .i64 0, .slice none 0 0, .nilIface]) ∧ w = w' := by
  go_enter Tryd.func59, Tryd.ntmps59
  go_wp2
  go_ret3
  exact ⟨rfl, rfl⟩

set_option maxHeartbeats 1000000 in
theorem scanLines_some (b o c i : Nat) (eof : Bool) (d : List UInt8) (w : World) (hd : Bytes8 w (some ⟨b, o, none⟩) d) (hdc : d.length ≤ c) (hc : c ≤ 9223372036854775806) (hi : nlAt d = some i) :
    Calls Tryd.prog 59 #[.slice (some ⟨b, o, none⟩) d.length c, .bool eof] w fun e w' => e = .returned (.tuple #[.int .i64 ((i : Int) + 1), .slice (some ⟨b, o, none⟩) (noCR (d.take i)).length c, .nilIface]) ∧ w = w' := by
  obtain ⟨_, _, hlt⟩ := nlAt_some hi
  have h1 := indexByte_any b o c d w hd
  rw [indexByte_nl, hi] at h1
  have H1 := Lib.hid h1
  have h2 := dropCR_any b o c (d.take i) w (by have := hd.part 0 i; simpa using this) (by simp; omega) (by omega)
  rw [List.length_take, Nat.min_eq_left (by omega)] at h2
  have H2 := Lib.hid h2
  generalize (noCR (d.take i)).length = m at H2 ⊢
  have hl0 : ((d.length : Int) == 0) = false := by rw [beq_eq_false_iff_ne]; omega
  have hi0 : (0 : Int) ≤ (i : Int) := by omega
  have hic : i ≤ c := by omega
  clear h1 h2 hd hi
  generalize d.length = n at *
  cases eof
  · go_enter Tryd.func59, Tryd.ntmps59
    go_wp2_with fail
    refine H1.out.mono ?_
    rintro e w' ⟨rfl, rfl⟩
    go_wp2_with fail
    refine H2.out.mono ?_
    rintro e w' ⟨rfl, rfl⟩
    go_wp2_with fail
    go_ret3
    exact ⟨rfl, rfl⟩
  · go_enter Tryd.func59, Tryd.ntmps59
    go_wp2_with fail
    refine H1.out.mono ?_
    rintro e w' ⟨rfl, rfl⟩
    go_wp2_with fail
    refine H2.out.mono ?_
    rintro e w' ⟨rfl, rfl⟩
    go_wp2_with fail
    go_ret3
    exact ⟨rfl, rfl⟩

set_option maxHeartbeats 1000000 in
theorem scanLines_last (b o c : Nat) (d : List UInt8) (w : World) (hd : Bytes8 w (some ⟨b, o, none⟩) d) (hdc : d.length ≤ c) (hc : c ≤ 9223372036854775806) (hi : nlAt d = none) (hne : d ≠ []) :
    Calls Tryd.prog 59 #[.slice (some ⟨b, o, none⟩) d.length c, .bool true] w fun e w' => e = .returned (.tuple #[.int .i64 (d.length : Int), .slice (some ⟨b, o, none⟩) (noCR d).length c, .nilIface]) ∧ w = w' := by
  have hpos := List.length_pos_iff.2 hne
  have h1 := indexByte_any b o c d w hd
  rw [indexByte_nl, hi] at h1
  have H1 := Lib.hid h1
  have H2 := Lib.hid (dropCR_any b o c d w hd hdc (by omega))
  generalize (noCR d).length = m at H2 ⊢
  have hl0 : ((d.length : Int) == 0) = false := by rw [beq_eq_false_iff_ne]; omega
  clear h1 hd hi hne
  generalize d.length = n at *
  go_enter Tryd.func59, Tryd.ntmps59
  go_wp2_with fail
  refine H1.out.mono ?_
  rintro e w' ⟨rfl, rfl⟩
  go_wp2_with fail
  refine H2.out.mono ?_
  rintro e w' ⟨rfl, rfl⟩
  go_wp2_with fail
  go_ret3
  exact ⟨rfl, rfl⟩

set_option maxHeartbeats 1000000 in
theorem scanLines_more (b o c : Nat) (d : List UInt8) (w : World) (hd : Bytes8 w (some ⟨b, o, none⟩) d) (hi : nlAt d = none) :
    Calls Tryd.prog 59 #[.slice (some ⟨b, o, none⟩) d.length c, .bool false] w fun e w' => e = .returned (.tuple #[.int .i64 0, .slice none 0 0, .nilIface]) ∧ w = w' := by
  have h1 := indexByte_any b o c d w hd
  rw [indexByte_nl, hi] at h1
  have H1 := Lib.hid h1
  clear h1 hd hi
  generalize d.length = n at *
  go_enter Tryd.func59, Tryd.ntmps59
  go_wp2_with fail
  refine H1.out.mono ?_
  rintro e w' ⟨rfl, rfl⟩
  go_wp2_with fail
  go_ret3
  exact ⟨rfl, rfl⟩

/-- What ScanLines answers, in one. -/
theorem scanLines_any (a : Option Addr) (n c : Nat) (d : List UInt8) (eof : Bool) (w : World) (hd : Bytes8 w a d) (hn : d.length = n) (hdc : n ≤ c) (hc : c ≤ 9223372036854775806) (he : d = [] → eof = true) :
    Calls Tryd.prog 59 #[.slice a n c, .bool eof] w fun e w' => ∃ tokv, e = .returned (.tuple #[.int .i64 (splitLines () d eof).adv, tokv, .nilIface]) ∧ w = w' ∧ TokAt w' true w.heap.size a tokv (splitLines () d eof).tok := by
  subst hn
  by_cases hne : d = []
  · subst hne
    obtain rfl := he rfl
    refine (scanLines_end a c w).mono ?_
    rintro e w' ⟨rfl, rfl⟩
    exact ⟨_, rfl, rfl, rfl⟩
  · obtain ⟨b, o, rfl⟩ := hd.form hne
    have hlt : b < w.heap.size := by
      have := hd.at 0 (List.length_pos_iff.2 hne)
      exact World.block_lt_of_cell? w _ this
    have tokIn : ∀ t : List UInt8, t = d.take t.length → t.length ≤ d.length → TokAt w true w.heap.size (some ⟨b, o, none⟩) (.slice (some ⟨b, o, none⟩) t.length c) (some t) := fun t ht htl => by
      refine ⟨⟨b, o, none⟩, c, rfl, by omega, by omega, ?_, fun _ => ⟨hlt, .inl ⟨_, rfl, rfl⟩⟩, fun _ _ => ⟨_, rfl, rfl⟩⟩
      have := hd.part 0 t.length
      rw [ht]
      simpa using this
    cases hi : nlAt d with
    | some i =>
      have hil := (nlAt_some hi).2.2
      refine (scanLines_some b o c i eof d w hd hdc hc hi).mono ?_
      rintro e w' ⟨rfl, rfl⟩
      refine ⟨.slice (some ⟨b, o, none⟩) (noCR (d.take i)).length c, ?_, rfl, ?_⟩
      · simp [splitLines, hi]
      · have e1 : (splitLines () d eof).tok = some (noCR (d.take i)) := by simp [splitLines, hi]
        rw [e1]
        have h1 := noCR_length_le (d.take i)
        rw [List.length_take] at h1
        refine tokIn _ ?_ (by omega)
        have h2 := noCR_take (d.take i)
        rw [List.take_take, Nat.min_eq_left (by omega)] at h2
        exact h2
    | none =>
      cases eof with
      | true =>
        have hie : d.isEmpty = false := by cases d with | nil => exact absurd rfl hne | cons _ _ => rfl
        refine (scanLines_last b o c d w hd hdc hc hi hne).mono ?_
        rintro e w' ⟨rfl, rfl⟩
        refine ⟨.slice (some ⟨b, o, none⟩) (noCR d).length c, ?_, rfl, ?_⟩
        · simp [splitLines, hi, hie]
        · have e1 : (splitLines () d true).tok = some (noCR d) := by simp [splitLines, hi, hie]
          rw [e1]
          exact tokIn _ (noCR_take d) (noCR_length_le d)
      | false =>
        refine (scanLines_more b o c d w hd hi).mono ?_
        rintro e w' ⟨rfl, rfl⟩
        refine ⟨.slice none 0 0, ?_, rfl, ?_⟩
        · simp [splitLines, hi]
        · have e1 : (splitLines () d false).tok = none := by simp [splitLines, hi]
          rw [e1]; rfl

/-- a split function without memory of its own -/
def noMem (_ : Unit) (o : List Nat) (_ : World) : Prop := o = []

/-- ScanLines keeps its word. -/
theorem lines_ok (cf : Cfg) (hf : cf.f = 59) (h1 : cf.first = #[]) (h2 : cf.cap = #[]) : SplitOK cf noMem splitLines true where
  enters := by rw [hf]; exact enters_of Tryd.func59 (by kernel_rfl) rfl
  stable := fun x o w w' h _ _ => h
  calls := by
    rintro w x o a n c d eof rfl _ _ _ hd hn hdc hc he _ _
    rw [hf, h1, h2]
    have := scanLines_any a n c d eof w hd hn hdc (by omega) he
    simp only [Array.append_empty, Array.empty_append]
    refine this.mono ?_
    rintro en w' ⟨tokv, he', rfl, ht⟩
    have hcode : (splitLines x d eof).code = 0 := by
      unfold splitLines
      split
      · rfl
      · split <;> rfl
    refine ⟨tokv, [], ?_, rfl, Off.refl _ _, Fresh.refl _ _, List.nodup_nil, (fun k hk => by cases hk), ht⟩
    rw [he', hcode]
    rfl
  fuel := fun x d b => .inr (.inr (Nat.le_succ _))
end Go.Proofs.YtkclapimgmnldaaDoor
