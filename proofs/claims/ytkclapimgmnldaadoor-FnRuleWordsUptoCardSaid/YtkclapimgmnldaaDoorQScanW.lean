/-
  bufio.ScanWords: what one call answers; it keeps the word of a split function.
-/
import Derived.Test.YtkclapimgmnldaaDoorQRune
import Derived.Test.YtkclapimgmnldaaDoorQLines
import Derived.BigQuiet
namespace Go.Proofs.YtkclapimgmnldaaDoor
set_option linter.unusedVariables false
set_option linter.unusedSimpArgs false
set_option maxRecDepth 20000
open Go.RowKit

theorem bytes_below {w w' : World} {a : Option Addr} {d : List UInt8} (h : Bytes8 w a d) (hb : Below w.heap.size w w') : Bytes8 w' a d := by
  intro i c hc
  obtain ⟨b, o, e, hcell⟩ := h i c hc
  exact ⟨b, o, e, (hb.cell (p := ⟨b, o + i, none⟩) (World.block_lt_of_cell? w _ hcell)).trans hcell⟩
theorem tabs_below {w w' : World} (h : Tabs w) (hb : Below w.heap.size w w') : Tabs w' := Utf8Tabs_below h hb

theorem bel_drew {B : Nat} {a w : World} (h : Below B a w) (n : Nat) : Below B a (w.drewN n) := ⟨h.os, h.tape, h.output, h.size, h.block⟩

/-- DecodeRune within the data -/
theorem rune_in {w : World} {b o c : Nat} {d : List UInt8} (hT : Tabs w) (hd : Bytes8 w (some ⟨b, o, none⟩) d) (wr : World) (k : Nat) (hb : Below w.heap.size w wr) (hk : k < d.length) (n m : Nat) (hn : n = d.length - k) :
    Calls Tryd.prog 53 #[.slice (some ⟨b, o + k, none⟩) n m] wr fun e w' => e = .returned (.tuple #[.int .i32 (dec (d.drop k)).1, .int .i64 (dec (d.drop k)).2]) ∧ Below w.heap.size w w' := by
  have h1 := (bytes_below hd hb).part k (d.length - k)
  rw [List.take_of_length_le (by simp)] at h1
  have hne : d.drop k ≠ [] := fun e => by have := congrArg List.length e; simp at this; omega
  refine (decodeRune_any b (o + k) n m (d.drop k) wr (tabs_below hT hb) (by simp [hn]) h1 hne).mono ?_
  rintro e w' ⟨rfl, h2⟩
  exact ⟨rfl, hb.trans (h2.mono hb.size)⟩

/-- where the loops stand -/
theorem lead_step {d : List UInt8} {k : Nat} (hk : k < d.length) (hs : spaceN (dec (d.drop k)).1 = true) (h : lead d = k + lead (d.drop k)) : k + (dec (d.drop k)).2 ≤ d.length ∧ lead d = (k + (dec (d.drop k)).2) + lead (d.drop (k + (dec (d.drop k)).2)) := by
  have hne : d.drop k ≠ [] := fun e => by have := congrArg List.length e; simp at this; omega
  have h1 := dec_le hne
  rw [List.length_drop] at h1
  refine ⟨by omega, ?_⟩
  rw [h, lead_space hne hs, List.drop_drop]; omega
theorem lead_stop {d : List UInt8} {k : Nat} (h : lead d = k + lead (d.drop k)) (hs : k < d.length → spaceN (dec (d.drop k)).1 = false) : lead d = k := by
  by_cases hk : k < d.length
  · rw [lead_word (hs hk)] at h; omega
  · rw [List.drop_of_length_le (by omega), lead_nil] at h; omega
/-- the second loop's place -/
def SpI (d : List UInt8) (k : Nat) : Prop := spAt (trim d) = (spAt (d.drop k)).map fun p => (p.1 + (k - lead d), p.2)
theorem SpI.start (d : List UInt8) : SpI d (lead d) := by
  unfold SpI trim
  cases spAt (d.drop (lead d)) <;> simp
theorem SpI.step {d : List UInt8} {k : Nat} (h : SpI d k) (hl : lead d ≤ k) (hk : k < d.length) (hs : spaceN (dec (d.drop k)).1 = false) : k + (dec (d.drop k)).2 ≤ d.length ∧ SpI d (k + (dec (d.drop k)).2) := by
  have hne : d.drop k ≠ [] := fun e => by have := congrArg List.length e; simp at this; omega
  have h1 := dec_le hne
  rw [List.length_drop] at h1
  refine ⟨by omega, ?_⟩
  unfold SpI at h ⊢
  rw [h, spAt_word hne hs, List.drop_drop]
  cases spAt (d.drop (k + (dec (d.drop k)).2)) with
  | none => rfl
  | some p => simp; omega
theorem SpI.found {d : List UInt8} {k : Nat} (h : SpI d k) (hl : lead d ≤ k) (hk : k < d.length) (hs : spaceN (dec (d.drop k)).1 = true) : spAt (trim d) = some (k - lead d, (dec (d.drop k)).2) ∧ lead d < k := by
  have hne : d.drop k ≠ [] := fun e => by have := congrArg List.length e; simp at this; omega
  unfold SpI at h
  rw [spAt_space hne hs] at h
  refine ⟨by simpa using h, ?_⟩
  rcases Nat.lt_or_ge (lead d) k with h1 | h1
  · exact h1
  · obtain rfl : k = lead d := by omega
    rcases trim_head d with h2 | h2
    · exact absurd h2 hne
    · unfold trim at h2
      rw [h2] at hs; cases hs
theorem SpI.none {d : List UInt8} {k : Nat} (h : SpI d k) (hk : ¬ k < d.length) : spAt (trim d) = none := by
  unfold SpI at h
  rw [List.drop_of_length_le (by omega), spAt_nil] at h
  exact h

set_option maxHeartbeats 2000000 in
theorem scanWords_walk (b o c : Nat) (d : List UInt8) (eof : Bool) (w : World) (hT : Tabs w) (hd : Bytes8 w (some ⟨b, o, none⟩) d) (hdc : d.length ≤ c) (hc : c ≤ 9223372036854775807) (PP : Ending → World → Prop)
    (hp1 : ∀ (k m : Nat) (w' : World), lead d < k → k + m ≤ d.length → spAt (trim d) = some (k - lead d, m) → Below w.heap.size w w' → PP (.returned (.tuple #[.int .i64 ((k : Int) + (m : Int)), .slice (some ⟨b, o + lead d, none⟩) (k - lead d) (c - lead d), .nilIface])) w')
    (hp2 : ∀ (w' : World), lead d < d.length → spAt (trim d) = none → eof = true → Below w.heap.size w w' → PP (.returned (.tuple #[.int .i64 (d.length : Int), .slice (some ⟨b, o + lead d, none⟩) (d.length - lead d) (c - lead d), .nilIface])) w')
    (hp3 : ∀ (w' : World), spAt (trim d) = none → (eof = true → lead d = d.length) → Below w.heap.size w w' → PP (.returned (.tuple #[.int .i64 (lead d : Int), .slice none 0 0, .nilIface])) w') :
    Calls Tryd.prog 42 #[.slice (some ⟨b, o, none⟩) d.length c, .bool eof] w PP := by
  have HD := Lib.hid (fun wr k hb hk => rune_in (c := c) hT hd wr k hb hk)
  have HS := Lib.hid isSpace_any
  have hll := lead_le d
  have HP := Lib.hid (And.intro hp1 (And.intro hp2 hp3))
  clear hp1 hp2 hp3 hT hd
  go_enter Tryd.func42, Tryd.ntmps42
  go_wp2_with fail
  go_loopw [7] (fun i wr => ∃ k : Nat, i = .int .i64 k ∧ k ≤ d.length ∧ Hid (lead d = k + lead (d.drop k)) ∧ Hid (Below w.heap.size w wr)) (fun i _ => d.length - (intOf i).toNat)
  case atStart => exact ⟨0, rfl, Nat.zero_le _, Lib.hid (by simp), Lib.hid (Below.refl _ _)⟩
  case round =>
    obtain ⟨k, rfl, hk, hle, hb⟩ := hrel
    by_cases hlt : k < d.length ∧ spaceN (dec (d.drop k)).1 = true
    · obtain ⟨hlt, hs⟩ := hlt
      have HDk := Lib.hid (HD.out wr k hb.out hlt (d.length - k) (c - k) rfl)
      have hpos := dec_pos (d.drop k)
      have h4 := dec_four (d.drop k)
      obtain ⟨h5, h6⟩ := lead_step hlt hs hle.out
      have HH6 := Lib.hid h6
      have HSk := Lib.hid (HS.out (dec (d.drop k)).1)
      rw [hs] at HSk
      clear hle h6 hs
      have hkc : (k : Int) ≤ (c : Int) := by omega
      have hkc2 : k < c := by omega
      generalize dec (d.drop k) = rk at *
      obtain ⟨r, m⟩ := rk
      go_wp2_with fail
      refine HDk.out.mono ?_
      rintro e w2 ⟨rfl, hb2⟩
      have HB2 := Lib.hid hb2
      clear hb2 HDk hb
      go_wp2_with fail
      refine (HSk.out _).mono ?_
      rintro e w3 ⟨rfl, rfl⟩
      go_wp2_with fail
      go_roundw
      case rel => exact ⟨k + m, by go_num, h5, HH6, HB2⟩
      case measure => simp [intOf]; omega
    · have hL : lead d = k := lead_stop hle.out (fun h => by cases hs : spaceN (dec (d.drop k)).1 with | false => rfl | true => exact absurd ⟨h, hs⟩ hlt)
      have HI := Lib.hid (SpI.start d)
      have HSI := Lib.hid (fun j hj => @SpI.step d j hj)
      have HSF := Lib.hid (fun j hj => @SpI.found d j hj)
      rw [hL] at HI HSI HSF HP hll
      have hkc : (k : Int) ≤ (c : Int) := by omega
      by_cases hlt1 : k < d.length
      · have hs : spaceN (dec (d.drop k)).1 = false := by cases hs : spaceN (dec (d.drop k)).1 with | false => rfl | true => exact absurd ⟨hlt1, hs⟩ hlt
        have HDk := Lib.hid (HD.out wr k hb.out hlt1 (d.length - k) (c - k) rfl)
        have HSk := Lib.hid (HS.out (dec (d.drop k)).1)
        rw [hs] at HSk
        clear hle hs hlt hL
        have hkc2 : k < c := by omega
        generalize dec (d.drop k) = rk at *
        obtain ⟨r, m⟩ := rk
        go_wp2_with fail
        refine HDk.out.mono ?_
        rintro e w2 ⟨rfl, hb2⟩
        have HB2 := Lib.hid hb2
        clear hb2 HDk hb
        go_wp2_with fail
        refine (HSk.out _).mono ?_
        rintro e w3 ⟨rfl, rfl⟩
        clear HSk
        go_wp2_with fail
        go_loopw [11] (fun i wr => ∃ j : Nat, i = .int .i64 j ∧ k ≤ j ∧ j ≤ d.length ∧ Hid (SpI d j) ∧ Hid (Below w.heap.size w wr)) (fun i _ => d.length - (intOf i).toNat)
        case atStart => exact ⟨k, rfl, Nat.le_refl _, hll, HI, HB2⟩
        case round =>
          obtain ⟨j, rfl, hkj, hj, hsp, hb⟩ := hrel
          clear HB2 HI
          by_cases hjl : j < d.length
          · have HDk := Lib.hid (HD.out _ j hb.out hjl (d.length - j) (c - j) rfl)
            have hpos := dec_pos (d.drop j)
            have h4 := dec_four (d.drop j)
            have HSk := Lib.hid (HS.out (dec (d.drop j)).1)
            have hjc : (j : Int) ≤ (c : Int) := by omega
            have hjc2 : j < c := by omega
            have hne : d.drop j ≠ [] := fun e => by have := congrArg List.length e; simp at this; omega
            have hdl := dec_le hne
            rw [List.length_drop] at hdl
            clear hne
            cases hs : spaceN (dec (d.drop j)).1 with
            | true =>
              obtain ⟨h5, h6⟩ := HSF.out j hsp.out hkj hjl hs
              have HQ := Lib.hid (fun w' hb' => HP.out.1 j (dec (d.drop j)).2 w' h6 (by omega) h5 hb')
              rw [hs] at HSk
              clear h5 hs hsp HP HSF HSI HD
              have hkc2 : k < c := by omega
              have hkj2 : (k : Int) ≤ (j : Int) := by omega
              generalize dec (d.drop j) = rk at *
              obtain ⟨r, m⟩ := rk
              go_wp2_with fail
              refine HDk.out.mono ?_
              rintro e w4 ⟨rfl, hb2⟩
              have HB2 := Lib.hid hb2
              clear hb2 HDk hb
              go_wp2_with fail
              refine (HSk.out _).mono ?_
              rintro e w3 ⟨rfl, rfl⟩
              clear HSk
              go_wp2_with fail
              go_quiet (fail)
              go_wp2_with fail
              go_ret3
              exact HQ.out _ (bel_drew HB2.out _)
            | false =>
              obtain ⟨h5, h6⟩ := HSI.out j hsp.out hkj hjl hs
              have HH6 := Lib.hid h6
              rw [hs] at HSk
              clear h6 hs hsp HP HSF HSI HD
              generalize dec (d.drop j) = rk at *
              obtain ⟨r, m⟩ := rk
              go_wp2_with fail
              refine HDk.out.mono ?_
              rintro e w4 ⟨rfl, hb2⟩
              have HB2 := Lib.hid hb2
              clear hb2 HDk hb
              go_wp2_with fail
              refine (HSk.out _).mono ?_
              rintro e w3 ⟨rfl, rfl⟩
              go_wp2_with fail
              go_roundw
              case rel => exact ⟨j + m, by go_num, by omega, h5, HH6, HB2⟩
              case measure => simp [intOf]; omega
          · have hno := hsp.out.none hjl
            obtain rfl : j = d.length := by omega
            cases eof with
            | false =>
              have HQ := Lib.hid (fun w' hb' => HP.out.2.2 w' hno (fun h => by cases h) hb')
              clear HP HSF HSI HD hno hsp
              go_wp2_with fail
              go_ret3
              exact HQ.out _ hb.out
            | true =>
              by_cases hlt2 : k < d.length
              · have HQ := Lib.hid (fun w' hb' => HP.out.2.1 w' hlt2 hno rfl hb')
                clear HP HSF HSI HD hno hsp
                have hkc2 : k < c := by omega
                go_wp2_with fail
                go_quiet (fail)
                go_wp2_with fail
                go_ret3
                exact HQ.out _ (bel_drew hb.out _)
              · exact absurd hlt1 hlt2
      · have HB2 := hb
        obtain rfl : k = d.length := by omega
        have hno : spAt (trim d) = none := HI.out.none (by omega)
        have HQ := Lib.hid (fun w' hb' => HP.out.2.2 w' hno (fun _ => rfl) hb')
        clear hle hb hlt hL HP HSF HSI HD hno HI
        go_wp2_with fail
        go_loopw [11] (fun i wr => i = .int .i64 d.length ∧ Hid (Below w.heap.size w wr)) (fun i _ => d.length - (intOf i).toNat)
        case atStart => exact ⟨rfl, HB2⟩
        case round =>
          obtain ⟨rfl, hb⟩ := hrel
          cases eof with
          | false =>
            go_wp2_with fail
            go_ret3
            exact HQ.out _ hb.out
          | true =>
            go_wp2_with fail
            go_ret3
            exact HQ.out _ hb.out

set_option maxHeartbeats 1000000 in
/-- no data at the end of the input -/
theorem scanWords_end (a : Option Addr) (c : Nat) (w : World) :
    Calls Tryd.prog 42 #[.slice a 0 c, .bool true] w fun e w' => e = .returned (.tuple #[.int .i64 0, .slice none 0 0, .nilIface]) ∧ w = w' := by
  go_enter Tryd.func42, Tryd.ntmps42
  go_wp2_with fail
  go_loop [7] (fun i => i = .int .i64 0) (fun _ => 0)
  case atStart => rfl
  case round =>
    subst hrel
    go_wp2_with fail
    go_loop [11] (fun i => i = .int .i64 0) (fun _ => 0)
    case atStart => rfl
    case round =>
      subst hrel
      go_wp2_with fail
      go_ret3
      exact ⟨rfl, rfl⟩

/-- What ScanWords answers, in one. -/
theorem scanWords_any (a : Option Addr) (n c : Nat) (d : List UInt8) (eof : Bool) (w : World) (hT : Tabs w) (hd : Bytes8 w a d) (hn : d.length = n) (hdc : n ≤ c) (hc : c ≤ 9223372036854775807) (he : d = [] → eof = true) :
    Calls Tryd.prog 42 #[.slice a n c, .bool eof] w fun e w' => ∃ tokv, e = .returned (.tuple #[.int .i64 (splitWords () d eof).adv, tokv, .nilIface]) ∧ Below w.heap.size w w' ∧ TokAt w' true w.heap.size a tokv (splitWords () d eof).tok := by
  subst hn
  by_cases hne : d = []
  · subst hne
    obtain rfl := he rfl
    refine (scanWords_end a c w).mono ?_
    rintro e w' ⟨rfl, rfl⟩
    have e1 : splitWords () [] true = ⟨(), 0, none, 0⟩ := by simp [splitWords, trim_nil, spAt_nil, lead_nil]
    rw [e1]
    exact ⟨_, rfl, Below.refl _ _, rfl⟩
  · obtain ⟨b, o, rfl⟩ := hd.form hne
    have hlt : b < w.heap.size := by
      have := hd.at 0 (List.length_pos_iff.2 hne)
      exact World.block_lt_of_cell? w _ this
    have hll := lead_le d
    have htl := trim_len d
    have tokIn : ∀ (w' : World), Below w.heap.size w w' → ∀ m, m ≤ d.length - lead d → TokAt w' true w.heap.size (some ⟨b, o, none⟩) (.slice (some ⟨b, o + lead d, none⟩) m (c - lead d)) (some ((trim d).take m)) := fun w' hb m hm => by
      have hl : ((trim d).take m).length = m := by simp [htl]; omega
      refine ⟨⟨b, o + lead d, none⟩, c - lead d, by rw [hl], by omega, by omega, ?_, fun _ => ⟨Nat.lt_of_lt_of_le hlt hb.size, .inl ⟨_, rfl, rfl⟩⟩, fun _ _ => ⟨_, rfl, rfl⟩⟩
      exact (bytes_below hd hb).part (lead d) m
    refine scanWords_walk b o c d eof w hT hd hdc hc _ ?_ ?_ ?_
    · intro k m w' h1 h2 h3 hb
      have e1 : splitWords () d eof = ⟨(), ((lead d + (k - lead d) + m : Nat) : Int), some ((trim d).take (k - lead d)), 0⟩ := by simp [splitWords, h3]
      rw [e1]
      refine ⟨_, ?_, hb, tokIn w' hb (k - lead d) (by omega)⟩
      have : ((lead d + (k - lead d) + m : Nat) : Int) = (k : Int) + (m : Int) := by omega
      rw [this]
    · intro w' h1 h2 h3 hb
      have hie : (trim d).isEmpty = false := by cases h : trim d with | nil => rw [h] at htl; simp at htl; omega | cons _ _ => rfl
      have e1 : splitWords () d eof = ⟨(), (d.length : Int), some (trim d), 0⟩ := by simp [splitWords, h2, h3, hie]
      rw [e1]
      refine ⟨_, rfl, hb, ?_⟩
      have := tokIn w' hb (d.length - lead d) (Nat.le_refl _)
      rw [List.take_of_length_le (by omega)] at this
      exact this
    · intro w' h1 h2 hb
      have e1 : splitWords () d eof = ⟨(), (lead d : Int), none, 0⟩ := by
        have : (eof && !(trim d).isEmpty) = false := by
          cases eof with
          | false => rfl
          | true =>
            have h3 := h2 rfl
            have : trim d = [] := List.length_eq_zero_iff.1 (by omega)
            rw [this]; rfl
        simp [splitWords, h1, this]
      rw [e1]
      exact ⟨_, rfl, hb, rfl⟩

/-- a split function that reads the two tables -/
def tabMem (base : Nat) (_ : Unit) (o : List Nat) (w : World) : Prop := o = [] ∧ Tabs w ∧ 9 < base ∧ 10 < base
theorem tabs_on {base : Nat} {w w' : World} (h : Tabs w) (h1 : 9 < base) (h2 : 10 < base) (hb : Below base w w') : Tabs w' :=
  ⟨fun c hc => (hb.cell (p := ⟨_, c, none⟩) h1).trans (h.1 c hc), fun i hi => ⟨(hb.cell (p := ⟨_, 2 * i, none⟩) h2).trans (h.2 i hi).1, (hb.cell (p := ⟨_, 2 * i + 1, none⟩) h2).trans (h.2 i hi).2⟩⟩

/-- ScanWords keeps its word. -/
theorem words_ok (cf : Cfg) (hf : cf.f = 42) (h1 : cf.first = #[]) (h2 : cf.cap = #[]) : SplitOK cf (tabMem cf.base) splitWords true where
  enters := by rw [hf]; exact enters_of Tryd.func42 (by kernel_rfl) rfl
  stable := fun x o w w' h _ hb => ⟨h.1, tabs_on h.2.1 h.2.2.1 h.2.2.2 hb, h.2.2⟩
  calls := by
    rintro w x o a n c d eof ⟨rfl, hT, hg1, hg2⟩ _ _ _ hd hn hdc hc he _ _
    rw [hf, h1, h2]
    have := scanWords_any a n c d eof w hT hd hn hdc (by omega) he
    simp only [Array.append_empty, Array.empty_append]
    refine this.mono ?_
    rintro en w' ⟨tokv, he', hb, ht⟩
    have hcode : (splitWords x d eof).code = 0 := by
      unfold splitWords
      split
      · rfl
      · split <;> rfl
    refine ⟨tokv, [], ?_, ⟨rfl, tabs_below hT hb, hg1, hg2⟩, ⟨hb.os, hb.tape, hb.output, hb.size, fun k hk _ => hb.block k hk⟩, Fresh.refl _ _, List.nodup_nil, (fun k hk => by cases hk), ht⟩
    rw [he', hcode]
    rfl
  fuel := fun x d b => .inr (.inr (Nat.le_succ _))
end Go.Proofs.YtkclapimgmnldaaDoor
