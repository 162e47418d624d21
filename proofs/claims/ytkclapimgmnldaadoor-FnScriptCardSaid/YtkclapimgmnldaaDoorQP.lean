/-
  Lines, in plain words: no program in sight.
-/
import Derived.Test.YtkclapimgmnldaaDoorQA
import Derived.Lib.IndexBytes
namespace Go.Proofs.YtkclapimgmnldaaDoor
set_option linter.unusedVariables false
set_option linter.unusedSimpArgs false
set_option maxRecDepth 20000

/-- the place of the first newline -/
def nlAt : List UInt8 → Option Nat
  | [] => none
  | c :: r => if c = 10 then some 0 else (nlAt r).map (· + 1)

/-- without one carriage return at the end -/
def noCR (l : List UInt8) : List UInt8 := if l.getLast? = some 13 then l.dropLast else l

/-- the lines of a text, as the reference makes them; cur is what stands behind the last newline -/
def linesFrom (cur : List UInt8) : List UInt8 → List (List UInt8)
  | [] => if cur = [] then [] else [cur]
  | c :: r => if c = 10 then noCR cur :: linesFrom [] r else linesFrom (cur ++ [c]) r
def lines (t : List UInt8) : List (List UInt8) := linesFrom [] t

/-- what ScanLines answers -/
def splitLines (_ : Unit) (d : List UInt8) (eof : Bool) : Ans Unit :=
  match nlAt d with
  | some i => ⟨(), ((i + 1 : Nat) : Int), some (noCR (d.take i)), 0⟩
  | none => if eof && !d.isEmpty then ⟨(), (d.length : Int), some (noCR d), 0⟩ else ⟨(), 0, none, 0⟩

theorem nlAt_some {d : List UInt8} : ∀ {i : Nat}, nlAt d = some i → d[i]? = some 10 ∧ (∀ j, j < i → d[j]? ≠ some 10) ∧ i < d.length := by
  induction d with
  | nil => intro i h; simp [nlAt] at h
  | cons c r ih =>
    intro i h
    unfold nlAt at h
    by_cases hc : c = 10
    · rw [if_pos hc] at h
      obtain rfl : i = 0 := (Option.some.inj h).symm
      exact ⟨by simp [hc], fun j hj => by omega, by simp⟩
    · rw [if_neg hc] at h
      obtain ⟨k, hk, rfl⟩ := Option.map_eq_some_iff.1 h
      obtain ⟨h1, h2, h3⟩ := ih hk
      refine ⟨by simpa using h1, fun j hj => ?_, by simp; omega⟩
      cases j with
      | zero => simpa using hc
      | succ j => simpa using h2 j (by omega)
theorem nlAt_none {d : List UInt8} : nlAt d = none → ∀ j : Nat, d[j]? ≠ some 10 := by
  induction d with
  | nil => intro _ j; simp
  | cons c r ih =>
    intro h j
    unfold nlAt at h
    by_cases hc : c = 10
    · rw [if_pos hc] at h; cases h
    · rw [if_neg hc] at h
      have := ih (by simpa using h)
      cases j with
      | zero => simpa using hc
      | succ j => simpa using this j
theorem nlAt_append_some {a : List UInt8} {i : Nat} (h : nlAt a = some i) (b : List UInt8) : nlAt (a ++ b) = some i := by
  induction a generalizing i with
  | nil => simp [nlAt] at h
  | cons c r ih =>
    unfold nlAt at h
    rw [List.cons_append]
    unfold nlAt
    by_cases hc : c = 10
    · rw [if_pos hc] at h ⊢; exact h
    · rw [if_neg hc] at h ⊢
      obtain ⟨k, hk, rfl⟩ := Option.map_eq_some_iff.1 h
      rw [ih hk]; rfl
theorem nlAt_append_none {a : List UInt8} (h : nlAt a = none) (b : List UInt8) : nlAt (a ++ b) = (nlAt b).map (· + a.length) := by
  induction a with
  | nil => simp
  | cons c r ih =>
    unfold nlAt at h
    by_cases hc : c = 10
    · rw [if_pos hc] at h; cases h
    · rw [if_neg hc] at h
      rw [List.cons_append]
      rw [show nlAt (c :: (r ++ b)) = (nlAt (r ++ b)).map (· + 1) by simp [nlAt, hc], ih (by simpa using h)]
      cases nlAt b <;> simp; omega

/-- the first line, and what stands behind it -/
def firstLine (t : List UInt8) : List UInt8 := match nlAt t with | some i => noCR (t.take i) | none => noCR t
def behind (t : List UInt8) : List UInt8 := match nlAt t with | some i => t.drop (i + 1) | none => []
/-- the first line has room -/
def fits (lim : Nat) (t : List UInt8) : Prop := match nlAt t with | some i => i < lim | none => t.length < lim

/-- a state of a scanner of lines that a run comes to: an error other than none comes only when all is read -/
def Fine (endE : Nat) (x : Sm Unit) : Prop := x.done = false ∧ x.emp = 0 ∧ ((x.err = none) ∨ (x.err = some endE ∧ x.rest = []))

/-- A round on lines, case by case. -/
theorem pre_lines (lim : Nat) (x : Sm Unit) : Sm.pre splitLines lim x =
    match nlAt x.pend with
    | some i => .inl (some (some (noCR (x.pend.take i))), { x with pend := x.pend.drop (i + 1), emp := 0 })
    | none => if x.err.isSome then (if x.pend = [] then .inl (some none, { x with pend := [] }) else .inl (some (some (noCR x.pend)), { x with pend := [], emp := 0 }))
      else if x.pend.length = lim then .inl (some none, x.setErr cTooLong) else .inr x := by
  obtain ⟨pend, rest, err, emp, done, sp⟩ := x
  cases hn : nlAt pend with
  | some i =>
    have hp : pend ≠ [] := fun h => by rw [h] at hn; simp [nlAt] at hn
    have hlt := (nlAt_some hn).2.2
    have h1 : ¬ ((i : Int) + 1 < 0) := by omega
    have h2 : ¬ ((pend.length : Int) < (i : Int) + 1) := by omega
    have h3 : (0 : Int) < (i : Int) + 1 := by omega
    simp only [Sm.pre, hp, ne_eq, not_false_eq_true, true_or, if_true, splitLines, hn, Sm.took]
    simp [h1, h2, h3]
  | none =>
    cases err with
    | some c =>
      by_cases hp : pend = []
      · subst hp
        simp [Sm.pre, splitLines, hn, Sm.took, Sm.after]
      · have h1 : ¬ ((pend.length : Nat) : Int) < 0 := by omega
        have he : pend.isEmpty = false := by cases pend with | nil => exact absurd rfl hp | cons _ _ => rfl
        simp only [Sm.pre, hp, ne_eq, not_false_eq_true, true_or, if_true, splitLines, hn, Sm.took, Option.isSome_some, he, Bool.not_false, Bool.and_self]
        simp [h1, hp]
    | none =>
      by_cases hp : pend = []
      · subst hp
        simp [Sm.pre, Sm.after]
      · have h1 : ¬ ((pend.length : Nat) : Int) < 0 := by omega
        simp [Sm.pre, hp, splitLines, hn, Sm.took, Sm.after, h1]

/-- Scan on lines never panics. -/
theorem lines_live (lim : Nat) (tog : Bool) (endE : Nat) : ∀ (k : Nat) (x : Sm Unit) (o : Out) (x' : Sm Unit), Sm.LoopN splitLines lim tog endE k x o x' → o ≠ none := by
  intro k
  induction k with
  | zero =>
    intro x o x' h
    simp only [Sm.LoopN, pre_lines] at h
    split at h
    · cases h; simp
    · split at h
      · split at h <;> cases h <;> simp
      · split at h
        · cases h; simp
        · cases h
  | succ k ih =>
    rintro x o x' ⟨x1, x2, _, _, h⟩
    exact ih _ _ _ h

theorem behind_drop {a b : List UInt8} {i : Nat} (h : nlAt a = some i) : behind (a ++ b) = a.drop (i + 1) ++ b := by
  have hlt := (nlAt_some h).2.2
  simp only [behind, nlAt_append_some h b]
  rw [List.drop_append_of_le_length (by omega)]
theorem firstLine_app {a b : List UInt8} {i : Nat} (h : nlAt a = some i) : firstLine (a ++ b) = noCR (a.take i) := by
  have hlt := (nlAt_some h).2.2
  simp only [firstLine, nlAt_append_some h b]
  rw [List.take_append_of_le_length (by omega)]

/-- One call of Scan on lines: the next line, or the end. -/
theorem scan_lines (lim : Nat) (tog : Bool) (endE : Nat) : ∀ (k : Nat) (x : Sm Unit) (o : Out) (x' : Sm Unit), Sm.LoopN splitLines lim tog endE k x o x' → Fine endE x → (x.pend ++ x.rest ≠ [] → fits lim (x.pend ++ x.rest)) → 0 < lim →
    Fine endE x' ∧ (x.pend ++ x.rest = [] → o = some none ∧ x'.pend = [] ∧ x'.rest = [] ∧ x'.err = some endE) ∧ (x.pend ++ x.rest ≠ [] → o = some (some (firstLine (x.pend ++ x.rest))) ∧ x'.pend ++ x'.rest = behind (x.pend ++ x.rest)) := by
  intro k
  induction k with
  | zero =>
    rintro x o x' h ⟨hd, hm, he⟩ hfit hlim
    simp only [Sm.LoopN, pre_lines] at h
    split at h
    · rename_i i hi
      cases h
      refine ⟨⟨hd, rfl, he⟩, fun h0 => ?_, fun _ => ⟨by rw [firstLine_app hi], (behind_drop hi).symm⟩⟩
      have := (List.append_eq_nil_iff.1 h0).1
      rw [this] at hi; simp [nlAt] at hi
    · rename_i hi
      split at h
      · rename_i hx
        have hr : x.err = some endE ∧ x.rest = [] := he.resolve_left fun h0 => by rw [h0] at hx; simp at hx
        split at h
        · rename_i hp
          cases h
          refine ⟨⟨hd, hm, .inr hr⟩, fun _ => ⟨rfl, rfl, hr.2, hr.1⟩, fun h0 => absurd (by rw [hp, hr.2]; rfl) h0⟩
        · rename_i hp
          cases h
          refine ⟨⟨hd, rfl, .inr hr⟩, fun h0 => absurd (List.append_eq_nil_iff.1 h0).1 hp, fun _ => ⟨?_, ?_⟩⟩
          · rw [hr.2, List.append_nil]; simp [firstLine, hi]
          · rw [hr.2]; simp [behind, hi]
      · split at h
        · rename_i hl
          exfalso
          have hne : x.pend ++ x.rest ≠ [] := fun h0 => by rw [(List.append_eq_nil_iff.1 h0).1] at hl; simp at hl; omega
          have := hfit hne
          unfold fits at this
          rw [nlAt_append_none hi] at this
          cases hb : nlAt x.rest with
          | none => rw [hb] at this; simp at this; omega
          | some j => rw [hb] at this; simp at this; omega
        · cases h
  | succ k ih =>
    rintro x o x' ⟨x1, x2, hpre, hrd, h⟩ ⟨hd, hm, he⟩ hfit hlim
    rw [pre_lines] at hpre
    split at hpre
    · cases hpre
    · split at hpre
      · split at hpre <;> cases hpre
      · rename_i hx
        split at hpre
        · cases hpre
        · cases hpre
          have hxe : x.err = none := by cases hxe : x.err with | none => rfl | some c => rw [hxe] at hx; simp at hx
          have key : Fine endE x2 ∧ x2.pend ++ x2.rest = x.pend ++ x.rest := by
            rcases hrd with ⟨hr, rfl⟩ | ⟨n, _, hn, _, rfl⟩
            · exact ⟨⟨hd, hm, .inr ⟨rfl, hr⟩⟩, rfl⟩
            · split
              · rename_i hb
                simp only [Bool.and_eq_true, beq_iff_eq] at hb
                exact ⟨⟨hd, hm, .inr ⟨rfl, by simp [hb.2]⟩⟩, by simp⟩
              · exact ⟨⟨hd, rfl, .inl hxe⟩, by simp⟩
          have := ih x2 o x' h key.1 (by rw [key.2]; exact hfit) hlim
          rw [key.2] at this
          exact this
end Go.Proofs.YtkclapimgmnldaaDoor

/-
  The reference's Lines: the list of a text's lines, in new memory.
-/
namespace Go.Proofs.YtkclapimgmnldaaDoor
set_option linter.unusedVariables false
set_option linter.unusedSimpArgs false
set_option maxRecDepth 20000
open Go.RowKit

theorem info_str : (Tryd.prog.info? 9).map (fun i => (i.zero, i.size, i.bytes)) = some (some (.string ⟨#[]⟩), 1, 16) := by kernel_rfl

/-- a text as a value -/
abbrev sv (l : List UInt8) : Value := .string ⟨l.toArray⟩

/-- a slice of texts that the call made: v holds the list xs -/
def StrsAt (base : Nat) (w : World) (v : Value) (xs : List (List UInt8)) : Prop := w.ownsRow base 9 1 v xs.length (xs.map sv)

/-- the state of the reference's loop behind k bytes: the lines so far, and where the current one begins -/
def linesTo (t : List UInt8) : Nat → List (List UInt8) × Nat
  | 0 => ([], 0)
  | k + 1 => if t[k]? = some 10 then ((linesTo t k).1 ++ [noCR ((t.take k).drop (linesTo t k).2)], k + 1) else linesTo t k

theorem linesTo_succ (t : List UInt8) (k : Nat) : linesTo t (k + 1) = if t[k]? = some 10 then ((linesTo t k).1 ++ [noCR ((t.take k).drop (linesTo t k).2)], k + 1) else linesTo t k := rfl
theorem linesFrom_cons (cur : List UInt8) (c : UInt8) (r : List UInt8) : linesFrom cur (c :: r) = if c = 10 then noCR cur :: linesFrom [] r else linesFrom (cur ++ [c]) r := rfl

theorem linesTo_le (t : List UInt8) (k : Nat) : (linesTo t k).2 ≤ k := by
  induction k with
  | zero => exact Nat.le_refl _
  | succ k ih =>
    rw [linesTo_succ]
    split
    · exact Nat.le_refl _
    · omega

theorem linesTo_spec (t : List UInt8) : ∀ k, k ≤ t.length → lines t = (linesTo t k).1 ++ linesFrom ((t.take k).drop (linesTo t k).2) (t.drop k) := by
  intro k
  induction k with
  | zero => intro _; simp [linesTo, lines]
  | succ k ih =>
    intro hk
    have hlt : k < t.length := by omega
    have hle := linesTo_le t k
    rw [ih (by omega), List.drop_eq_getElem_cons hlt, linesFrom_cons]
    have hg : t[k]? = some t[k] := List.getElem?_eq_getElem hlt
    by_cases hc : t[k] = 10
    · rw [if_pos hc]
      have e : linesTo t (k + 1) = ((linesTo t k).1 ++ [noCR ((t.take k).drop (linesTo t k).2)], k + 1) := by
        rw [linesTo_succ, if_pos (by rw [hg, hc])]
      rw [e]
      simp
    · rw [if_neg hc]
      have e : linesTo t (k + 1) = linesTo t k := by rw [linesTo_succ, if_neg (by rw [hg]; simpa using hc)]
      rw [e, List.take_succ_eq_append_getElem hlt, List.drop_append_of_le_length (by simp; omega)]

theorem linesTo_end (t : List UInt8) : lines t = (linesTo t t.length).1 ++ (if (linesTo t t.length).2 < t.length then [t.drop (linesTo t t.length).2] else []) := by
  have := linesTo_spec t t.length (Nat.le_refl _)
  rw [this]
  simp only [List.take_length, List.drop_length, linesFrom]
  congr 1
  have hle := linesTo_le t t.length
  by_cases h : (linesTo t t.length).2 < t.length
  · rw [if_pos h, if_neg]
    intro h0
    have := congrArg List.length h0
    simp at this
    omega
  · rw [if_neg h, if_pos]
    apply List.drop_of_length_le
    omega

theorem linesTo_mono (t : List UInt8) (k : Nat) : ∀ m, k ≤ m → (linesTo t k).1.length ≤ (linesTo t m).1.length := by
  intro m h
  induction m with
  | zero =>
    obtain rfl : k = 0 := by omega
    exact Nat.le_refl _
  | succ m ih =>
    rcases Nat.lt_or_ge m k with h1 | h1
    · obtain rfl : k = m + 1 := by omega
      exact Nat.le_refl _
    · have := ih h1
      rw [linesTo_succ]
      split
      · simp; omega
      · exact this
theorem linesTo_count (t : List UInt8) (k : Nat) (h : k ≤ t.length) : (linesTo t k).1.length ≤ (lines t).length := by
  have h1 := linesTo_mono t k t.length h
  have h2 := congrArg List.length (linesTo_end t)
  rw [List.length_append] at h2
  omega

theorem sv_extract (s : ByteArray) (f e : Nat) : Value.string (s.extract f e) = sv ((s.data.toList.take e).drop f) := by
  congr 1
  apply ByteArray.ext
  apply Array.ext'
  rw [ByteArray.data_extract, Array.toList_extract, List.extract_eq_take_drop]
  by_cases h : f ≤ e
  · rw [List.take_drop, show f + (e - f) = e by omega]
  · rw [show e - f = 0 by omega, List.take_zero]
    symm
    apply List.drop_of_length_le
    simp; omega

/-- behind an append of one line -/
theorem strs_push {base : Nat} {w1 : World} {v : Value} {xs : List (List UInt8)} {u : Value} {x : List UInt8} (h : w1.ownsRow base 9 1 v (xs.length + 1) (xs.map sv ++ [u])) (hu : u = sv x) : StrsAt base w1 v (xs ++ [x]) := by
  subst hu
  unfold StrsAt
  simpa using h

theorem lines_below {w wr w1 : World} {v : Value} {xs : List (List UInt8)} {o : Obj} (hb : Below w.heap.size w wr) (h : StrsAt w.heap.size wr v xs) (hg : (wr.alloc o).grownBy w1 v.ownBlock) : Below w.heap.size w w1 :=
  (hb.alloc hb.size o).grown hg (by have := hb.size; simp; omega) fun k hk => (World.ownsRow.lt h k hk).1

theorem take_drop_last (t : List UInt8) (f k : Nat) (hk : k ≤ t.length) (hf : f < k) : ((t.take k).drop f).getLast? = t[k - 1]? := by
  rw [List.getLast?_eq_getElem?, List.getElem?_drop, List.getElem?_take]
  simp only [List.length_drop, List.length_take, Nat.min_eq_left hk]
  rw [if_pos (by omega), show f + (k - f - 1) = k - 1 by omega]
theorem noCR_take_drop_cut (t : List UInt8) (f k : Nat) (hk : k ≤ t.length) (hf : f < k) (h : t[k - 1]? = some 13) : noCR ((t.take k).drop f) = (t.take (k - 1)).drop f := by
  unfold noCR
  rw [if_pos (by rw [take_drop_last t f k hk hf, h]), List.dropLast_eq_take]
  simp only [List.length_drop, List.length_take, Nat.min_eq_left hk]
  rw [List.take_drop, List.take_take, show min (f + (k - f - 1)) k = k - 1 by omega]
theorem noCR_take_drop_keep (t : List UInt8) (f k : Nat) (hk : k ≤ t.length) (h : f < k → t[k - 1]? ≠ some 13) : noCR ((t.take k).drop f) = (t.take k).drop f := by
  unfold noCR
  by_cases hf : f < k
  · rw [if_neg (by rw [take_drop_last t f k hk hf]; exact h hf)]
  · rw [if_neg]
    rw [List.drop_of_length_le (by simp; omega)]
    simp

set_option maxHeartbeats 2000000 in
theorem specLines_any (s : ByteArray) (w : World) (hs : s.size ≤ 140737488355328) (hcap : (lines s.data.toList).length * 16 ≤ 140737488355328) :
    Calls Tryd.prog 25 #[.string s] w fun e w' => ∃ v, e = .returned v ∧ StrsAt w.heap.size w' v (lines s.data.toList) ∧ Below w.heap.size w w' := by
  obtain ⟨i0, hi, hz0, hz1, hz2⟩ := info_parts info_str
  go_enter Tryd.func25, Tryd.ntmps25
  go_wp2_with fail
  go_loopw [3, 4, 5] (fun v f i wr => ∃ k : Nat, k ≤ s.size ∧ i = .int .i64 k ∧ f = .int .i64 ((linesTo s.data.toList k).2 : Nat) ∧ StrsAt w.heap.size wr v (linesTo s.data.toList k).1 ∧ Below w.heap.size w wr)
    (fun _ _ i _ => s.size - (intOf i).toNat)
  case atStart => exact ⟨0, Nat.zero_le _, rfl, rfl, World.ownsRow_made _ _ _ (Nat.le_refl _) (by decide) rfl, (Below.refl _ _).alloc (Nat.le_refl _) _⟩
  case round =>
    obtain ⟨k, hk, rfl, rfl, hown, hbel⟩ := hrel
    have hfk := linesTo_le s.data.toList k
    have HS := Lib.hid (linesTo_succ s.data.toList k)
    have HC := Lib.hid (linesTo_count s.data.toList k (by simpa using hk))
    have HE := Lib.hid (linesTo_end s.data.toList)
    have HB := Lib.hid hbel
    have HO := Lib.hid hown
    clear hown hbel
    by_cases hlt : k < s.size
    · have hg : s.data.toList[k]? = some s[k] := by simp [hlt]; rfl
      have HG := Lib.hid hg
      clear hg
      by_cases hc : s[k] = 10
      · have hcb : ((s[k].toNat : Int) != 10) = false := by rw [hc]; rfl
        have hcnt : (linesTo s.data.toList k).1.length + 1 ≤ (lines s.data.toList).length := by
          have := linesTo_count s.data.toList (k + 1) (by simp; omega)
          rw [HS.out, if_pos (by rw [HG.out, hc])] at this
          simpa using this
        have hss := HS.out
        rw [if_pos (by rw [HG.out, hc])] at hss
        clear HS HC
        have HS := Lib.hid hss
        have HC := Lib.hid hcnt
        have hk' : k ≤ s.data.toList.length := by simpa using hk
        clear hss hcnt
        by_cases hf : (linesTo s.data.toList k).2 < k
        · obtain ⟨j, rfl⟩ : ∃ j, k = j + 1 := ⟨k - 1, by omega⟩
          have hj1 : j < s.size := by omega
          have hgj : s.data.toList[j]? = some s[j] := by simp [hj1]; rfl
          have HJ := Lib.hid hgj
          clear hgj
          by_cases hr : s[j] = 13
          · have hrb : ((s[j].toNat : Int) == 13) = true := by rw [hr]; rfl
            have hcut := Lib.hid (noCR_take_drop_cut s.data.toList (linesTo s.data.toList (j + 1)).2 (j + 1) hk' hf (by rw [Nat.add_sub_cancel, HJ.out, hr]))
            clear hk'
            go_wp2_with (first
              | (at_builtin; refine wpList_append_own _ rfl _ _ 30 rfl w.heap.size 9 i0 (.string ⟨#[]⟩) 1 16 (by kernel_rfl) hi hz0 hz1 hz2 rfl (by decide) _ _ _ rfl (HO.out.alloc _) ⟨wr.heap.size, 0, none⟩ 1 1 [.string (s.extract (linesTo s.data.toList (j + 1)).2 j)] rfl rfl ?c1 ?c2 ?c3 ?c4 ?c5 ?_)
              | go_in)
            case c1 =>
              intro j u hj
              match j, hj with
              | 0, hj => simp at hj; subst hj; simp [Addr.add]
            case c2 => intro u hu; simp at hu; subst hu; rfl
            case c3 => have := HC.out; unfold maxLen; omega
            case c4 => have := HC.out; omega
            case c5 => have := HB.out.size; simp; omega
            · intro v' w1 hown' hgrow _
              have HN := Lib.hid (strs_push hown' ((sv_extract _ _ _).trans (congrArg sv hcut.out.symm)))
              have HG' := Lib.hid (lines_below HB.out HO.out hgrow)
              clear hown' hgrow
              go_wp2_with fail
              go_roundw
              case rel =>
                refine ⟨(j + 1) + 1, by omega, by go_num, ?_, ?_, HG'.out⟩
                · rw [HS.out]; go_num
                · rw [HS.out]; exact HN.out
              case measure => simp [intOf]; omega
          · have hrb : ((s[j].toNat : Int) == 13) = false := by
              have : s[j].toNat ≠ 13 := fun h => hr (UInt8.toNat_inj.1 (by simpa using h))
              simp; omega
            have hcut := Lib.hid (noCR_take_drop_keep s.data.toList (linesTo s.data.toList (j + 1)).2 (j + 1) hk' (fun _ => by rw [Nat.add_sub_cancel, HJ.out]; simpa using hr))
            clear hk'
            go_wp2_with (first
              | (at_builtin; refine wpList_append_own _ rfl _ _ 30 rfl w.heap.size 9 i0 (.string ⟨#[]⟩) 1 16 (by kernel_rfl) hi hz0 hz1 hz2 rfl (by decide) _ _ _ rfl (HO.out.alloc _) ⟨wr.heap.size, 0, none⟩ 1 1 [.string (s.extract (linesTo s.data.toList (j + 1)).2 (j + 1))] rfl rfl ?c1 ?c2 ?c3 ?c4 ?c5 ?_)
              | go_in)
            case c1 =>
              intro j u hj
              match j, hj with
              | 0, hj => simp at hj; subst hj; simp [Addr.add]
            case c2 => intro u hu; simp at hu; subst hu; rfl
            case c3 => have := HC.out; unfold maxLen; omega
            case c4 => have := HC.out; omega
            case c5 => have := HB.out.size; simp; omega
            · intro v' w1 hown' hgrow _
              have HN := Lib.hid (strs_push hown' ((sv_extract _ _ _).trans (congrArg sv hcut.out.symm)))
              have HG' := Lib.hid (lines_below HB.out HO.out hgrow)
              clear hown' hgrow
              go_wp2_with fail
              go_roundw
              case rel =>
                refine ⟨(j + 1) + 1, by omega, by go_num, ?_, ?_, HG'.out⟩
                · rw [HS.out]; go_num
                · rw [HS.out]; exact HN.out
              case measure => simp [intOf]; omega
        · have hcut := Lib.hid (noCR_take_drop_keep s.data.toList (linesTo s.data.toList k).2 k hk' (fun h => absurd h hf))
          clear hk'
          go_wp2_with (first
            | (at_builtin; refine wpList_append_own _ rfl _ _ 30 rfl w.heap.size 9 i0 (.string ⟨#[]⟩) 1 16 (by kernel_rfl) hi hz0 hz1 hz2 rfl (by decide) _ _ _ rfl (HO.out.alloc _) ⟨wr.heap.size, 0, none⟩ 1 1 [.string (s.extract (linesTo s.data.toList k).2 k)] rfl rfl ?c1 ?c2 ?c3 ?c4 ?c5 ?_)
            | go_in)
          case c1 =>
            intro j u hj
            match j, hj with
            | 0, hj => simp at hj; subst hj; simp [Addr.add]
          case c2 => intro u hu; simp at hu; subst hu; rfl
          case c3 => have := HC.out; unfold maxLen; omega
          case c4 => have := HC.out; omega
          case c5 => have := HB.out.size; simp; omega
          · intro v' w1 hown' hgrow _
            have HN := Lib.hid (strs_push hown' ((sv_extract _ _ _).trans (congrArg sv hcut.out.symm)))
            have HG' := Lib.hid (lines_below HB.out HO.out hgrow)
            clear hown' hgrow
            go_wp2_with fail
            go_roundw
            case rel =>
              refine ⟨k + 1, by omega, by go_num, ?_, ?_, HG'.out⟩
              · rw [HS.out]; go_num
              · rw [HS.out]; exact HN.out
            case measure => simp [intOf]; omega
      · have hcb : ((s[k].toNat : Int) != 10) = true := by
          have : s[k].toNat ≠ 10 := fun h => hc (UInt8.toNat_inj.1 (by simpa using h))
          simp; omega
        go_wp2_with fail
        go_roundw
        case rel =>
          refine ⟨k + 1, by omega, by go_num, ?_, ?_, HB.out⟩
          · rw [HS.out, if_neg (by rw [HG.out]; simpa using hc)]
          · rw [HS.out, if_neg (by rw [HG.out]; simpa using hc)]; exact HO.out
        case measure => simp [intOf]; omega
    · obtain rfl : k = s.size := by omega
      have hlen : s.data.toList.length = s.size := by simp
      have hend := HE.out
      rw [hlen] at hend
      clear HE HS
      by_cases hf : (linesTo s.data.toList s.size).2 < s.size
      · rw [if_pos hf] at hend
        have hcnt : (linesTo s.data.toList s.size).1.length + 1 ≤ (lines s.data.toList).length := by rw [hend]; simp
        clear HC
        have HC := Lib.hid hcnt
        have HE := Lib.hid hend
        have hx : Value.string (s.extract (linesTo s.data.toList s.size).2 s.size) = sv (s.data.toList.drop (linesTo s.data.toList s.size).2) := by
          rw [sv_extract, List.take_of_length_le (by simp)]
        have HX := Lib.hid hx
        clear hcnt hend hx hlen
        go_wp2_with (first
          | (at_builtin; refine wpList_append_own _ rfl _ _ 30 rfl w.heap.size 9 i0 (.string ⟨#[]⟩) 1 16 (by kernel_rfl) hi hz0 hz1 hz2 rfl (by decide) _ _ _ rfl (HO.out.alloc _) ⟨wr.heap.size, 0, none⟩ 1 1 [.string (s.extract (linesTo s.data.toList s.size).2 s.size)] rfl rfl ?c1 ?c2 ?c3 ?c4 ?c5 ?_)
          | go_in)
        case c1 =>
          intro j u hj
          match j, hj with
          | 0, hj => simp at hj; subst hj; simp [Addr.add]
        case c2 => intro u hu; simp at hu; subst hu; rfl
        case c3 => have := HC.out; unfold maxLen; omega
        case c4 => have := HC.out; omega
        case c5 => have := HB.out.size; simp; omega
        · intro v' w1 hown' hgrow _
          have HN := Lib.hid (strs_push hown' HX.out)
          have HG' := Lib.hid (lines_below HB.out HO.out hgrow)
          clear hown' hgrow
          go_wp2_with fail
          go_ret
          exact ⟨_, rfl, by rw [HE.out]; exact HN.out, HG'.out⟩
      · rw [if_neg hf, List.append_nil] at hend
        have HE := Lib.hid hend
        clear hend hlen
        go_wp2_with fail
        go_ret
        exact ⟨_, rfl, by rw [HE.out]; exact HO.out, HB.out⟩
end Go.Proofs.YtkclapimgmnldaaDoor

/-
  All tokens of a scanner of lines, in plain words.
-/
namespace Go.Proofs.YtkclapimgmnldaaDoor
set_option linter.unusedVariables false
set_option linter.unusedSimpArgs false
set_option maxRecDepth 20000

theorem linesFrom_some (t : List UInt8) : ∀ (cur : List UInt8) (i : Nat), nlAt t = some i → linesFrom cur t = noCR (cur ++ t.take i) :: linesFrom [] (t.drop (i + 1)) := by
  induction t with
  | nil => intro cur i h; simp [nlAt] at h
  | cons c r ih =>
    intro cur i h
    unfold nlAt at h
    rw [linesFrom_cons]
    by_cases hc : c = 10
    · rw [if_pos hc] at h ⊢
      obtain rfl : i = 0 := (Option.some.inj h).symm
      simp
    · rw [if_neg hc] at h ⊢
      obtain ⟨k, hk, rfl⟩ := Option.map_eq_some_iff.1 h
      rw [ih _ k hk]
      simp
theorem linesFrom_none (t : List UInt8) : ∀ (cur : List UInt8), nlAt t = none → linesFrom cur t = if cur ++ t = [] then [] else [cur ++ t] := by
  induction t with
  | nil => intro cur _; simp [linesFrom]
  | cons c r ih =>
    intro cur h
    unfold nlAt at h
    rw [linesFrom_cons]
    by_cases hc : c = 10
    · rw [if_pos hc] at h; cases h
    · rw [if_neg hc] at h ⊢
      rw [ih _ (by simpa using h)]
      simp
theorem lines_some {t : List UInt8} {i : Nat} (h : nlAt t = some i) : lines t = noCR (t.take i) :: lines (t.drop (i + 1)) := by
  have := linesFrom_some t [] i h
  simpa [lines] using this
theorem lines_none {t : List UInt8} (h : nlAt t = none) (h0 : t ≠ []) : lines t = [t] := by
  have := linesFrom_none t [] h
  rw [List.nil_append, if_neg h0] at this
  exact this
theorem lines_nil : lines [] = [] := rfl

/-- the tokens: the lines, the last one without a carriage return too -/
def toks : Nat → List UInt8 → List (List UInt8)
  | 0, _ => []
  | n + 1, t => if t = [] then [] else firstLine t :: toks n (behind t)
theorem behind_lt {t : List UInt8} (h : t ≠ []) : (behind t).length < t.length := by
  have := List.length_pos_iff.2 h
  unfold behind
  split
  · rename_i i hi
    simp; omega
  · simpa using this
theorem toks_more (n : Nat) : ∀ (m : Nat) (t : List UInt8), t.length ≤ n → t.length ≤ m → toks n t = toks m t := by
  induction n with
  | zero =>
    intro m t h _
    obtain rfl : t = [] := List.length_eq_zero_iff.1 (by omega)
    cases m <;> simp [toks]
  | succ n ih =>
    intro m t h1 h2
    cases m with
    | zero =>
      obtain rfl : t = [] := List.length_eq_zero_iff.1 (by omega)
      simp [toks]
    | succ m =>
      simp only [toks]
      by_cases h0 : t = []
      · rw [if_pos h0, if_pos h0]
      · rw [if_neg h0, if_neg h0]
        have := behind_lt h0
        rw [ih m (behind t) (by omega) (by omega)]
def tokens (t : List UInt8) : List (List UInt8) := toks t.length t
theorem tokens_nil : tokens [] = [] := rfl
theorem tokens_cons {t : List UInt8} (h : t ≠ []) : tokens t = firstLine t :: tokens (behind t) := by
  have h1 := behind_lt h
  unfold tokens
  obtain ⟨n, hn⟩ : ∃ n, t.length = n + 1 := ⟨t.length - 1, by omega⟩
  rw [hn]
  rw [show toks (n + 1) t = firstLine t :: toks n (behind t) by simp [toks, h]]
  rw [toks_more n (behind t).length (behind t) (by omega) (Nat.le_refl _)]
theorem tokens_some {t : List UInt8} {i : Nat} (h : nlAt t = some i) : tokens t = noCR (t.take i) :: tokens (t.drop (i + 1)) := by
  have h0 : t ≠ [] := fun e => by rw [e] at h; simp [nlAt] at h
  rw [tokens_cons h0]
  simp [firstLine, behind, h]
theorem tokens_none {t : List UInt8} (h : nlAt t = none) (h0 : t ≠ []) : tokens t = [noCR t] := by
  rw [tokens_cons h0]
  simp [firstLine, behind, h, tokens_nil]

/-- where the text does not end with a carriage return, the tokens are the lines -/
theorem tokens_lines : ∀ (n : Nat) (t : List UInt8), t.length ≤ n → t.getLast? ≠ some 13 → tokens t = lines t := by
  intro n
  induction n with
  | zero =>
    intro t h _
    obtain rfl : t = [] := List.length_eq_zero_iff.1 (by omega)
    rfl
  | succ n ih =>
    intro t h hl
    by_cases h0 : t = []
    · subst h0; rfl
    · cases hn : nlAt t with
      | none =>
        rw [tokens_none hn h0, lines_none hn h0]
        simp [noCR, hl]
      | some i =>
        have hlt := (nlAt_some hn).2.2
        rw [tokens_some hn, lines_some hn, ih (t.drop (i + 1)) (by simp; omega) ?_]
        rw [List.getLast?_drop]
        split
        · simp
        · exact hl
/-- where it does, the last one loses it -/
theorem tokens_loose : ∀ (n : Nat) (t : List UInt8), t.length ≤ n → t.getLast? = some 13 → ∃ l z, lines t = l ++ [z] ∧ z.getLast? = some 13 ∧ tokens t = l ++ [z.dropLast] := by
  intro n
  induction n with
  | zero =>
    intro t h h1
    obtain rfl : t = [] := List.length_eq_zero_iff.1 (by omega)
    simp at h1
  | succ n ih =>
    intro t h hl
    have h0 : t ≠ [] := fun e => by rw [e] at hl; simp at hl
    cases hn : nlAt t with
    | none =>
      refine ⟨[], t, ?_, hl, ?_⟩
      · rw [lines_none hn h0]; rfl
      · rw [tokens_none hn h0]
        simp [noCR, hl]
    | some i =>
      have hlt := (nlAt_some hn).2.2
      have hi := (nlAt_some hn).1
      have hd : (t.drop (i + 1)).getLast? = some 13 := by
        rw [List.getLast?_drop]
        rw [if_neg]
        · exact hl
        · intro hle
          rw [List.getLast?_eq_getElem?, show t.length - 1 = i by omega, hi] at hl
          cases hl
      obtain ⟨l, z, h1, h2, h3⟩ := ih (t.drop (i + 1)) (by simp; omega) hd
      refine ⟨noCR (t.take i) :: l, z, ?_, h2, ?_⟩
      · rw [lines_some hn, h1]; rfl
      · rw [tokens_some hn, h3]; rfl

/-- all lines have room -/
def Roomy (lim : Nat) (t : List UInt8) : Prop := ∀ l ∈ lines t, l.length + 2 < lim
theorem noCR_len (d : List UInt8) : d.length ≤ (noCR d).length + 1 := by
  unfold noCR; split
  · simp; omega
  · omega
theorem Roomy.fits {lim : Nat} {t : List UInt8} (h : Roomy lim t) (h0 : t ≠ []) : fits lim t := by
  unfold Go.Proofs.YtkclapimgmnldaaDoor.fits
  split
  · rename_i i hi
    have hlt := (nlAt_some hi).2.2
    have := h (noCR (t.take i)) (by rw [lines_some hi]; simp)
    have h2 := noCR_len (t.take i)
    simp at h2
    omega
  · rename_i hi
    have := h t (by rw [lines_none hi h0]; simp)
    omega
theorem Roomy.behind {lim : Nat} {t : List UInt8} (h : Roomy lim t) : Roomy lim (behind t) := by
  intro l hl
  unfold Go.Proofs.YtkclapimgmnldaaDoor.behind at hl
  split at hl
  · rename_i i hi
    exact h l (by rw [lines_some hi]; simp [hl])
  · simp [lines_nil] at hl
end Go.Proofs.YtkclapimgmnldaaDoor

/-
  Rooms and what has room in them, in plain words: no program in sight.
-/
namespace Go.Proofs.YtkclapimgmnldaaDoor
set_option linter.unusedVariables false
set_option linter.unusedSimpArgs false
set_option maxRecDepth 20000

/-- the number that a token's size must be less than -/
def limitN (d : Bool) (c m : Int) : Nat := if d then 65536 else max c.toNat m.toNat
/-- a room's memory is within what a machine has -/
def sizedB (d : Bool) (c m : Int) : Bool := d || (decide (c ≤ 1000000) && decide (m ≤ 1000000))
/-- a text ends with a carriage return -/
def looseB (t : List UInt8) : Bool := t.getLast? == some 13
/-- all texts, with some more bytes each, are shorter than a number -/
def belowB (xs : List (List UInt8)) (more n : Int) : Bool := xs.all fun x => decide ((x.length : Int) + more < n)
/-- the lines of a text are fixed in a room -/
def linedB (t : List UInt8) (d : Bool) (c m : Int) : Bool := sizedB d c m && decide (3 ≤ limitN d c m) && !looseB t && belowB (lines t) 2 (limitN d c m)

theorem limitN_le {d : Bool} {c m : Int} (h : sizedB d c m = true) : limitN d c m ≤ 1000000 := by
  unfold sizedB at h
  unfold limitN
  cases d with
  | true => simp
  | false =>
    simp at h
    simp
    omega
theorem sizedB_cases {d : Bool} {c m : Int} (h : sizedB d c m = true) : d = true ∨ (d = false ∧ c ≤ 1000000 ∧ m ≤ 1000000) := by
  unfold sizedB at h
  cases d with
  | true => exact .inl rfl
  | false =>
    simp at h
    exact .inr ⟨rfl, h⟩
theorem belowB_roomy {t : List UInt8} {n : Nat} (h : belowB (lines t) 2 n = true) : Roomy n t := by
  intro l hl
  unfold belowB at h
  have := List.all_eq_true.1 h l hl
  simp at this
  omega
structure LinedF (t : List UInt8) (d : Bool) (c m : Int) : Prop where
  sized : sizedB d c m = true
  three : 3 ≤ limitN d c m
  last : t.getLast? ≠ some 13
  roomy : Roomy (limitN d c m) t
theorem LinedF.of {t : List UInt8} {d : Bool} {c m : Int} (h : linedB t d c m = true) : LinedF t d c m := by
  unfold linedB at h
  simp only [Bool.and_eq_true, decide_eq_true_eq] at h
  obtain ⟨⟨⟨h1, h2⟩, h3⟩, h4⟩ := h
  refine ⟨h1, h2, ?_, belowB_roomy h4⟩
  intro h5
  rw [looseB, h5] at h3
  simp at h3
theorem LinedF.tokens {t : List UInt8} {d : Bool} {c m : Int} (h : LinedF t d c m) : tokens t = lines t := tokens_lines t.length t (Nat.le_refl _) h.last

theorem toks_len (n : Nat) : ∀ t : List UInt8, (toks n t).length ≤ n := by
  induction n with
  | zero => intro t; simp [toks]
  | succ n ih =>
    intro t
    simp only [toks]
    split
    · simp
    · have := ih (behind t)
      simp; omega
theorem tokens_len (t : List UInt8) : (Go.Proofs.YtkclapimgmnldaaDoor.tokens t).length ≤ t.length := toks_len _ _
theorem linesFrom_len (t : List UInt8) : ∀ cur : List UInt8, (linesFrom cur t).length ≤ t.length + (if cur = [] then 0 else 1) := by
  induction t with
  | nil => intro cur; simp only [linesFrom]; split <;> simp
  | cons c r ih =>
    intro cur
    rw [linesFrom_cons]
    split
    · have := ih []
      simp at this
      simp; omega
    · have := ih (cur ++ [c])
      simp at this
      simp; omega
theorem lines_len (t : List UInt8) : (lines t).length ≤ t.length := by
  have := linesFrom_len t []
  simpa [lines] using this
end Go.Proofs.YtkclapimgmnldaaDoor

/-
  Plain facts on lines that single laws want: no program in sight.
-/
namespace Go.Proofs.YtkclapimgmnldaaDoor
set_option linter.unusedVariables false
set_option linter.unusedSimpArgs false
set_option maxRecDepth 20000

theorem linesFrom_join (b : List UInt8) (a : List UInt8) : ∀ cur : List UInt8, linesFrom cur (a ++ 10 :: b) = linesFrom cur (a ++ [10]) ++ lines b := by
  induction a with
  | nil =>
    intro cur
    simp [linesFrom_cons, linesFrom, lines]
  | cons c r ih =>
    intro cur
    rw [List.cons_append, List.cons_append, linesFrom_cons, linesFrom_cons]
    split
    · rw [ih []]; rfl
    · rw [ih _]
theorem lines_join (a b : List UInt8) : lines (a ++ 10 :: b) = lines (a ++ [10]) ++ lines b := linesFrom_join b a []

theorem nlAt_line {l : List UInt8} (h : ∀ c ∈ l, c ≠ 10) (r : List UInt8) : nlAt (l ++ 10 :: r) = some l.length := by
  induction l with
  | nil => simp [nlAt]
  | cons c l ih =>
    have hc := h c (by simp)
    rw [List.cons_append]
    unfold nlAt
    rw [if_neg hc, ih (fun x hx => h x (by simp [hx]))]
    simp
theorem noCR_none {l : List UInt8} (h : ∀ c ∈ l, c ≠ 13) : noCR l = l := by
  unfold noCR
  rw [if_neg]
  intro h1
  have := List.mem_of_getLast? h1
  exact h 13 this rfl
theorem lines_line {l : List UInt8} (h : ∀ c ∈ l, c ≠ 10 ∧ c ≠ 13) (r : List UInt8) : lines (l ++ 10 :: r) = l :: lines r := by
  rw [lines_some (nlAt_line (fun c hc => (h c hc).1) r)]
  have h1 : (l ++ 10 :: r).take l.length = l := by simp
  have h2 : (l ++ 10 :: r).drop (l.length + 1) = r := by
    rw [← List.drop_drop]; simp
  rw [h1, h2, noCR_none (fun c hc => (h c hc).2)]

/-- texts put together from lines -/
def joinL (ls : List (List UInt8)) : List UInt8 := ls.flatMap fun l => l ++ [10]
theorem joinL_snoc (ls : List (List UInt8)) (l : List UInt8) : joinL (ls ++ [l]) = joinL ls ++ (l ++ [10]) := by simp [joinL]
theorem lines_joinL (ls : List (List UInt8)) (h : ∀ l ∈ ls, ∀ c ∈ l, c ≠ 10 ∧ c ≠ 13) : lines (joinL ls) = ls := by
  induction ls with
  | nil => rfl
  | cons l ls ih =>
    have e : joinL (l :: ls) = l ++ 10 :: joinL ls := by simp [joinL]
    rw [e, lines_line (h l (by simp)), ih (fun x hx => h x (by simp [hx]))]

/-- a carriage return ahead of each newline -/
def withCR (t : List UInt8) : List UInt8 := t.flatMap fun c => if c = 10 then [13, 10] else [c]
theorem withCR_snoc (t : List UInt8) (c : UInt8) : withCR (t ++ [c]) = withCR t ++ (if c = 10 then [13, 10] else [c]) := by simp [withCR]
theorem withCR_len (t : List UInt8) : (withCR t).length ≤ 2 * t.length := by
  induction t with
  | nil => simp [withCR]
  | cons c r ih =>
    have e : withCR (c :: r) = (if c = 10 then [13, 10] else [c]) ++ withCR r := by simp [withCR]
    rw [e, List.length_append, List.length_cons]
    split <;> simp <;> omega
theorem linesFrom_withCR (t : List UInt8) : ∀ cur : List UInt8, (∀ c ∈ t, c ≠ 13) → (∀ c ∈ cur, c ≠ 13) → linesFrom cur (withCR t) = linesFrom cur t := by
  induction t with
  | nil => intro cur _ _; rfl
  | cons c r ih =>
    intro cur h1 h2
    have e : withCR (c :: r) = (if c = 10 then [13, 10] else [c]) ++ withCR r := by simp [withCR]
    rw [e, linesFrom_cons]
    by_cases hc : c = 10
    · rw [if_pos hc, if_pos hc]
      show linesFrom cur (13 :: 10 :: withCR r) = _
      rw [linesFrom_cons, if_neg (by decide), linesFrom_cons, if_pos rfl, ih [] (fun c hc => h1 c (by simp [hc])) (by simp), noCR_none h2]
      congr 1
      simp [noCR]
    · rw [if_neg hc, if_neg hc]
      show linesFrom cur (c :: withCR r) = _
      rw [linesFrom_cons, if_neg hc]
      refine ih _ (fun c hc => h1 c (by simp [hc])) (fun x hx => ?_)
      rcases List.mem_append.1 hx with hx | hx
      · exact h2 x hx
      · simp at hx; subst hx; exact h1 x (by simp)
theorem lines_withCR (t : List UInt8) (h : ∀ c ∈ t, c ≠ 13) : lines (withCR t) = lines t := linesFrom_withCR t [] h (by simp)

theorem noCR_mem {l : List UInt8} {c : UInt8} (h : c ∈ noCR l) : c ∈ l := by
  unfold noCR at h
  split at h
  · exact List.dropLast_subset _ h
  · exact h
theorem linesFrom_nonl (t : List UInt8) : ∀ (cur x : List UInt8), (∀ c ∈ cur, c ≠ 10) → x ∈ linesFrom cur t → ∀ c ∈ x, c ≠ 10 := by
  induction t with
  | nil =>
    intro cur x h hx
    simp only [linesFrom] at hx
    split at hx
    · cases hx
    · simp at hx; subst hx; exact h
  | cons a r ih =>
    intro cur x h hx
    rw [linesFrom_cons] at hx
    split at hx
    · rcases List.mem_cons.1 hx with rfl | hx
      · exact fun c hc => h c (noCR_mem hc)
      · exact ih [] x (by simp) hx
    · rename_i ha
      refine ih _ x (fun c hc => ?_) hx
      rcases List.mem_append.1 hc with hc | hc
      · exact h c hc
      · simp at hc; subst hc; exact ha
theorem lines_nonl {t x : List UInt8} (hx : x ∈ lines t) : ∀ c ∈ x, c ≠ 10 := linesFrom_nonl t [] x (by simp) hx

/-- newlines, and one more at the end -/
def nlTo (t : List UInt8) : Nat → Nat
  | 0 => 0
  | k + 1 => nlTo t k + (if t[k]? = some 10 ∨ k + 1 = t.length then 1 else 0)
theorem nlTo_succ (t : List UInt8) (k : Nat) : nlTo t (k + 1) = nlTo t k + (if t[k]? = some 10 ∨ k + 1 = t.length then 1 else 0) := rfl
theorem nlTo_le (t : List UInt8) (k : Nat) : nlTo t k ≤ k := by
  induction k with
  | zero => exact Nat.le_refl _
  | succ k ih => rw [nlTo_succ]; split <;> omega
theorem nlTo_lines (t : List UInt8) : ∀ k, k < t.length → nlTo t k = (linesTo t k).1.length := by
  intro k
  induction k with
  | zero => intro _; rfl
  | succ k ih =>
    intro h
    rw [nlTo_succ, linesTo_succ, ih (by omega)]
    by_cases h1 : t[k]? = some 10
    · rw [if_pos (.inl h1), if_pos h1]; simp
    · rw [if_neg (by rintro (h2 | h2); exact h1 h2; omega), if_neg h1]; rfl
theorem nlTo_all (t : List UInt8) : nlTo t t.length = (lines t).length := by
  rw [linesTo_end]
  cases hl : t.length with
  | zero =>
    obtain rfl : t = [] := List.length_eq_zero_iff.1 hl
    rfl
  | succ k =>
    have hk := nlTo_lines t k (by omega)
    rw [nlTo_succ, if_pos (.inr (by omega)), hk, linesTo_succ]
    have hle := linesTo_le t k
    by_cases h1 : t[k]? = some 10
    · rw [if_pos h1]; simp
    · rw [if_neg h1, if_pos (by omega)]; simp
end Go.Proofs.YtkclapimgmnldaaDoor
