/-
  The reference's Lines: the list of a text's lines, in new memory.
-/
import Derived.Test.YtkclapimgmnldaaDoorBase
import Derived.Test.YtkclapimgmnldaaDoorPlain
import Derived.Lib.IndexBytes
namespace Go.Proofs.YtkclapimgmnldaaDoor
set_option linter.unusedVariables false
set_option linter.unusedSimpArgs false
set_option maxRecDepth 20000
open Go.RowKit

theorem info_str : (Tryd.prog.info? 9).map (fun i => (i.zero, i.size, i.bytes)) = some (some (.string ⟨#[]⟩), 1, 16) := by kernel_rfl

/-- a text as a value -/
abbrev sv (l : List UInt8) : Value := .string ⟨l.toArray⟩

/-- a slice of texts that the call made: v holds the list xs -/
def StrsAt (base : Nat) (w : World) (v : Value) (xs : List (List UInt8)) : Prop := w.ownsRow base 9 1 v xs.length (xs.map sv)

/-- the state of the reference's loop behind k bytes: the lines so far, and where the current one begins -/
def linesTo (t : List UInt8) : Nat → List (List UInt8) × Nat
  | 0 => ([], 0)
  | k + 1 => if t[k]? = some 10 then ((linesTo t k).1 ++ [noCR ((t.take k).drop (linesTo t k).2)], k + 1) else linesTo t k

theorem linesTo_succ (t : List UInt8) (k : Nat) : linesTo t (k + 1) = if t[k]? = some 10 then ((linesTo t k).1 ++ [noCR ((t.take k).drop (linesTo t k).2)], k + 1) else linesTo t k := rfl
theorem linesFrom_cons (cur : List UInt8) (c : UInt8) (r : List UInt8) : linesFrom cur (c :: r) = if c = 10 then noCR cur :: linesFrom [] r else linesFrom (cur ++ [c]) r := rfl

theorem linesTo_le (t : List UInt8) (k : Nat) : (linesTo t k).2 ≤ k := by
  induction k with
  | zero => exact Nat.le_refl _
  | succ k ih =>
    rw [linesTo_succ]
    split
    · exact Nat.le_refl _
    · omega

theorem linesTo_spec (t : List UInt8) : ∀ k, k ≤ t.length → lines t = (linesTo t k).1 ++ linesFrom ((t.take k).drop (linesTo t k).2) (t.drop k) := by
  intro k
  induction k with
  | zero => intro _; simp [linesTo, lines]
  | succ k ih =>
    intro hk
    have hlt : k < t.length := by omega
    have hle := linesTo_le t k
    rw [ih (by omega), List.drop_eq_getElem_cons hlt, linesFrom_cons]
    have hg : t[k]? = some t[k] := List.getElem?_eq_getElem hlt
    by_cases hc : t[k] = 10
    · rw [if_pos hc]
      have e : linesTo t (k + 1) = ((linesTo t k).1 ++ [noCR ((t.take k).drop (linesTo t k).2)], k + 1) := by
        rw [linesTo_succ, if_pos (by rw [hg, hc])]
      rw [e]
      simp
    · rw [if_neg hc]
      have e : linesTo t (k + 1) = linesTo t k := by rw [linesTo_succ, if_neg (by rw [hg]; simpa using hc)]
      rw [e, List.take_succ_eq_append_getElem hlt, List.drop_append_of_le_length (by simp; omega)]

theorem linesTo_end (t : List UInt8) : lines t = (linesTo t t.length).1 ++ (if (linesTo t t.length).2 < t.length then [t.drop (linesTo t t.length).2] else []) := by
  have := linesTo_spec t t.length (Nat.le_refl _)
  rw [this]
  simp only [List.take_length, List.drop_length, linesFrom]
  congr 1
  have hle := linesTo_le t t.length
  by_cases h : (linesTo t t.length).2 < t.length
  · rw [if_pos h, if_neg]
    intro h0
    have := congrArg List.length h0
    simp at this
    omega
  · rw [if_neg h, if_pos]
    apply List.drop_of_length_le
    omega

theorem linesTo_mono (t : List UInt8) (k : Nat) : ∀ m, k ≤ m → (linesTo t k).1.length ≤ (linesTo t m).1.length := by
  intro m h
  induction m with
  | zero =>
    obtain rfl : k = 0 := by omega
    exact Nat.le_refl _
  | succ m ih =>
    rcases Nat.lt_or_ge m k with h1 | h1
    · obtain rfl : k = m + 1 := by omega
      exact Nat.le_refl _
    · have := ih h1
      rw [linesTo_succ]
      split
      · simp; omega
      · exact this
theorem linesTo_count (t : List UInt8) (k : Nat) (h : k ≤ t.length) : (linesTo t k).1.length ≤ (lines t).length := by
  have h1 := linesTo_mono t k t.length h
  have h2 := congrArg List.length (linesTo_end t)
  rw [List.length_append] at h2
  omega

theorem sv_extract (s : ByteArray) (f e : Nat) : Value.string (s.extract f e) = sv ((s.data.toList.take e).drop f) := by
  congr 1
  apply ByteArray.ext
  apply Array.ext'
  rw [ByteArray.data_extract, Array.toList_extract, List.extract_eq_take_drop]
  by_cases h : f ≤ e
  · rw [List.take_drop, show f + (e - f) = e by omega]
  · rw [show e - f = 0 by omega, List.take_zero]
    symm
    apply List.drop_of_length_le
    simp; omega

/-- behind an append of one line -/
theorem strs_push {base : Nat} {w1 : World} {v : Value} {xs : List (List UInt8)} {u : Value} {x : List UInt8} (h : w1.ownsRow base 9 1 v (xs.length + 1) (xs.map sv ++ [u])) (hu : u = sv x) : StrsAt base w1 v (xs ++ [x]) := by
  subst hu
  unfold StrsAt
  simpa using h

theorem lines_below {w wr w1 : World} {v : Value} {xs : List (List UInt8)} {o : Obj} (hb : Below w.heap.size w wr) (h : StrsAt w.heap.size wr v xs) (hg : (wr.alloc o).grownBy w1 v.ownBlock) : Below w.heap.size w w1 :=
  (hb.alloc hb.size o).grown hg (by have := hb.size; simp; omega) fun k hk => (World.ownsRow.lt h k hk).1

theorem take_drop_last (t : List UInt8) (f k : Nat) (hk : k ≤ t.length) (hf : f < k) : ((t.take k).drop f).getLast? = t[k - 1]? := by
  rw [List.getLast?_eq_getElem?, List.getElem?_drop, List.getElem?_take]
  simp only [List.length_drop, List.length_take, Nat.min_eq_left hk]
  rw [if_pos (by omega), show f + (k - f - 1) = k - 1 by omega]
theorem noCR_take_drop_cut (t : List UInt8) (f k : Nat) (hk : k ≤ t.length) (hf : f < k) (h : t[k - 1]? = some 13) : noCR ((t.take k).drop f) = (t.take (k - 1)).drop f := by
  unfold noCR
  rw [if_pos (by rw [take_drop_last t f k hk hf, h]), List.dropLast_eq_take]
  simp only [List.length_drop, List.length_take, Nat.min_eq_left hk]
  rw [List.take_drop, List.take_take, show min (f + (k - f - 1)) k = k - 1 by omega]
theorem noCR_take_drop_keep (t : List UInt8) (f k : Nat) (hk : k ≤ t.length) (h : f < k → t[k - 1]? ≠ some 13) : noCR ((t.take k).drop f) = (t.take k).drop f := by
  unfold noCR
  by_cases hf : f < k
  · rw [if_neg (by rw [take_drop_last t f k hk hf]; exact h hf)]
  · rw [if_neg]
    rw [List.drop_of_length_le (by simp; omega)]
    simp

set_option maxHeartbeats 2000000 in
theorem specLines_any (s : ByteArray) (w : World) (hs : s.size ≤ 140737488355328) (hcap : (lines s.data.toList).length * 16 ≤ 140737488355328) :
    Calls Tryd.prog 25 #[.string s] w fun e w' => ∃ v, e = .returned v ∧ StrsAt w.heap.size w' v (lines s.data.toList) ∧ Below w.heap.size w w' := by
  obtain ⟨i0, hi, hz0, hz1, hz2⟩ := info_parts info_str
  go_enter Tryd.func25, Tryd.ntmps25
  go_wp2_with fail
  go_loopw [3, 4, 5] (fun v f i wr => ∃ k : Nat, k ≤ s.size ∧ i = .int .i64 k ∧ f = .int .i64 ((linesTo s.data.toList k).2 : Nat) ∧ StrsAt w.heap.size wr v (linesTo s.data.toList k).1 ∧ Below w.heap.size w wr)
    (fun _ _ i _ => s.size - (intOf i).toNat)
  case atStart => exact ⟨0, Nat.zero_le _, rfl, rfl, World.ownsRow_made _ _ _ (Nat.le_refl _) (by decide) rfl, (Below.refl _ _).alloc (Nat.le_refl _) _⟩
  case round =>
    obtain ⟨k, hk, rfl, rfl, hown, hbel⟩ := hrel
    have hfk := linesTo_le s.data.toList k
    have HS := Lib.hid (linesTo_succ s.data.toList k)
    have HC := Lib.hid (linesTo_count s.data.toList k (by simpa using hk))
    have HE := Lib.hid (linesTo_end s.data.toList)
    have HB := Lib.hid hbel
    have HO := Lib.hid hown
    clear hown hbel
    by_cases hlt : k < s.size
    · have hg : s.data.toList[k]? = some s[k] := by simp [hlt]; rfl
      have HG := Lib.hid hg
      clear hg
      by_cases hc : s[k] = 10
      · have hcb : ((s[k].toNat : Int) != 10) = false := by rw [hc]; rfl
        have hcnt : (linesTo s.data.toList k).1.length + 1 ≤ (lines s.data.toList).length := by
          have := linesTo_count s.data.toList (k + 1) (by simp; omega)
          rw [HS.out, if_pos (by rw [HG.out, hc])] at this
          simpa using this
        have hss := HS.out
        rw [if_pos (by rw [HG.out, hc])] at hss
        clear HS HC
        have HS := Lib.hid hss
        have HC := Lib.hid hcnt
        have hk' : k ≤ s.data.toList.length := by simpa using hk
        clear hss hcnt
        by_cases hf : (linesTo s.data.toList k).2 < k
        · obtain ⟨j, rfl⟩ : ∃ j, k = j + 1 := ⟨k - 1, by omega⟩
          have hj1 : j < s.size := by omega
          have hgj : s.data.toList[j]? = some s[j] := by simp [hj1]; rfl
          have HJ := Lib.hid hgj
          clear hgj
          by_cases hr : s[j] = 13
          · have hrb : ((s[j].toNat : Int) == 13) = true := by rw [hr]; rfl
            have hcut := Lib.hid (noCR_take_drop_cut s.data.toList (linesTo s.data.toList (j + 1)).2 (j + 1) hk' hf (by rw [Nat.add_sub_cancel, HJ.out, hr]))
            clear hk'
            go_wp2_with (first
              | (at_builtin; refine wpList_append_own _ rfl _ _ 30 rfl w.heap.size 9 i0 (.string ⟨#[]⟩) 1 16 (by kernel_rfl) hi hz0 hz1 hz2 rfl (by decide) _ _ _ rfl (HO.out.alloc _) ⟨wr.heap.size, 0, none⟩ 1 1 [.string (s.extract (linesTo s.data.toList (j + 1)).2 j)] rfl rfl ?c1 ?c2 ?c3 ?c4 ?c5 ?_)
              | go_in)
            case c1 =>
              intro j u hj
              match j, hj with
              | 0, hj => simp at hj; subst hj; simp [Addr.add]
            case c2 => intro u hu; simp at hu; subst hu; rfl
            case c3 => have := HC.out; unfold maxLen; omega
            case c4 => have := HC.out; omega
            case c5 => have := HB.out.size; simp; omega
            · intro v' w1 hown' hgrow _
              have HN := Lib.hid (strs_push hown' ((sv_extract _ _ _).trans (congrArg sv hcut.out.symm)))
              have HG' := Lib.hid (lines_below HB.out HO.out hgrow)
              clear hown' hgrow
              go_wp2_with fail
              go_roundw
              case rel =>
                refine ⟨(j + 1) + 1, by omega, by go_num, ?_, ?_, HG'.out⟩
                · rw [HS.out]; go_num
                · rw [HS.out]; exact HN.out
              case measure => simp [intOf]; omega
          · have hrb : ((s[j].toNat : Int) == 13) = false := by
              have : s[j].toNat ≠ 13 := fun h => hr (UInt8.toNat_inj.1 (by simpa using h))
              simp; omega
            have hcut := Lib.hid (noCR_take_drop_keep s.data.toList (linesTo s.data.toList (j + 1)).2 (j + 1) hk' (fun _ => by rw [Nat.add_sub_cancel, HJ.out]; simpa using hr))
            clear hk'
            go_wp2_with (first
              | (at_builtin; refine wpList_append_own _ rfl _ _ 30 rfl w.heap.size 9 i0 (.string ⟨#[]⟩) 1 16 (by kernel_rfl) hi hz0 hz1 hz2 rfl (by decide) _ _ _ rfl (HO.out.alloc _) ⟨wr.heap.size, 0, none⟩ 1 1 [.string (s.extract (linesTo s.data.toList (j + 1)).2 (j + 1))] rfl rfl ?c1 ?c2 ?c3 ?c4 ?c5 ?_)
              | go_in)
            case c1 =>
              intro j u hj
              match j, hj with
              | 0, hj => simp at hj; subst hj; simp [Addr.add]
            case c2 => intro u hu; simp at hu; subst hu; rfl
            case c3 => have := HC.out; unfold maxLen; omega
            case c4 => have := HC.out; omega
            case c5 => have := HB.out.size; simp; omega
            · intro v' w1 hown' hgrow _
              have HN := Lib.hid (strs_push hown' ((sv_extract _ _ _).trans (congrArg sv hcut.out.symm)))
              have HG' := Lib.hid (lines_below HB.out HO.out hgrow)
              clear hown' hgrow
              go_wp2_with fail
              go_roundw
              case rel =>
                refine ⟨(j + 1) + 1, by omega, by go_num, ?_, ?_, HG'.out⟩
                · rw [HS.out]; go_num
                · rw [HS.out]; exact HN.out
              case measure => simp [intOf]; omega
        · have hcut := Lib.hid (noCR_take_drop_keep s.data.toList (linesTo s.data.toList k).2 k hk' (fun h => absurd h hf))
          clear hk'
          go_wp2_with (first
            | (at_builtin; refine wpList_append_own _ rfl _ _ 30 rfl w.heap.size 9 i0 (.string ⟨#[]⟩) 1 16 (by kernel_rfl) hi hz0 hz1 hz2 rfl (by decide) _ _ _ rfl (HO.out.alloc _) ⟨wr.heap.size, 0, none⟩ 1 1 [.string (s.extract (linesTo s.data.toList k).2 k)] rfl rfl ?c1 ?c2 ?c3 ?c4 ?c5 ?_)
            | go_in)
          case c1 =>
            intro j u hj
            match j, hj with
            | 0, hj => simp at hj; subst hj; simp [Addr.add]
          case c2 => intro u hu; simp at hu; subst hu; rfl
          case c3 => have := HC.out; unfold maxLen; omega
          case c4 => have := HC.out; omega
          case c5 => have := HB.out.size; simp; omega
          · intro v' w1 hown' hgrow _
            have HN := Lib.hid (strs_push hown' ((sv_extract _ _ _).trans (congrArg sv hcut.out.symm)))
            have HG' := Lib.hid (lines_below HB.out HO.out hgrow)
            clear hown' hgrow
            go_wp2_with fail
            go_roundw
            case rel =>
              refine ⟨k + 1, by omega, by go_num, ?_, ?_, HG'.out⟩
              · rw [HS.out]; go_num
              · rw [HS.out]; exact HN.out
            case measure => simp [intOf]; omega
      · have hcb : ((s[k].toNat : Int) != 10) = true := by
          have : s[k].toNat ≠ 10 := fun h => hc (UInt8.toNat_inj.1 (by simpa using h))
          simp; omega
        go_wp2_with fail
        go_roundw
        case rel =>
          refine ⟨k + 1, by omega, by go_num, ?_, ?_, HB.out⟩
          · rw [HS.out, if_neg (by rw [HG.out]; simpa using hc)]
          · rw [HS.out, if_neg (by rw [HG.out]; simpa using hc)]; exact HO.out
        case measure => simp [intOf]; omega
    · obtain rfl : k = s.size := by omega
      have hlen : s.data.toList.length = s.size := by simp
      have hend := HE.out
      rw [hlen] at hend
      clear HE HS
      by_cases hf : (linesTo s.data.toList s.size).2 < s.size
      · rw [if_pos hf] at hend
        have hcnt : (linesTo s.data.toList s.size).1.length + 1 ≤ (lines s.data.toList).length := by rw [hend]; simp
        clear HC
        have HC := Lib.hid hcnt
        have HE := Lib.hid hend
        have hx : Value.string (s.extract (linesTo s.data.toList s.size).2 s.size) = sv (s.data.toList.drop (linesTo s.data.toList s.size).2) := by
          rw [sv_extract, List.take_of_length_le (by simp)]
        have HX := Lib.hid hx
        clear hcnt hend hx hlen
        go_wp2_with (first
          | (at_builtin; refine wpList_append_own _ rfl _ _ 30 rfl w.heap.size 9 i0 (.string ⟨#[]⟩) 1 16 (by kernel_rfl) hi hz0 hz1 hz2 rfl (by decide) _ _ _ rfl (HO.out.alloc _) ⟨wr.heap.size, 0, none⟩ 1 1 [.string (s.extract (linesTo s.data.toList s.size).2 s.size)] rfl rfl ?c1 ?c2 ?c3 ?c4 ?c5 ?_)
          | go_in)
        case c1 =>
          intro j u hj
          match j, hj with
          | 0, hj => simp at hj; subst hj; simp [Addr.add]
        case c2 => intro u hu; simp at hu; subst hu; rfl
        case c3 => have := HC.out; unfold maxLen; omega
        case c4 => have := HC.out; omega
        case c5 => have := HB.out.size; simp; omega
        · intro v' w1 hown' hgrow _
          have HN := Lib.hid (strs_push hown' HX.out)
          have HG' := Lib.hid (lines_below HB.out HO.out hgrow)
          clear hown' hgrow
          go_wp2_with fail
          go_ret
          exact ⟨_, rfl, by rw [HE.out]; exact HN.out, HG'.out⟩
      · rw [if_neg hf, List.append_nil] at hend
        have HE := Lib.hid hend
        clear hend hlen
        go_wp2_with fail
        go_ret
        exact ⟨_, rfl, by rw [HE.out]; exact HO.out, HB.out⟩
end Go.Proofs.YtkclapimgmnldaaDoor
