/-
  The reference's Words: the list of a text's words, in new memory.
-/
import Derived.Test.YtkafojdjadnfaaaDoorSpecW
import Derived.Test.YtkafojdjadnfaaaDoorSpecLines
namespace Go.Proofs.YtkafojdjadnfaaaDoor
set_option linter.unusedVariables false
set_option linter.unusedSimpArgs false
set_option maxRecDepth 20000
open Go.RowKit

/-- where the reference's loop stands: the words so far, where the current one begins, the place -/
def WI (t : List UInt8) (xs : List (List UInt8)) (f k : Nat) : Prop := words t = xs ++ wordsFrom ((t.take k).drop f) (t.drop k)
theorem WI.start (t : List UInt8) : WI t [] 0 0 := by simp [WI, words]
theorem drop_ne {t : List UInt8} {k : Nat} (h : k < t.length) : t.drop k ≠ [] := fun e => by have := congrArg List.length e; simp at this; omega
theorem WI.le {t : List UInt8} {k : Nat} (hk : k < t.length) : k + (dec (t.drop k)).2 ≤ t.length := by
  have := dec_le (drop_ne hk)
  simp at this
  omega
theorem take_drop_nil (t : List UInt8) (k : Nat) : (t.take k).drop k = [] := List.drop_of_length_le (by rw [List.length_take]; omega)
theorem WI.app {t : List UInt8} {xs : List (List UInt8)} {f k : Nat} (h : WI t xs f k) (hk : k < t.length) (hf : f < k) (hs : spaceN (dec (t.drop k)).1 = true) : WI t (xs ++ [(t.take k).drop f]) (k + (dec (t.drop k)).2) (k + (dec (t.drop k)).2) := by
  unfold WI at h ⊢
  have hne : (t.take k).drop f ≠ [] := fun e => by have := congrArg List.length e; rw [List.length_drop, List.length_take, List.length_nil] at this; omega
  rw [h, wordsFrom_space _ (drop_ne hk) hs, if_neg hne, List.drop_drop, take_drop_nil]
  simp
theorem WI.skip {t : List UInt8} {xs : List (List UInt8)} {k : Nat} (h : WI t xs k k) (hk : k < t.length) (hs : spaceN (dec (t.drop k)).1 = true) : WI t xs (k + (dec (t.drop k)).2) (k + (dec (t.drop k)).2) := by
  unfold WI at h ⊢
  rw [h, wordsFrom_space _ (drop_ne hk) hs, take_drop_nil, List.drop_drop, take_drop_nil]
  simp
theorem WI.word {t : List UInt8} {xs : List (List UInt8)} {f k : Nat} (h : WI t xs f k) (hk : k < t.length) (hf : f ≤ k) (hs : spaceN (dec (t.drop k)).1 = false) : WI t xs f (k + (dec (t.drop k)).2) := by
  have hle := WI.le hk
  unfold WI at h ⊢
  rw [h, wordsFrom_word _ (drop_ne hk) hs, List.drop_drop]
  congr 2
  rw [List.take_add, List.drop_append_of_le_length (by simp; omega)]
theorem WI.fin {t : List UInt8} {xs : List (List UInt8)} {f : Nat} (h : WI t xs f t.length) : words t = xs ++ (if f < t.length then [t.drop f] else []) := by
  unfold WI at h
  rw [h, List.take_length, List.drop_length, wordsFrom_nil]
  congr 1
  by_cases hf : f < t.length
  · rw [if_pos hf, if_neg (drop_ne hf)]
  · rw [if_neg hf, if_pos (List.drop_of_length_le (by omega))]
theorem WI.count {t : List UInt8} {xs : List (List UInt8)} {f k : Nat} (h : WI t xs f k) : xs.length ≤ (words t).length := by
  unfold WI at h
  rw [h]; simp

set_option maxHeartbeats 2000000 in
theorem specWords_any (s : ByteArray) (w : World) (hs : s.size ≤ 140737488355328) (hcap : (words s.data.toList).length * 16 ≤ 140737488355328) :
    Calls Tryd.prog 31 #[.string s] w fun e w' => ∃ v, e = .returned v ∧ StrsAt w.heap.size w' v (words s.data.toList) ∧ Below w.heap.size w w' := by
  obtain ⟨i0, hi, hz0, hz1, hz2⟩ := info_parts info_str
  have hlen : s.data.toList.length = s.size := by simp
  have HLen := Lib.hid hlen
  have HDec := Lib.hid (fun p w hp => specDecode_any s p w hp (by omega))
  have HSp := Lib.hid specSpace_any
  clear hlen
  go_enter Tryd.func31, Tryd.ntmps31
  go_wp2_with fail
  go_loopw [3, 4, 5] (fun v fi i wr => ∃ (k f : Nat) (xs : List (List UInt8)), k ≤ s.size ∧ f ≤ k ∧ i = .int .i64 k ∧ fi = .int .i64 f ∧ Hid (WI s.data.toList xs f k) ∧ Hid (StrsAt w.heap.size wr v xs) ∧ Hid (Below w.heap.size w wr))
    (fun _ _ i _ => s.size - (intOf i).toNat)
  case atStart => exact ⟨0, 0, [], Nat.zero_le _, Nat.le_refl _, rfl, rfl, Lib.hid (WI.start _), Lib.hid (World.ownsRow_made _ _ _ (Nat.le_refl _) (by decide) rfl), Lib.hid ((Below.refl _ _).alloc (Nat.le_refl _) _)⟩
  case round =>
    obtain ⟨k, f, xs, hk, hfk, rfl, rfl, HW, HO, HB⟩ := hrel
    by_cases hlt : k < s.size
    · have hlt' : k < s.data.toList.length := by rw [HLen.out]; exact hlt
      have HDk := Lib.hid (fun w => HDec.out k w hlt)
      have HSk := Lib.hid (fun w => HSp.out (dec (s.data.toList.drop k)).1 w)
      have hpos := dec_pos (s.data.toList.drop k)
      have hle := WI.le hlt'
      rw [HLen.out] at hle
      cases hsp : spaceN (dec (s.data.toList.drop k)).1 with
      | false =>
        have HW2 := Lib.hid (HW.out.word hlt' hfk hsp)
        rw [hsp] at HSk
        clear hsp HW hlt'
        generalize dec (s.data.toList.drop k) = rk at *
        obtain ⟨r, m⟩ := rk
        go_wp2_with fail
        refine (HDk.out _).mono ?_
        rintro e w2 ⟨rfl, rfl⟩
        go_wp2_with fail
        refine (HSk.out _).mono ?_
        rintro e w3 ⟨rfl, rfl⟩
        go_wp2_with fail
        go_roundw
        case rel => exact ⟨k + m, f, xs, hle, by omega, by go_num, rfl, HW2, HO, HB⟩
        case measure => simp [intOf]; omega
      | true =>
        rw [hsp] at HSk
        by_cases hff : f < k
        · have hw2 := HW.out.app hlt' hff hsp
          have hcnt := hw2.count
          rw [List.length_append, List.length_singleton] at hcnt
          have HC := Lib.hid hcnt
          have HW2 := Lib.hid hw2
          clear hsp HW hlt' hw2 hcnt
          generalize dec (s.data.toList.drop k) = rk at *
          obtain ⟨r, m⟩ := rk
          go_wp2_with fail
          refine (HDk.out _).mono ?_
          rintro e w2 ⟨rfl, rfl⟩
          go_wp2_with fail
          refine (HSk.out _).mono ?_
          rintro e w3 ⟨rfl, rfl⟩
          go_wp2_with (first
            | (at_builtin; refine wpList_append_own _ rfl _ _ 25 rfl w.heap.size 9 i0 (.string ⟨#[]⟩) 1 16 (by kernel_rfl) hi hz0 hz1 hz2 rfl (by decide) _ _ _ rfl (HO.out.alloc _) ⟨wr.heap.size, 0, none⟩ 1 1 [.string (s.extract f k)] rfl rfl ?c1 ?c2 ?c3 ?c4 ?c5 ?_)
            | go_in)
          case c1 =>
            intro j u hj
            match j, hj with
            | 0, hj => simp at hj; subst hj; simp [Addr.add]
          case c2 => intro u hu; simp at hu; subst hu; rfl
          case c3 => have := HC.out; unfold maxLen; omega
          case c4 => have := HC.out; omega
          case c5 => have := HB.out.size; simp; omega
          · intro v' w1 hown' hgrow _
            have HN := Lib.hid (strs_push hown' (sv_extract _ _ _))
            have HG' := Lib.hid (lines_below HB.out HO.out hgrow)
            clear hown' hgrow
            go_wp2_with fail
            go_roundw
            case rel => exact ⟨k + m, k + m, _, hle, Nat.le_refl _, by go_num, by go_num, HW2, HN, HG'⟩
            case measure => simp [intOf]; omega
        · obtain rfl : f = k := by omega
          have HW2 := Lib.hid (HW.out.skip hlt' hsp)
          clear hsp HW hlt'
          generalize dec (s.data.toList.drop f) = rk at *
          obtain ⟨r, m⟩ := rk
          go_wp2_with fail
          refine (HDk.out _).mono ?_
          rintro e w2 ⟨rfl, rfl⟩
          go_wp2_with fail
          refine (HSk.out _).mono ?_
          rintro e w3 ⟨rfl, rfl⟩
          go_wp2_with fail
          go_roundw
          case rel => exact ⟨f + m, f + m, xs, hle, Nat.le_refl _, by go_num, by go_num, HW2, HO, HB⟩
          case measure => simp [intOf]; omega
    · obtain rfl : k = s.size := by omega
      have hend := HW.out
      rw [← HLen.out] at hend
      have hend := hend.fin
      rw [HLen.out] at hend
      clear HW
      by_cases hf : f < s.size
      · rw [if_pos hf] at hend
        have hcnt : xs.length + 1 ≤ (words s.data.toList).length := by rw [hend]; simp
        have HC := Lib.hid hcnt
        have HE := Lib.hid hend
        have hx : Value.string (s.extract f s.size) = sv (s.data.toList.drop f) := by
          rw [sv_extract, List.take_of_length_le (by simp)]
        have HX := Lib.hid hx
        clear hcnt hend hx
        go_wp2_with (first
          | (at_builtin; refine wpList_append_own _ rfl _ _ 25 rfl w.heap.size 9 i0 (.string ⟨#[]⟩) 1 16 (by kernel_rfl) hi hz0 hz1 hz2 rfl (by decide) _ _ _ rfl (HO.out.alloc _) ⟨wr.heap.size, 0, none⟩ 1 1 [.string (s.extract f s.size)] rfl rfl ?c1 ?c2 ?c3 ?c4 ?c5 ?_)
          | go_in)
        case c1 =>
          intro j u hj
          match j, hj with
          | 0, hj => simp at hj; subst hj; simp [Addr.add]
        case c2 => intro u hu; simp at hu; subst hu; rfl
        case c3 => have := HC.out; unfold maxLen; omega
        case c4 => have := HC.out; omega
        case c5 => have := HB.out.size; simp; omega
        · intro v' w1 hown' hgrow _
          have HN := Lib.hid (strs_push hown' HX.out)
          have HG' := Lib.hid (lines_below HB.out HO.out hgrow)
          clear hown' hgrow
          go_wp2_with fail
          go_ret
          exact ⟨_, rfl, by rw [HE.out]; exact HN.out, HG'.out⟩
      · rw [if_neg hf, List.append_nil] at hend
        have HE := Lib.hid hend
        clear hend
        go_wp2_with fail
        go_ret
        exact ⟨_, rfl, by rw [HE.out]; exact HO.out, HB.out⟩
end Go.Proofs.YtkafojdjadnfaaaDoor
