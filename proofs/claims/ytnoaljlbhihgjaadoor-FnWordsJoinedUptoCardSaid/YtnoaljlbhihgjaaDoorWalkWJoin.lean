/-
  The walk of FnWordsJoined.
-/
import Derived.Test.YtnoaljlbhihgjaaDoorTrueW
import Derived.Test.YtnoaljlbhihgjaaDoorWordFacts
import Derived.Test.YtnoaljlbhihgjaaDoorApp
namespace Go.Proofs.YtnoaljlbhihgjaaDoor
set_option linter.unusedVariables false
set_option linter.unusedSimpArgs false
set_option maxRecDepth 20000
open Go.RowKit

section
variable {base : Nat} {w : World} {E : Nat → Addr} {a b : ByteArray}

abbrev spB : ByteArray := ⟨#[32]⟩
theorem ba_sp_b (a b : ByteArray) : (a ++ spB ++ b).data.toList = a.data.toList ++ 32 :: b.data.toList := by rw [ByteArray.data_append, ByteArray.data_append]; simp
theorem ba_szw (a : ByteArray) : a.data.toList.length = a.size := by simp

abbrev room1 : Obj := .cells #[.bool true, .int .i64 0, .int .i64 0] 26
theorem room_at1 {w w' : World} (hb : Below (w.alloc room1).heap.size (w.alloc room1) w') : w'.cell? ⟨w.heap.size, 0, none⟩ = some (.bool true) ∧ w'.cell? ⟨w.heap.size, 1, none⟩ = some (.int .i64 0) ∧ w'.cell? ⟨w.heap.size, 2, none⟩ = some (.int .i64 0) := by
  have h : (w.alloc room1).heap[w.heap.size]? = some room1 := heap_new w room1
  have h2 : w'.heap[w.heap.size]? = some room1 := (hb.block _ (by simp)).trans h
  exact ⟨cell_of_heap h2, cell_of_heap h2, cell_of_heap h2⟩

set_option maxHeartbeats 1000000 in
theorem fnWordsJoined_f1 (ha : a.size ≤ 4194304) (h1 : wordedB a.data.toList true 0 0 = false) : Calls Tryd.prog 5 #[.string a, .string b] w (TrueB w) := by
  have HL := Lib.hid (fun w' => worded_t (s := a) w' ha false h1)
  clear h1
  go_enter Tryd.func5, Tryd.ntmps5
  go_wp2_with fail
  refine (HL.out _).mono ?_
  rintro e w1 ⟨rfl, hb⟩
  go_wp2_with fail
  go_ret
  exact ⟨rfl, below_step ((Below.refl _ _).alloc (Nat.le_refl _) _) hb⟩

set_option maxHeartbeats 1000000 in
theorem fnWordsJoined_f2 (ha : a.size ≤ 4194304) (hbs : b.size ≤ 4194304) (h1 : wordedB a.data.toList true 0 0 = true) (h2 : wordedB b.data.toList true 0 0 = false) : Calls Tryd.prog 5 #[.string a, .string b] w (TrueB w) := by
  have HL := Lib.hid (fun w' => worded_t (s := a) w' ha true h1)
  have HL2 := Lib.hid (fun w' => worded_t (s := b) w' hbs false h2)
  clear h1 h2
  go_enter Tryd.func5, Tryd.ntmps5
  go_wp2_with fail
  refine (HL.out _).mono ?_
  rintro e w1 ⟨rfl, hb⟩
  obtain ⟨hc, hf⟩ := bcell hb
  have HB := Lib.hid (below_step ((Below.refl _ _).alloc (Nat.le_refl _) _) hb)
  clear hb
  go_wp2_with fail
  refine (HL2.out _).mono ?_
  rintro e w2 ⟨rfl, hb⟩
  clear hc hf
  go_wp2_with fail
  go_ret
  exact ⟨rfl, below_step HB.out hb⟩

set_option maxHeartbeats 1000000 in
theorem fnWordsJoined_t (hE : EnvT w.heap.size w E) (ha : a.size ≤ 4194304) (hbs : b.size ≤ 4194304) (hab : (a ++ spB ++ b).size ≤ 4194304) (h1 : wordedB a.data.toList true 0 0 = true) (h2 : wordedB b.data.toList true 0 0 = true) : Calls Tryd.prog 5 #[.string a, .string b] w (TrueB w) := by
  obtain ⟨i0, hi, hz0, hz1, hz2⟩ := info_parts info_str
  have HL := Lib.hid (fun w' => worded_t (s := a) w' ha true h1)
  have HL2 := Lib.hid (fun w' => worded_t (s := b) w' hbs true h2)
  have r1 := (wordedB_of h1).2
  have r2 := (wordedB_of h2).2
  have r3 : RoomyW 65536 (a ++ spB ++ b).data.toList := ⟨r1.1, fun l hl => by
    rw [ba_sp_b, words_blank] at hl
    rcases List.mem_append.1 hl with h | h
    · exact r1.2 l h
    · exact r2.2 l h⟩
  have HI := Lib.hid (fun w' (h : EnvT w.heap.size w' E) => implWords_any (s := a) h.e h.t ha r1)
  have HI2 := Lib.hid (fun w' (h : EnvT w.heap.size w' E) => implWords_any (s := b) h.e h.t hbs r2)
  have HI3 := Lib.hid (fun w' (h : EnvT w.heap.size w' E) => implWords_any (s := a ++ spB ++ b) h.e h.t hab r3)
  rw [ba_sp_b, words_blank] at HI3
  have HSp := Lib.hid (fun w' => specWordsG a w' ha)
  have hxl := words_len _ a.data.toList (Nat.le_refl _)
  have hyl := words_len _ b.data.toList (Nat.le_refl _)
  rw [ba_szw] at hxl hyl
  have HE := Lib.hid hE
  clear h1 h2 hE r1 r2 r3
  generalize words a.data.toList = xs at *
  generalize words b.data.toList = ys at *
  have hlen2 : ((xs.length : Int) == (xs.length : Int)) = true := by simp
  go_enter Tryd.func5, Tryd.ntmps5
  go_wp2_with fail
  refine (HL.out _).mono ?_
  rintro e w1 ⟨rfl, hb⟩
  obtain ⟨hc, hf⟩ := bcell hb
  have HB := Lib.hid (below_step ((Below.refl _ _).alloc (Nat.le_refl _) _) hb)
  have HR := Lib.hid hb
  clear hb
  go_wp2_with fail
  refine (HL2.out _).mono ?_
  rintro e w2 ⟨rfl, hb⟩
  have HB3 := Lib.hid (below_step HB.out hb)
  clear hb HB HR hc hf
  go_wp2_with fail
  refine (HI.out _ (HE.out.later HB3.out)).mono ?_
  rintro e w4 ⟨v4, rfl, hst, hb⟩
  have HB4 := Lib.hid (below_step HB3.out hb)
  have HX := Lib.hid (hst.mono HB3.out.size)
  clear hst hb HB3
  go_wp2_with fail
  refine (HI2.out _ (HE.out.later HB4.out)).mono ?_
  rintro e w5 ⟨v5, rfl, hst, hb⟩
  have HB5 := Lib.hid (below_step HB4.out hb)
  have HX5 := Lib.hid (HX.out.below hb)
  have HY5 := Lib.hid hst
  clear hst hb HB4 HX
  obtain ⟨x4, c4, e4, -, -, -⟩ := HX5.out.strs
  subst e4
  go_wp2_with fail
  refine (HSp.out _).mono ?_
  rintro e w5b ⟨v5b, rfl, hst, hb⟩
  have HB5b := Lib.hid (below_step HB5.out hb)
  have HX5b := Lib.hid (HX5.out.below hb)
  have HY5b := Lib.hid (HY5.out.below hb)
  obtain ⟨x5, c5, rfl, -, -, -⟩ := hst.strs
  clear hst hb HB5 HX5 HY5
  go_wp2_with fail
  refine (HI3.out _ (HE.out.later HB5b.out)).mono ?_
  rintro e w6 ⟨v6, rfl, hst, hb⟩
  have HB6 := Lib.hid (below_step HB5b.out hb)
  have HX6 := Lib.hid (HX5b.out.below hb)
  have HY6 := Lib.hid (HY5b.out.below hb).strs
  have hap : ∀ bb o k c, v6 = .slice (some ⟨bb, o, none⟩) k c → (Value.slice x4 xs.length c4).ownBlock ≠ some bb := by
    intro bb o k c e6 e7
    have h7 := (World.ownsRow.lt HX5b.out bb e7).2
    have h6 := (World.ownsRow.lt hst bb (by rw [e6]; rfl)).1
    omega
  have HZ6 := Lib.hid (And.intro hst.strs hap)
  clear hap
  clear hst hb HB5b HX5b HY5b
  have hnn : (xs.length + ys.length) * 16 ≤ 140737488355328 := by omega
  have HNN := Lib.hid hnn
  clear hnn
  go_wp2_with (refine wpList_append_strs (by rfl) (.tmp 35) (.tmp 36) (by rfl) w.heap.size _ _ xs ys (by rfl) (by rfl) HX6.out HY6.out HNN.out HB6.out.size ?_)
  intro v7 w7 hst hgr hat
  have HB7 := Lib.hid (HB6.out.trans (grown_below HX6.out HB6.out.size hgr))
  have HZ7 := Lib.hid (grown_strs HZ6.out.1 HZ6.out.2 hgr)
  have HV7 := Lib.hid hst.strs
  clear hst hgr hat HB6 HX6 HY6 HZ6
  go_wp2_with fail
  refine (same_yes _ _ _ _ HZ7.out HV7.out).mono ?_
  rintro e w8 ⟨rfl, n, rfl⟩
  go_wp2_with fail
  go_ret
  exact ⟨rfl, bel_drew HB7.out n⟩

theorem fnWordsJoined_walk (hE : EnvT w.heap.size w E) (hs : a.size + b.size ≤ 4194303) : Calls Tryd.prog 5 #[.string a, .string b] w (TrueB w) := by
  have h2 : (a ++ spB ++ b).size = a.size + 1 + b.size := by
    rw [← ba_szw, ba_sp_b, List.length_append, List.length_cons, ba_szw, ba_szw]; omega
  cases c1 : wordedB a.data.toList true 0 0 with
  | false => exact fnWordsJoined_f1 (by omega) c1
  | true =>
    cases c2 : wordedB b.data.toList true 0 0 with
    | false => exact fnWordsJoined_f2 (by omega) (by omega) c1 c2
    | true => exact fnWordsJoined_t hE (by omega) (by omega) (by omega) c1 c2
end
end Go.Proofs.YtnoaljlbhihgjaaDoor
