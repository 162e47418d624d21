/-
  unicode/utf8.DecodeRune: the library's contract, laid at this program; bufio.isSpace and the reference's space.
-/
import Derived.Test.YtkclapimgmnldaaDoorQA
import Derived.Test.YtkclapimgmnldaaDoorQWordRuns
import Derived.Shelf.Spec.DecodeRune
import Derived.Lib.LaidU8T
import Derived.PinnedBridge
import Derived.Test.YtkclapimgmnldaaDoorQHelp
namespace Go.Proofs.YtkclapimgmnldaaDoor
set_option linter.unusedVariables false
set_option linter.unusedSimpArgs false
set_option maxRecDepth 20000
open Go.RowKit

def ren7 : Go.Shelf.Ren := ⟨fun | 32 => 53 | 49 => 60 | n => n, fun | 0 => 0 | 3 => 3 | 4 => 4 | 5 => 5 | 21 => 21 | 25 => 120 | 30 => 101 | 33 => 107 | 66 => 119 | 68 => 122 | 69 => 123 | n => n, fun | 2 => 9 | 3 => 10 | n => n⟩
theorem lays7 : Lays7.n32 Tryd.prog ren7 where
  mixed := by kernel_rfl
  f32 := Tryd.func53.trans (congrArg some (by kernel_rfl))
  f49 := Tryd.func60.trans (congrArg some (by kernel_rfl))
  t0 := Tryd.underlying0
  a0 := Tryd.isAgg0
  z0 := Tryd.sizeOf0
  v0 := Tryd.zeroValue0
  i0 := by kernel_rfl
  t3 := Tryd.underlying3
  a3 := Tryd.isAgg3
  z3 := Tryd.sizeOf3
  v3 := Tryd.zeroValue3
  i3 := by kernel_rfl
  t4 := Tryd.underlying4
  a4 := Tryd.isAgg4
  z4 := Tryd.sizeOf4
  v4 := Tryd.zeroValue4
  i4 := by kernel_rfl
  t5 := Tryd.underlying5
  a5 := Tryd.isAgg5
  z5 := Tryd.sizeOf5
  v5 := Tryd.zeroValue5
  i5 := by kernel_rfl
  t21 := Tryd.underlying21
  a21 := Tryd.isAgg21
  z21 := Tryd.sizeOf21
  v21 := Tryd.zeroValue21
  i21 := by kernel_rfl
  t25 := Tryd.underlying120
  a25 := Tryd.isAgg120
  z25 := Tryd.sizeOf120
  v25 := Tryd.zeroValue120
  i25 := by kernel_rfl
  t30 := Tryd.underlying101
  a30 := Tryd.isAgg101
  z30 := Tryd.sizeOf101
  v30 := Tryd.zeroValue101
  i30 := by kernel_rfl
  t33 := Tryd.underlying107
  a33 := Tryd.isAgg107
  z33 := Tryd.sizeOf107
  v33 := Tryd.zeroValue107
  i33 := by kernel_rfl
  t66 := Tryd.underlying119
  a66 := Tryd.isAgg119
  z66 := Tryd.sizeOf119
  t68 := Tryd.underlying122
  a68 := Tryd.isAgg122
  z68 := Tryd.sizeOf122
  v68 := Tryd.zeroValue122
  i68 := by kernel_rfl
  t69 := Tryd.underlying123
  a69 := Tryd.isAgg123
  z69 := Tryd.sizeOf123
  v69 := Tryd.zeroValue123
  i69 := by kernel_rfl
  g2 := by kernel_rfl
  g3 := by kernel_rfl

/-- the two tables, as the program's text lays them -/
abbrev Tabs (w : World) : Prop := Lib.Utf8Tabs 9 10 w

theorem dec_go (d : List UInt8) (h : d ≠ []) : Lib.decodeGo ⟨d.toArray⟩ = dec d := by
  have hs : (⟨d.toArray⟩ : ByteArray).size = d.length := by simp [ByteArray.size]
  have hp := List.length_pos_iff.2 h
  have hg : ∀ i, ((⟨d.toArray⟩ : ByteArray).get! i) = d[i]?.getD 0 := fun i => by
    show (d.toArray)[i]! = _
    rw [Array.getElem!_eq_getD, Array.getD_eq_getD_getElem?]
    simp
    rfl
  unfold Lib.decodeGo
  rw [if_neg (by omega), Lib.decode_at]
  simp only [Nat.zero_add, Nat.sub_zero, hs, hg]
  rfl

/-- DecodeRune over bytes that are there -/
theorem decodeRune_any (b o n c : Nat) (d : List UInt8) (w : World) (hT : Tabs w) (hn : d.length = n) (hd : Bytes8 w (some ⟨b, o, none⟩) d) (hne : d ≠ []) :
    Calls Tryd.prog 53 #[.slice (some ⟨b, o, none⟩) n c] w fun e w' => e = .returned (.tuple #[.int .i32 (dec d).1, .int .i64 (dec d).2]) ∧ Below w.heap.size w w' := by
  subst hn
  have hs : (⟨d.toArray⟩ : ByteArray).size = d.length := by simp [ByteArray.size]
  have := Any7.utf8_DecodeRune lays7 ⟨d.toArray⟩ b o c w hT (fun j hj => by
    rw [hs] at hj
    rw [hd.at j hj]
    show some (bv d[j]) = some (.int .u8 ((d.toArray)[j]!).toNat)
    simp [hj])
  rw [dec_go d hne, hs] at this
  exact this
open Go.RowKit

theorem space_yes {r : Nat} (h : (9 ≤ r ∧ r ≤ 13) ∨ r = 32 ∨ r = 133 ∨ r = 160 ∨ r = 5760 ∨ (8192 ≤ r ∧ r ≤ 8202) ∨ r = 8232 ∨ r = 8233 ∨ r = 8239 ∨ r = 8287 ∨ r = 12288) : true = spaceN r := by
  unfold spaceN; rw [decide_eq_true h]
theorem space_no {r : Nat} (h : ¬ ((9 ≤ r ∧ r ≤ 13) ∨ r = 32 ∨ r = 133 ∨ r = 160 ∨ r = 5760 ∨ (8192 ≤ r ∧ r ≤ 8202) ∨ r = 8232 ∨ r = 8233 ∨ r = 8239 ∨ r = 8287 ∨ r = 12288)) : false = spaceN r := by
  unfold spaceN; rw [decide_eq_false h]

set_option maxHeartbeats 1000000 in
theorem isSpace_any (r : Nat) (w : World) : Calls Tryd.prog 54 #[.int .i32 (r : Int)] w fun e w' => e = .returned (.bool (spaceN r)) ∧ w = w' := by
  have HY := Lib.hid (@space_yes r)
  have HN := Lib.hid (@space_no r)
  generalize spaceN r = k at *
  go_enter Tryd.func54, Tryd.ntmps54
  go_wp2
  all_goals
    go_ret
    refine ⟨ret_b ?_, rfl⟩
    try simp only [beq_iff_eq, beq_eq_false_iff_ne, ne_eq] at *
    first
      | (refine HY.out ?_; omega)
      | (refine HN.out ?_; omega)

set_option maxHeartbeats 1000000 in
theorem specSpace_any (r : Nat) (w : World) : Calls Tryd.prog 44 #[.int .i64 (r : Int)] w fun e w' => e = .returned (.bool (spaceN r)) ∧ w = w' := by
  have HY := Lib.hid (@space_yes r)
  have HN := Lib.hid (@space_no r)
  generalize spaceN r = k at *
  go_enter Tryd.func44, Tryd.ntmps44
  go_wp2
  all_goals
    go_ret
    refine ⟨ret_b ?_, rfl⟩
    try simp only [beq_iff_eq, beq_eq_false_iff_ne, ne_eq] at *
    first
      | (refine HY.out ?_; omega)
      | (refine HN.out ?_; omega)
end Go.Proofs.YtkclapimgmnldaaDoor
