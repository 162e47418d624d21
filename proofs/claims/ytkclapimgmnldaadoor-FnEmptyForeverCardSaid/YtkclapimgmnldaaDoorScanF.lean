/-
  Scan's last piece: the read.
-/
import Derived.Test.YtkclapimgmnldaaDoorScanE
namespace Go.Proofs.YtkclapimgmnldaaDoor
set_option linter.unusedVariables false
set_option linter.unusedSimpArgs false
set_option maxRecDepth 20000
open Go.RowKit

theorem invoke_read (p : Addr) (v : Value) (w : World) : (invoke (.fn (.method "Read") #[]) #[.iface 98 (.pointer (some p)), v]).run Tryd.prog w = .ok (.enter 79 #[.pointer (some p), v]) w := by kernel_rfl

/-- What the piece asks of the world behind the call of Read. -/
structure ReadLeft (B D L e : Nat) (E : Nat → Addr) (en : Ending) (w' : World) : Prop where
  ends : ∃ (n : Nat) (ev : Value), en = .returned (.tuple #[.int .i64 (n : Int), ev]) ∧ n ≤ L - e ∧ ((ev = .nilIface ∧ 0 < n) ∨ ∃ c, ev = .iface 124 (.pointer (some (E c))))
  c4 : w'.cell? ⟨B, 4, none⟩ = some (.slice (some ⟨D, 0, none⟩) L L)
  c6 : w'.cell? ⟨B, 6, none⟩ = some (.int .i64 (e : Int))
  c7 : w'.cell? ⟨B, 7, none⟩ = some .nilIface
  c8 : ∃ v8, w'.cell? ⟨B, 8, none⟩ = some v8
  fz : ∀ o, w'.frozen? ⟨B, o, none⟩ = false

set_option maxRecDepth 100000 in
set_option maxHeartbeats 2000000 in
theorem m5b_read (B R D L e : Nat) (E : Nat → Addr) (a : Act) (w : World) (Q : Exit → Act → World → Prop) (RR : Ending → World → Prop) (hF : Fr B a)
    (h0 : w.cell? ⟨B, 0, none⟩ = some (.iface 98 (.pointer (some ⟨R, 0, none⟩)))) (h4 : w.cell? ⟨B, 4, none⟩ = some (.slice (some ⟨D, 0, none⟩) L L)) (h6 : w.cell? ⟨B, 6, none⟩ = some (.int .i64 (e : Int))) (heL : e < L) (hL : L ≤ 4194304)
    (hcall : ∀ q, Calls Tryd.prog 79 #[.pointer (some ⟨R, 0, none⟩), .slice (some ⟨D, e, none⟩) (L - e) (L - e)] (w.drewN q) RR)
    (hleft : ∀ en w', RR en w' → ReadLeft B D L e E en w')
    (hnil : ∀ a' w' w2 (n : Nat), RR (.returned (.tuple #[.int .i64 (n : Int), .nilIface])) w' → n ≤ L - e → Fr B a' → Alk w2 ((w'.setCell ⟨B, 6, none⟩ (.int .i64 ((e : Int) + (n : Int)))).setCell ⟨B, 8, none⟩ (.int .i64 0)) → Q (.exit 2) a' w2)
    (herr : ∀ a' w' w2 (n : Nat) c, RR (.returned (.tuple #[.int .i64 (n : Int), .iface 124 (.pointer (some (E c)))])) w' → n ≤ L - e → Fr B a' → Alk w2 ((w'.setCell ⟨B, 6, none⟩ (.int .i64 ((e : Int) + (n : Int)))).setCell ⟨B, 7, none⟩ (.iface 124 (.pointer (some (E c))))) → Q (.exit 2) a' w2) :
    Code.wp Tryd.prog m5b Q a w := by
  obtain ⟨_, _, _, _, f, rfl⟩ := hF
  have HL := Lib.hid hleft
  have HN := Lib.hid hnil
  have HE := Lib.hid herr
  have HC := Lib.hid hcall
  clear hleft hnil herr hcall
  have hadd : (⟨D, 0, none⟩ : Addr).add e = ⟨D, e, none⟩ := by
    unfold Addr.add; split
    · rename_i h0; subst h0; rfl
    · simp
  have hLe : ¬ L = e := by omega
  have hle : e ≤ L := by omega
  have hinv := invoke_read ⟨R, 0, none⟩
  conv => arg 2; whnf
  unfold fr
  go_wp2_with fail
  refine wp_region_mid 20 (by kernel_rfl) (by kernel_rfl) ?_
  simp only [List.take_succ_cons, List.take_zero, List.drop_succ_cons, List.drop_zero]
  repeat still_step
  refine wpStill_nil ?_
  go_wp2_with fail
  refine (HC.out _).mono ?_
  intro en w' hr
  obtain ⟨⟨n, ev, rfl, hn, hev⟩, k4, k6, k7, ⟨v8, k8⟩, kf⟩ := HL.out _ _ hr
  have Hr := Lib.hid hr
  clear hr h0 h4 h6 hinv HL HC
  go_wp2_with fail
  repeat still_step
  refine wpStill_nil ?_
  rename_i K hK
  refine hK _ _ ?_
  clear hK K
  have hd1 : decide ((n : Int) < 0) = false := by simp
  have hd2 : decide ((L : Int) - (e : Int) < (n : Int)) = false := by simp; omega
  rcases hev with ⟨rfl, hn0⟩ | ⟨c, rfl⟩
  · go_wp2_with fail
    go_quiet (fail)
    go_wp2_with fail
    exact HN.out _ _ _ _ Hr.out hn (Fr.of _ _ rfl rfl rfl) ⟨rfl, rfl, rfl, rfl⟩
  · have HC := Lib.hid fun (q : Nat) => setErr_nil B (E c) ((w'.setCell ⟨B, 6, none⟩ (.int .i64 ((e : Int) + (n : Int)))).drewN q) ((World.cell?_setCell_other w' ⟨B, 6, none⟩ ⟨B, 7, none⟩ _ (by simp)).trans k7) ((World.frozen?_setCell ..).trans (kf 7))
    go_wp2_with fail
    go_quiet (fail)
    go_wp2_with fail
    refine (HC.out _).mono ?_
    rintro en w2 ⟨rfl, q, rfl⟩
    go_wp2_with fail
    exact HE.out _ _ _ _ _ Hr.out hn (Fr.of _ _ rfl rfl rfl) ⟨rfl, rfl, rfl, rfl⟩

set_option maxRecDepth 100000 in
set_option maxHeartbeats 1000000 in
theorem m5_read (B : Nat) (a : Act) (w : World) (Q : Exit → Act → World → Prop) (hF : Fr B a)
    (h : ∀ a' Q', Fr B a' → (∀ a'' w'', Q .normal a'' w'' → Q' (.exit 2) a'' w'') → Code.wp Tryd.prog m5b Q' a' w) : Code.wp Tryd.prog m5 Q a w := by
  obtain ⟨_, _, _, _, f, rfl⟩ := hF
  have H := Lib.hid h
  clear h
  conv => arg 2; whnf
  unfold fr
  go_wp2_with fail
  refine wp_loop_rounds 1 ?_
  rw [rounds_succ]
  refine wp_block ?_
  exact H.out _ _ (Fr.of _ _ rfl rfl rfl) (fun a'' w'' h => h)
end Go.Proofs.YtkclapimgmnldaaDoor
