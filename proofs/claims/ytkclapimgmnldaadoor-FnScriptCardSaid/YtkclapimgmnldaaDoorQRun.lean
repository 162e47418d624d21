/-
  A new scanner in memory: impl.scanner, whatever the source and the room.
-/
import Derived.Test.YtkclapimgmnldaaDoorQT
import Derived.Test.YtkclapimgmnldaaDoorQP
import Derived.Test.YtkclapimgmnldaaDoorQMake
import Derived.Test.YtkclapimgmnldaaDoorQLines
namespace Go.Proofs.YtkclapimgmnldaaDoor
set_option linter.unusedVariables false
set_option linter.unusedSimpArgs false
set_option maxRecDepth 20000
open Go.RowKit

/-- What a law leans on: the listed errors. -/
structure Env (base : Nat) (w : World) (E : Nat → Addr) : Prop where
  g : Glob w E base
  rd : w.cell? ⟨5, 0, none⟩ = some (.iface 124 (.pointer (some (E 5))))
  lt : 5 < base
  le : base ≤ w.heap.size
theorem Env.below {base : Nat} {w w' : World} {E : Nat → Addr} (h : Env base w E) (hb : Below base w w') : Env base w' E :=
  ⟨h.g.below hb, (hb.cell (p := ⟨_, 0, none⟩) h.lt).trans h.rd, h.lt, Nat.le_trans h.le hb.size⟩
theorem Env.later {base : Nat} {w w' : World} {E : Nat → Addr} (h : Env base w E) (hb : Below w.heap.size w w') : Env base w' E := h.below (hb.mono h.le)

/-- The pieces of a source, in memory that nobody else looks at. -/
structure PcsAt (base : Nat) (w : World) (pa : Option Addr) (pcs : List Int) (pc : Nat) (pl : List Nat) : Prop where
  hp : ∀ i c, pcs[i]? = some c → ∃ b o, pa = some ⟨b, o, none⟩ ∧ b ∈ pl ∧ w.cell? ⟨b, o + i, none⟩ = some (.int .i64 c)
  hpc : pcs.length ≤ pc ∧ pc ≤ 9223372036854775807
  hnd : pl.Nodup
  hlt : ∀ k, k ∈ pl → base ≤ k ∧ k < w.heap.size
theorem PcsAt.none (base : Nat) (w : World) : PcsAt base w none [] 0 [] := ⟨fun i c h => by simp at h, by simp, List.nodup_nil, fun k h => by cases h⟩

/-- what does not change while a new scanner runs -/
abbrev newCf (E : Nat → Addr) (base n : Nat) (tog broken d : Bool) (c m : Int) : Cfg :=
  { B := n + 4, R := n + 3, f := 59, first := #[], cap := #[], max := if d then 65536 else m, lim := limitN d c m, tog := tog, endE := if broken then 5 else 0, E := E, base := base }
/-- a new scanner -/
abbrev newSm (s : ByteArray) : Sm Unit := ⟨[], s.data.toList, none, 0, false, ()⟩

theorem heap_new (w : World) (o : Obj) : (w.alloc o).heap[w.heap.size]? = some o := by show (w.heap.push o)[w.heap.size]? = some o; simp

section
variable {base : Nat} {w : World} {E : Nat → Addr} {s : ByteArray} {pa : Option Addr} {pcs : List Int} {pc : Nat} {pl : List Nat} {tog broken : Bool} {c m : Int} {rm : Array Value}

theorem madeW_size (w : World) (s : ByteArray) (pa : Option Addr) (pn pc : Nat) (tog broken : Bool) (rm : Array Value) (ev : Value) : (madeW w s pa pn pc tog broken rm ev).heap.size = w.heap.size + 5 := by simp
theorem madeW_below (w : World) (s : ByteArray) (pa : Option Addr) (pn pc : Nat) (tog broken : Bool) (rm : Array Value) (ev : Value) : Below w.heap.size w (madeW w s pa pn pc tog broken rm ev) :=
  (((((Below.refl _ _).alloc (Nat.le_refl _) _).alloc (by simp) _).alloc (by simp; omega) _).alloc (by simp; omega) _).alloc (by simp; omega) _
theorem madeW_B (w : World) (s : ByteArray) (pa : Option Addr) (pn pc : Nat) (tog broken : Bool) (rm : Array Value) (ev : Value) : (madeW w s pa pn pc tog broken rm ev).heap[w.heap.size + 4]? = some (.cells (newCells (w.heap.size + 3)) 106 (0, 0)) := by
  have := heap_new ((((w.alloc (.cells #[.string s, .slice pa pn pc, .bool tog, .bool broken] 38)).alloc (.cells rm 40)).alloc (.cells #[.string s, .slice pa pn pc, .bool tog, .bool broken] 38)).alloc (.cells (rdCells s pa pn pc tog ev) 116)) (.cells (newCells (w.heap.size + 3)) 106)
  simpa using this
theorem madeW_R (w : World) (s : ByteArray) (pa : Option Addr) (pn pc : Nat) (tog broken : Bool) (rm : Array Value) (ev : Value) : (madeW w s pa pn pc tog broken rm ev).heap[w.heap.size + 3]? = some (.cells (rdCells s pa pn pc tog ev) 116 (0, 0)) := by
  have := heap_new (((w.alloc (.cells #[.string s, .slice pa pn pc, .bool tog, .bool broken] 38)).alloc (.cells rm 40)).alloc (.cells #[.string s, .slice pa pn pc, .bool tog, .bool broken] 38)) (.cells (rdCells s pa pn pc tog ev) 116)
  rw [Below.heap_alloc _ _ _ (by simp)]
  simpa using this

/-- the reader's error -/
theorem endE_val (E : Nat → Addr) (broken : Bool) : errV E (some (if broken then 5 else 0)) = .iface 124 (.pointer (some (if broken then E 5 else E 0))) := by cases broken <;> rfl

/-- all but the scanner's own block, in any later world where the reader's block lies so -/
theorem new_rest (hE : Env base w E) (hp : PcsAt base w pa pcs pc pl) (hs : s.size ≤ 140737488355328) {d : Bool} {w' : World} (hb : Below w.heap.size w w') (hz : w.heap.size + 5 ≤ w'.heap.size)
    (hR : w'.heap[w.heap.size + 3]? = some (.cells (rdCells s pa pcs.length pc tog (errV E (some (if broken then 5 else 0)))) 116 (0, 0)))
    (ba : Option Addr) (L : Nat) (bytes : List UInt8) (bl : List Nat) (hlen : bytes.length = L) (hbuf : (ba = none ∧ L = 0 ∧ bl = []) ∨ (∃ D, ba = some ⟨D, 0, none⟩ ∧ bl = [D] ∧ w.heap.size + 5 ≤ D ∧ D < w'.heap.size ∧ w'.heap[D]? = some (.cells (bytes.map bv).toArray 5 (0, 0))))
    (hlim : max L (if d then 65536 else m).toNat = limitN d c m) (hbig : limitN d c m ≤ 4194304) :
    SRest (newCf E base w.heap.size tog broken d c m) noMem (newSm s) ba L 0 0 bytes pa pcs pc pl bl [] w' where
  hR := by
    rw [hR]
  hp := fun i c hc => by
    obtain ⟨b, o, e, hm, hcell⟩ := hp.hp i c hc
    exact ⟨b, o, e, hm, (hb.cell (p := ⟨b, o + i, none⟩) (hp.hlt b hm).2).trans hcell⟩
  hpc := hp.hpc
  hb := by
    rcases hbuf with h | ⟨D, h1, h2, _, _, h3⟩
    · exact .inl h
    · exact .inr ⟨D, h1, h2, h3⟩
  hlen := hlen
  hse := ⟨Nat.le_refl _, Nat.zero_le _⟩
  hpend := by simp
  hlim := hlim
  hbig := hbig
  hrest := by simpa using hs
  hsp := rfl
  herr := fun c h => by cases h
  hend := by show (if broken then 5 else 0) < 7; split <;> omega
  hg := hE.g.below (hb.mono hE.le)
  hnd := by
    have hlt := hp.hlt
    have h1 : ∀ k, k ∈ pl → k < w.heap.size := fun k hk => (hlt k hk).2
    show ((w.heap.size + 4) :: (w.heap.size + 3) :: (pl ++ bl ++ [])).Nodup
    rw [List.append_nil]
    rcases hbuf with ⟨_, _, rfl⟩ | ⟨D, _, rfl, h2, _, _⟩
    · rw [List.append_nil]
      refine List.nodup_cons.2 ⟨?_, List.nodup_cons.2 ⟨?_, hp.hnd⟩⟩
      · intro hm
        rcases List.mem_cons.1 hm with h | h
        · omega
        · have := h1 _ h; omega
      · intro hm
        have := h1 _ hm; omega
    · refine List.nodup_cons.2 ⟨?_, List.nodup_cons.2 ⟨?_, List.nodup_append.2 ⟨hp.hnd, by simp, ?_⟩⟩⟩
      · intro hm
        rcases List.mem_cons.1 hm with h | h
        · omega
        · rcases List.mem_append.1 h with h | h
          · have := h1 _ h; omega
          · simp at h; omega
      · intro hm
        rcases List.mem_append.1 hm with h | h
        · have := h1 _ h; omega
        · simp at h; omega
      · intro a ha b hb
        have := h1 _ ha
        simp at hb
        omega
  hlt := by
    have hlt := hp.hlt
    have hle := hE.le
    intro k hk
    have hk' : k ∈ (w.heap.size + 4) :: (w.heap.size + 3) :: (pl ++ bl ++ []) := hk
    rw [List.append_nil] at hk'
    show base ≤ k ∧ k < w'.heap.size
    rcases List.mem_cons.1 hk' with h | h
    · omega
    · rcases List.mem_cons.1 h with h | h
      · omega
      · rcases List.mem_append.1 h with h | h
        · have := hlt k h; omega
        · rcases hbuf with ⟨_, _, rfl⟩ | ⟨D, _, rfl, h2, h3, _⟩
          · cases h
          · simp at h; omega
  hemp := by simp
end

/-- What impl.scanner leaves. -/
def ScannerPost (E : Nat → Addr) (base : Nat) (s : ByteArray) (tog broken d : Bool) (c m : Int) (pl : List Nat) (w : World) (e : Ending) (w' : World) : Prop :=
  ∃ ba L own, e = .returned (.pointer (some ⟨w.heap.size + 4, 0, none⟩)) ∧ SOk (newCf E base w.heap.size tog broken d c m) noMem (newSm s) (.slice none 0 0) false ba L own w' ∧ Below w.heap.size w w' ∧ (∀ k, k ∈ own → k ∈ pl ∨ w.heap.size ≤ k)

section
variable {base : Nat} {w : World} {E : Nat → Addr} {s : ByteArray} {pa : Option Addr} {pcs : List Int} {pc : Nat} {pl : List Nat} {tog : Bool} {c m : Int}

set_option maxHeartbeats 400000 in
theorem open_any (broken : Bool) (hE : Env base w E) :
    Calls Tryd.prog 51 #[srcV s pa pcs.length pc tog broken] w fun e w' => e = .returned (.pointer (some ⟨w.heap.size + 1, 0, none⟩)) ∧
      w' = (w.alloc (.cells #[.string s, .slice pa pcs.length pc, .bool tog, .bool broken] 38)).alloc (.cells (rdCells s pa pcs.length pc tog (errV E (some (if broken then 5 else 0)))) 116) := by
  have h0 : 6 < w.heap.size := Nat.lt_of_lt_of_le hE.g.lt.1 hE.le
  have h5 : 5 < w.heap.size := Nat.lt_of_lt_of_le hE.lt hE.le
  cases broken with
  | true => exact open_broken s pa pcs.length pc tog w (E 0) (E 5) hE.g.eof h0 hE.rd h5
  | false => exact open_ok s pa pcs.length pc tog w (E 0) hE.g.eof h0

set_option maxHeartbeats 400000 in
theorem buffer_any (B n cp : Nat) (a : Option Addr) (mx : Int) (w : World) (hc : w.cell? ⟨B, 9, none⟩ = some (.bool false)) (hf : ∀ o, w.frozen? ⟨B, o, none⟩ = false) (h4 : ∃ v, w.cell? ⟨B, 4, none⟩ = some v) (h2 : ∃ v, w.cell? ⟨B, 2, none⟩ = some v) (hcp : cp ≤ 9223372036854775807) (hn : n ≤ cp) :
    Calls Tryd.prog 52 #[.pointer (some ⟨B, 0, none⟩), .slice a n cp, .int .i64 mx] w fun e w' => e = .returned (.tuple #[]) ∧ w' = (w.setCell ⟨B, 4, none⟩ (.slice a cp cp)).setCell ⟨B, 2, none⟩ (.int .i64 mx) := by
  obtain ⟨v4, h4⟩ := h4
  obtain ⟨v2, h2⟩ := h2
  go_enter Tryd.func52, Tryd.ntmps52
  go_wp2
  go_end0
  exact ⟨rfl, rfl⟩

theorem make_cap (w : World) (N : Nat) (h : N ≤ 4194304) : (Instr.makeSlice 101 (.int .i64 0) (.int .i64 (N : Int))).run Tryd.prog w = .ok (.slice (some ⟨w.heap.size, 0, none⟩) 0 N) (w.alloc (.cells (madeCells #[.int .u8 0] N) 5)) := by
  obtain ⟨i, hi, hz⟩ := Option.map_eq_some_iff.1 info_u8_all
  simp only [Prod.mk.injEq] at hz
  obtain ⟨hz, hsz, hby⟩ := hz
  have := run_make (P := Tryd.prog) w 101 5 i (.int .u8 0) Tryd.underlying101 hi hz .i64 .i64 0 (N : Int) (by omega) (by omega) (by rw [hby]; omega) (by omega)
  rw [this, hsz]
  simp [Value.cells]

set_option maxHeartbeats 400000 in
theorem scanner_d (broken : Bool) (hE : Env base w E) :
    Calls Tryd.prog 35 #[srcV s pa pcs.length pc tog broken, roomV true c m] w fun e w' => e = .returned (.pointer (some ⟨w.heap.size + 4, 0, none⟩)) ∧
      w' = madeW w s pa pcs.length pc tog broken #[.bool true, .int .i64 c, .int .i64 m] (errV E (some (if broken then 5 else 0))) := by
  have HO := Lib.hid (open_any (s := s) (pa := pa) (pcs := pcs) (pc := pc) (tog := tog) broken (hE.later (((Below.refl w.heap.size w).alloc (Nat.le_refl _) (.cells #[.string s, .slice pa pcs.length pc, .bool tog, .bool broken] 38)).alloc (by simp) (.cells #[.bool true, .int .i64 c, .int .i64 m] 40))))
  clear hE
  generalize pcs.length = pn at *
  generalize errV E (some (if broken then 5 else 0)) = ev at *
  go_enter Tryd.func35, Tryd.ntmps35
  go_wp2_with fail
  refine HO.out.mono ?_
  rintro e w' ⟨rfl, rfl⟩
  go_wp2_with fail
  refine (newScanner_any _ _).mono ?_
  rintro e w' ⟨rfl, rfl⟩
  go_wp2_with fail
  go_ret
  exact ⟨rfl, rfl⟩

/-- a new scanner's cells, with a room -/
abbrev roomCells (R D N : Nat) (m : Int) : Array Value :=
  #[.iface 98 (.pointer (some ⟨R, 0, none⟩)), .func (.func 59) #[] #[], .int .i64 m, .slice none 0 0, .slice (some ⟨D, 0, none⟩) N N, .int .i64 0, .int .i64 0, .nilIface, .int .i64 0, .bool false, .bool false]
/-- the six blocks of a scanner with a room -/
abbrev roomW (w : World) (s : ByteArray) (pa : Option Addr) (pn pc : Nat) (tog broken : Bool) (c m : Int) (N : Nat) (ev : Value) : World :=
  (((((w.alloc (.cells #[.string s, .slice pa pn pc, .bool tog, .bool broken] 38)).alloc (.cells #[.bool false, .int .i64 c, .int .i64 m] 40)).alloc (.cells #[.string s, .slice pa pn pc, .bool tog, .bool broken] 38)).alloc
    (.cells (rdCells s pa pn pc tog ev) 116)).alloc (.cells (roomCells (w.heap.size + 3) (w.heap.size + 5) N m) 106)).alloc (.cells (madeCells #[.int .u8 0] N) 5)

set_option maxRecDepth 100000 in
set_option maxHeartbeats 1000000 in
theorem scanner_r (broken : Bool) (N : Nat) (hN : max 0 c = (N : Int)) (hNb : N ≤ 4194304) (hE : Env base w E) :
    Calls Tryd.prog 35 #[srcV s pa pcs.length pc tog broken, roomV false c m] w fun e w' => e = .returned (.pointer (some ⟨w.heap.size + 4, 0, none⟩)) ∧
      Alk w' (roomW w s pa pcs.length pc tog broken c m N (errV E (some (if broken then 5 else 0)))) := by
  have HO := Lib.hid (open_any (s := s) (pa := pa) (pcs := pcs) (pc := pc) (tog := tog) broken (hE.later (((Below.refl w.heap.size w).alloc (Nat.le_refl _) (.cells #[.string s, .slice pa pcs.length pc, .bool tog, .bool broken] 38)).alloc (by simp) (.cells #[.bool false, .int .i64 c, .int .i64 m] 40))))
  clear hE
  generalize pcs.length = pn at *
  generalize errV E (some (if broken then 5 else 0)) = ev at *
  have HM : ∀ w, (Instr.makeSlice 101 (.int .i64 0) (.int .i64 (max 0 c))).run Tryd.prog w = .ok (.slice (some ⟨w.heap.size, 0, none⟩) 0 N) (w.alloc (.cells (madeCells #[.int .u8 0] N) 5)) := fun w => by rw [hN]; exact make_cap w N hNb
  clear hN
  have hB : (((madeW w s pa pn pc tog broken #[.bool false, .int .i64 c, .int .i64 m] ev).alloc (.cells (madeCells #[.int .u8 0] N) 5)).drew).heap[w.heap.size + 4]? = some (.cells (newCells (w.heap.size + 3)) 106 (0, 0)) :=
    (Below.heap_alloc _ _ _ (by simp)).trans (madeW_B w s pa pn pc tog broken _ ev)
  have HBuf := Lib.hid (buffer_any (w.heap.size + 4) 0 N (some ⟨w.heap.size + 5, 0, none⟩) m _ (cell_of_heap hB) (frozen_of_heap hB) ⟨_, cell_of_heap hB⟩ ⟨_, cell_of_heap hB⟩ (by omega) (by omega))
  clear hB
  go_enter Tryd.func35, Tryd.ntmps35
  go_wp2_with fail
  refine HO.out.mono ?_
  rintro e w' ⟨rfl, rfl⟩
  go_wp2_with fail
  refine (newScanner_any _ _).mono ?_
  rintro e w' ⟨rfl, rfl⟩
  go_wp2_with fail
  go_region_with ((go_at_call 52; refine HBuf.out.mono ?_; rintro e w' ⟨rfl, rfl⟩))
  all_goals
    go_wp2_with fail
    go_ret
    exact ⟨rfl, rfl, rfl, rfl, rfl⟩

theorem roomW_below (w : World) (s : ByteArray) (pa : Option Addr) (pn pc : Nat) (tog broken : Bool) (c m : Int) (N : Nat) (ev : Value) : Below w.heap.size w (roomW w s pa pn pc tog broken c m N ev) :=
  ((((((Below.refl _ _).alloc (Nat.le_refl _) _).alloc (by simp) _).alloc (by simp; omega) _).alloc (by simp; omega) _).alloc (by simp; omega) _).alloc (by simp; omega) _
theorem roomW_D (w : World) (s : ByteArray) (pa : Option Addr) (pn pc : Nat) (tog broken : Bool) (c m : Int) (N : Nat) (ev : Value) : (roomW w s pa pn pc tog broken c m N ev).heap[w.heap.size + 5]? = some (.cells (madeCells #[.int .u8 0] N) 5 (0, 0)) := by
  have := heap_new (((((w.alloc (.cells #[.string s, .slice pa pn pc, .bool tog, .bool broken] 38)).alloc (.cells #[.bool false, .int .i64 c, .int .i64 m] 40)).alloc (.cells #[.string s, .slice pa pn pc, .bool tog, .bool broken] 38)).alloc (.cells (rdCells s pa pn pc tog ev) 116)).alloc (.cells (roomCells (w.heap.size + 3) (w.heap.size + 5) N m) 106)) (.cells (madeCells #[.int .u8 0] N) 5)
  simpa using this
theorem roomW_B (w : World) (s : ByteArray) (pa : Option Addr) (pn pc : Nat) (tog broken : Bool) (c m : Int) (N : Nat) (ev : Value) : (roomW w s pa pn pc tog broken c m N ev).heap[w.heap.size + 4]? = some (.cells (roomCells (w.heap.size + 3) (w.heap.size + 5) N m) 106 (0, 0)) := by
  have := heap_new ((((w.alloc (.cells #[.string s, .slice pa pn pc, .bool tog, .bool broken] 38)).alloc (.cells #[.bool false, .int .i64 c, .int .i64 m] 40)).alloc (.cells #[.string s, .slice pa pn pc, .bool tog, .bool broken] 38)).alloc (.cells (rdCells s pa pn pc tog ev) 116)) (.cells (roomCells (w.heap.size + 3) (w.heap.size + 5) N m) 106)
  rw [Below.heap_alloc _ _ _ (by simp)]
  simpa using this
theorem roomW_R (w : World) (s : ByteArray) (pa : Option Addr) (pn pc : Nat) (tog broken : Bool) (c m : Int) (N : Nat) (ev : Value) : (roomW w s pa pn pc tog broken c m N ev).heap[w.heap.size + 3]? = some (.cells (rdCells s pa pn pc tog ev) 116 (0, 0)) := by
  have := heap_new (((w.alloc (.cells #[.string s, .slice pa pn pc, .bool tog, .bool broken] 38)).alloc (.cells #[.bool false, .int .i64 c, .int .i64 m] 40)).alloc (.cells #[.string s, .slice pa pn pc, .bool tog, .bool broken] 38)) (.cells (rdCells s pa pn pc tog ev) 116)
  rw [Below.heap_alloc _ _ _ (by simp), Below.heap_alloc _ _ _ (by simp)]
  simpa using this

/-- IMPL.SCANNER: whatever the source, and whatever room of a machine's size. -/
theorem scanner_any (d broken : Bool) (hE : Env base w E) (hp : PcsAt base w pa pcs pc pl) (hs : s.size ≤ 140737488355328) (hsz : sizedB d c m = true) :
    Calls Tryd.prog 35 #[srcV s pa pcs.length pc tog broken, roomV d c m] w (ScannerPost E base s tog broken d c m pl w) := by
  have hl4 := limitN_le hsz
  cases d with
  | true =>
    refine (scanner_d (s := s) (pa := pa) (pcs := pcs) (pc := pc) (tog := tog) (c := c) (m := m) broken hE).mono ?_
    rintro e w' ⟨rfl, rfl⟩
    have hb := madeW_below w s pa pcs.length pc tog broken #[.bool true, .int .i64 c, .int .i64 m] (errV E (some (if broken then 5 else 0)))
    refine ⟨none, 0, _, rfl, ⟨0, 0, [], pa, pcs, pc, pl, [], [], ⟨?_, ?_⟩, rfl⟩, hb, ?_⟩
    · exact madeW_B w s pa pcs.length pc tog broken _ _
    · exact new_rest (broken := broken) hE hp hs hb (by simp) (madeW_R w s pa pcs.length pc tog broken _ _) none 0 [] [] rfl (.inl ⟨rfl, rfl, rfl⟩) (by simp [limitN]) (by omega)
    · intro k hk
      simp only [ownOf, List.append_nil, List.mem_cons] at hk
      rcases hk with h | h | h
      · right; omega
      · right; omega
      · exact .inl h
  | false =>
    have hc := (sizedB_cases hsz).resolve_left (by simp)
    obtain ⟨N, hN⟩ : ∃ N : Nat, max 0 c = (N : Int) := ⟨(max 0 c).toNat, by omega⟩
    refine (scanner_r (s := s) (pa := pa) (pcs := pcs) (pc := pc) (tog := tog) (m := m) broken N hN (by omega) hE).mono ?_
    rintro e w' ⟨rfl, hal⟩
    have hb0 := roomW_below w s pa pcs.length pc tog broken c m N (errV E (some (if broken then 5 else 0)))
    have hb : Below w.heap.size w w' := ⟨hal.2.1.trans hb0.os, hal.2.2.2.trans hb0.tape, hal.2.2.1.trans hb0.output, by rw [hal.1]; exact hb0.size, fun k hk => by rw [hal.1]; exact hb0.block k hk⟩
    have hz : w'.heap.size = w.heap.size + 6 := by rw [hal.1]; simp
    refine ⟨some ⟨w.heap.size + 5, 0, none⟩, N, _, rfl, ⟨0, 0, List.replicate N 0, pa, pcs, pc, pl, [w.heap.size + 5], [], ⟨?_, ?_⟩, rfl⟩, hb, ?_⟩
    · rw [hal.1]; exact roomW_B w s pa pcs.length pc tog broken c m N _
    · refine new_rest (broken := broken) hE hp hs hb (by omega) ?_ (some ⟨w.heap.size + 5, 0, none⟩) N (List.replicate N 0) [w.heap.size + 5] (by simp) (.inr ⟨w.heap.size + 5, rfl, rfl, by omega, by omega, ?_⟩) ?_ (by omega)
      · rw [hal.1]; exact roomW_R w s pa pcs.length pc tog broken c m N _
      · rw [hal.1, roomW_D, made_zero]
      · simp [limitN]; omega
    · intro k hk
      simp only [ownOf, List.append_nil, List.mem_cons, List.mem_append, List.not_mem_nil, or_false] at hk
      rcases hk with h | h | h | h
      · right; omega
      · right; omega
      · exact .inl h
      · right; omega
end
end Go.Proofs.YtkclapimgmnldaaDoor
