/-
  THE LAW's WALK: FnTimeFieldsWriteThenReadBack.
-/
import Derived.Test.Qxb6616762aModsTimeWalks
import Derived.Test.Qxb6616762aModsMapWalks
import Derived.Deep.RegionHeld3
import Derived.Below
import Derived.Carry
namespace Go.Proofs.Qxb6616762aMods
open Go.RowKit

/-- A call in a world of which F alone is kept in sight. -/
theorem calls_of {P : Program} {f : Nat} {args : Array Value} {w : World} {K : Ending → World → Prop} (F : World → Prop) (hF : F w) (h : ∀ W, F W → Calls P f args W K) : Calls P f args w K := h w hF

/-- ZZtimeFields at a task that lies at a block's head, by what its map is good for: the four look-ups, len; nothing old has turned. -/
theorem zztf_facts (T M : Nat) (w : World) (hM : w.heap.size = M) :
    Calls Trym.prog 8 #[.pointer (some ⟨T, 0, none⟩)] w fun e w' => e = .returned (.map (some M)) ∧ w'.heap.size = M + 1 ∧ (∀ ty, (Builtin.len_ #[34] ty #[.map (some M)]).run Trym.prog w' = .ok (.int .i64 4) w') ∧
      (Instr.lookup 34 (.map (some M)) (.string (ByteArray.mk #[101, 110, 113, 117, 101, 117, 101, 100, 95, 97, 116])) false).run Trym.prog w' = .ok (.pointer (some ⟨T, 14, none⟩)) w' ∧
      (Instr.lookup 34 (.map (some M)) (.string (ByteArray.mk #[110, 101, 120, 116, 95, 112, 114, 111, 99, 101, 115, 115, 95, 97, 116])) false).run Trym.prog w' = .ok (.pointer (some ⟨T, 17, none⟩)) w' ∧
      (Instr.lookup 34 (.map (some M)) (.string (ByteArray.mk #[99, 111, 109, 112, 108, 101, 116, 101, 100, 95, 97, 116])) false).run Trym.prog w' = .ok (.pointer (some ⟨T, 20, none⟩)) w' ∧
      (Instr.lookup 34 (.map (some M)) (.string (ByteArray.mk #[101, 120, 112, 105, 114, 101, 115, 95, 97, 116])) false).run Trym.prog w' = .ok (.pointer (some ⟨T, 23, none⟩)) w' ∧
      (∀ b' o', b' < M → w'.cell? ⟨b', o', none⟩ = w.cell? ⟨b', o', none⟩) ∧ (∀ b' o', b' < M → w'.frozen? ⟨b', o', none⟩ = w.frozen? ⟨b', o', none⟩) ∧ (∀ W0, Grown W0 w → Grown W0 w') := by
  subst hM
  refine (zztf_any T 0 w).mono ?_
  rintro e w' ⟨l, c, rfl, rfl, hlen, hE, hN, hC, hX⟩
  have hb := heap_at w (.map (ents l) c)
  have hbel : Below w.heap.size w (w.alloc (.map (ents l) c)) := (Below.refl _ _).alloc (Nat.le_refl _) _
  refine ⟨rfl, by simp, fun ty => ?_, run_look _ _ c l _ _ hb (by simpa using hE), run_look _ _ c l _ _ hb (by simpa using hN), run_look _ _ c l _ _ hb (by simpa using hC), run_look _ _ c l _ _ hb (by simpa using hX), fun b' o' h => hbel.cell (p := ⟨b', o', none⟩) h, fun b' o' h => hbel.frozen (p := ⟨b', o', none⟩) h, fun W0 h => (h.allocMap _ _).drew⟩
  have := run_len _ _ c l ty hb
  rw [hlen] at this
  exact this

/-- What lies in W: the four times in blocks A, B, C, D; the task in block T, its four moments (p1, q1) to (p4, q4); M blocks in all. -/
structure Laid (w W : World) (A B C D T M : Nat) (id : ByteArray) (x1 y1 x2 y2 x3 y3 x4 y4 p1 q1 p2 q2 p3 q3 p4 q4 : Int) : Prop where
  size : W.heap.size = M
  old : w.heap.size ≤ T
  aT : A < T
  bT : B < T
  cT : C < T
  dT : D < T
  tM : T < M
  cA0 : W.cell? ⟨A, 0, none⟩ = some (.int .u64 x1)
  cA1 : W.cell? ⟨A, 1, none⟩ = some (.int .i64 y1)
  cA2 : W.cell? ⟨A, 2, none⟩ = some (.pointer none)
  cB0 : W.cell? ⟨B, 0, none⟩ = some (.int .u64 x2)
  cB1 : W.cell? ⟨B, 1, none⟩ = some (.int .i64 y2)
  cB2 : W.cell? ⟨B, 2, none⟩ = some (.pointer none)
  cC0 : W.cell? ⟨C, 0, none⟩ = some (.int .u64 x3)
  cC1 : W.cell? ⟨C, 1, none⟩ = some (.int .i64 y3)
  cC2 : W.cell? ⟨C, 2, none⟩ = some (.pointer none)
  cD0 : W.cell? ⟨D, 0, none⟩ = some (.int .u64 x4)
  cD1 : W.cell? ⟨D, 1, none⟩ = some (.int .i64 y4)
  cD2 : W.cell? ⟨D, 2, none⟩ = some (.pointer none)
  cT0 : W.cell? ⟨T, 0, none⟩ = some (.string id)
  cT14 : W.cell? ⟨T, 14, none⟩ = some (.int .u64 p1)
  cT15 : W.cell? ⟨T, 15, none⟩ = some (.int .i64 q1)
  cT16 : W.cell? ⟨T, 16, none⟩ = some (.pointer none)
  cT17 : W.cell? ⟨T, 17, none⟩ = some (.int .u64 p2)
  cT18 : W.cell? ⟨T, 18, none⟩ = some (.int .i64 q2)
  cT19 : W.cell? ⟨T, 19, none⟩ = some (.pointer none)
  cT20 : W.cell? ⟨T, 20, none⟩ = some (.int .u64 p3)
  cT21 : W.cell? ⟨T, 21, none⟩ = some (.int .i64 q3)
  cT22 : W.cell? ⟨T, 22, none⟩ = some (.pointer none)
  cT23 : W.cell? ⟨T, 23, none⟩ = some (.int .u64 p4)
  cT24 : W.cell? ⟨T, 24, none⟩ = some (.int .i64 q4)
  cT25 : W.cell? ⟨T, 25, none⟩ = some (.pointer none)
  free : ∀ o, W.frozen? ⟨T, o, none⟩ = false
  grown : Grown w W

/-- .. behind the four Adds and the task's making. -/
theorem laid_first (w : World) (k1 m1 k2 m2 k3 m3 k4 m4 : Array Value) (id : ByteArray) (x1 y1 x2 y2 x3 y3 x4 y4 : Int) :
    Laid w ((((((((((((((w.alloc (.cells #[.int .u64 0, .int .i64 0, .pointer none] 26)).alloc (.cells k1 26)).alloc (.cells m1 26)).alloc (.cells #[.int .u64 x1, .int .i64 y1, .pointer none] 26)).alloc (.cells k2 26)).alloc (.cells m2 26)).alloc (.cells #[.int .u64 x2, .int .i64 y2, .pointer none] 26)).alloc (.cells k3 26)).alloc (.cells m3 26)).alloc (.cells #[.int .u64 x3, .int .i64 y3, .pointer none] 26)).alloc (.cells k4 26)).alloc (.cells m4 26)).alloc (.cells #[.int .u64 x4, .int .i64 y4, .pointer none] 26)).alloc (.cells #[Value.string id, Value.string (ByteArray.mk #[]), Value.string (ByteArray.mk #[]), Value.int .i64 0, Value.slice none 0 0, Value.string (ByteArray.mk #[]), Value.string (ByteArray.mk #[]), Value.string (ByteArray.mk #[]), Value.string (ByteArray.mk #[]), Value.int .i64 0, Value.int .i64 0, Value.string (ByteArray.mk #[]), Value.int .i64 0, Value.int .i64 0, Value.int .u64 0, Value.int .i64 0, Value.pointer none, Value.int .u64 0, Value.int .i64 0, Value.pointer none, Value.int .u64 0, Value.int .i64 0, Value.pointer none, Value.int .u64 0, Value.int .i64 0, Value.pointer none, Value.int .i64 0] 33)) (w.heap.size + 1 + 1 + 1) (w.heap.size + 1 + 1 + 1 + 1 + 1 + 1) (w.heap.size + 1 + 1 + 1 + 1 + 1 + 1 + 1 + 1 + 1) (w.heap.size + 1 + 1 + 1 + 1 + 1 + 1 + 1 + 1 + 1 + 1 + 1 + 1) (w.heap.size + 1 + 1 + 1 + 1 + 1 + 1 + 1 + 1 + 1 + 1 + 1 + 1 + 1) (w.heap.size + 1 + 1 + 1 + 1 + 1 + 1 + 1 + 1 + 1 + 1 + 1 + 1 + 1 + 1) id x1 y1 x2 y2 x3 y3 x4 y4 0 0 0 0 0 0 0 0 := by
  refine ⟨?_, by omega, by omega, by omega, by omega, by omega, by omega, ?_, ?_, ?_, ?_, ?_, ?_, ?_, ?_, ?_, ?_, ?_, ?_, ?_, ?_, ?_, ?_, ?_, ?_, ?_, ?_, ?_, ?_, ?_, ?_, ?_, ?_, ?_⟩
  case refine_28 => exact ((((((((((((((Grown.refl w).alloc _ _).alloc _ _).alloc _ _).alloc _ _).alloc _ _).alloc _ _).alloc _ _).alloc _ _).alloc _ _).alloc _ _).alloc _ _).alloc _ _).alloc _ _).alloc _ _
  all_goals first | (go_simp; done) | (intro o; go_simp; done)

/-- .. behind a call that has laid one block more. -/
theorem Laid.kept {w W w' : World} {A B C D T M : Nat} {id : ByteArray} {x1 y1 x2 y2 x3 y3 x4 y4 p1 q1 p2 q2 p3 q3 p4 q4 : Int} (h : Laid w W A B C D T M id x1 y1 x2 y2 x3 y3 x4 y4 p1 q1 p2 q2 p3 q3 p4 q4) (hs : w'.heap.size = M + 1)
    (hc : ∀ b' o', b' < M → w'.cell? ⟨b', o', none⟩ = W.cell? ⟨b', o', none⟩) (hf : ∀ b' o', b' < M → w'.frozen? ⟨b', o', none⟩ = W.frozen? ⟨b', o', none⟩) (hg : ∀ W0, Grown W0 W → Grown W0 w') :
    Laid w w' A B C D T (M + 1) id x1 y1 x2 y2 x3 y3 x4 y4 p1 q1 p2 q2 p3 q3 p4 q4 := by
  have h1 := h.aT; have h2 := h.bT; have h3 := h.cT; have h4 := h.dT; have h5 := h.tM
  exact ⟨hs, h.old, h1, h2, h3, h4, by omega, (hc _ _ (by omega)).trans h.cA0, (hc _ _ (by omega)).trans h.cA1, (hc _ _ (by omega)).trans h.cA2, (hc _ _ (by omega)).trans h.cB0, (hc _ _ (by omega)).trans h.cB1, (hc _ _ (by omega)).trans h.cB2, (hc _ _ (by omega)).trans h.cC0, (hc _ _ (by omega)).trans h.cC1, (hc _ _ (by omega)).trans h.cC2, (hc _ _ (by omega)).trans h.cD0, (hc _ _ (by omega)).trans h.cD1, (hc _ _ (by omega)).trans h.cD2, (hc _ _ (by omega)).trans h.cT0, (hc _ _ (by omega)).trans h.cT14, (hc _ _ (by omega)).trans h.cT15, (hc _ _ (by omega)).trans h.cT16, (hc _ _ (by omega)).trans h.cT17, (hc _ _ (by omega)).trans h.cT18, (hc _ _ (by omega)).trans h.cT19, (hc _ _ (by omega)).trans h.cT20, (hc _ _ (by omega)).trans h.cT21, (hc _ _ (by omega)).trans h.cT22, (hc _ _ (by omega)).trans h.cT23, (hc _ _ (by omega)).trans h.cT24, (hc _ _ (by omega)).trans h.cT25, fun o => (hf _ _ (by omega)).trans (h.free o), hg _ h.grown⟩

/-- .. behind the four stores through the map's pointers. -/
theorem Laid.stored {w W : World} {A B C D T M : Nat} {id : ByteArray} {x1 y1 x2 y2 x3 y3 x4 y4 p1 q1 p2 q2 p3 q3 p4 q4 : Int} (h : Laid w W A B C D T M id x1 y1 x2 y2 x3 y3 x4 y4 p1 q1 p2 q2 p3 q3 p4 q4) :
    Laid w ((((((((((((W.setCell ⟨T, 14, none⟩ (.int .u64 x1)).setCell ⟨T, 15, none⟩ (.int .i64 y1)).setCell ⟨T, 16, none⟩ (.pointer none)).setCell ⟨T, 17, none⟩ (.int .u64 x2)).setCell ⟨T, 18, none⟩ (.int .i64 y2)).setCell ⟨T, 19, none⟩ (.pointer none)).setCell ⟨T, 20, none⟩ (.int .u64 x3)).setCell ⟨T, 21, none⟩ (.int .i64 y3)).setCell ⟨T, 22, none⟩ (.pointer none)).setCell ⟨T, 23, none⟩ (.int .u64 x4)).setCell ⟨T, 24, none⟩ (.int .i64 y4)).setCell ⟨T, 25, none⟩ (.pointer none)) A B C D T M id x1 y1 x2 y2 x3 y3 x4 y4 x1 y1 x2 y2 x3 y3 x4 y4 := by
  have hgr : Grown w ((((((((((((W.setCell ⟨T, 14, none⟩ (.int .u64 x1)).setCell ⟨T, 15, none⟩ (.int .i64 y1)).setCell ⟨T, 16, none⟩ (.pointer none)).setCell ⟨T, 17, none⟩ (.int .u64 x2)).setCell ⟨T, 18, none⟩ (.int .i64 y2)).setCell ⟨T, 19, none⟩ (.pointer none)).setCell ⟨T, 20, none⟩ (.int .u64 x3)).setCell ⟨T, 21, none⟩ (.int .i64 y3)).setCell ⟨T, 22, none⟩ (.pointer none)).setCell ⟨T, 23, none⟩ (.int .u64 x4)).setCell ⟨T, 24, none⟩ (.int .i64 y4)).setCell ⟨T, 25, none⟩ (.pointer none)) := ((((((((((((h.grown.setCell (a := ⟨T, 14, none⟩) h.old _).setCell (a := ⟨T, 15, none⟩) h.old _).setCell (a := ⟨T, 16, none⟩) h.old _).setCell (a := ⟨T, 17, none⟩) h.old _).setCell (a := ⟨T, 18, none⟩) h.old _).setCell (a := ⟨T, 19, none⟩) h.old _).setCell (a := ⟨T, 20, none⟩) h.old _).setCell (a := ⟨T, 21, none⟩) h.old _).setCell (a := ⟨T, 22, none⟩) h.old _).setCell (a := ⟨T, 23, none⟩) h.old _).setCell (a := ⟨T, 24, none⟩) h.old _).setCell (a := ⟨T, 25, none⟩) h.old _)
  obtain ⟨hsz, hTw, hAT, hBT, hCT, hDT, hTM, cA0, cA1, cA2, cB0, cB1, cB2, cC0, cC1, cC2, cD0, cD1, cD2, cT0, cT14, cT15, cT16, cT17, cT18, cT19, cT20, cT21, cT22, cT23, cT24, cT25, hfz, hg⟩ := h
  have nTA : T ≠ A := by omega
  have nTB : T ≠ B := by omega
  have nTC : T ≠ C := by omega
  have nTD : T ≠ D := by omega
  refine ⟨?_, hTw, hAT, hBT, hCT, hDT, hTM, ?_, ?_, ?_, ?_, ?_, ?_, ?_, ?_, ?_, ?_, ?_, ?_, ?_, ?_, ?_, ?_, ?_, ?_, ?_, ?_, ?_, ?_, ?_, ?_, ?_, ?_, hgr⟩
  all_goals first | (go_simp; done) | (intro o; go_simp; done)

theorem cell_two (X : World) (o1 o2 : Obj) (a : Addr) (v : Value) (h : X.cell? a = some v) : ((X.alloc o1).alloc o2).drew.cell? a = some v := by
  have h1 : (X.alloc o1).cell? a = some v := (World.cell?_alloc_lt _ _ _ (World.block_lt_of_cell? X a h)).trans h
  exact (World.cell?_alloc_lt _ _ _ (World.block_lt_of_cell? _ a h1)).trans h1
/-- The cells that the last statement reads are as they were behind two new blocks. -/
theorem held_two (X : World) (o1 o2 : Obj) {A B C D T : Nat} {id : ByteArray} {x1 y1 x2 y2 x3 y3 x4 y4 : Int} (h : (X.drew).cell? ⟨A, 0, none⟩ = some (.int .u64 x1) ∧ (X.drew).cell? ⟨A, 1, none⟩ = some (.int .i64 y1) ∧ (X.drew).cell? ⟨A, 2, none⟩ = some (.pointer none) ∧ (X.drew).cell? ⟨B, 0, none⟩ = some (.int .u64 x2) ∧ (X.drew).cell? ⟨B, 1, none⟩ = some (.int .i64 y2) ∧ (X.drew).cell? ⟨B, 2, none⟩ = some (.pointer none) ∧ (X.drew).cell? ⟨C, 0, none⟩ = some (.int .u64 x3) ∧ (X.drew).cell? ⟨C, 1, none⟩ = some (.int .i64 y3) ∧ (X.drew).cell? ⟨C, 2, none⟩ = some (.pointer none) ∧ (X.drew).cell? ⟨D, 0, none⟩ = some (.int .u64 x4) ∧ (X.drew).cell? ⟨D, 1, none⟩ = some (.int .i64 y4) ∧ (X.drew).cell? ⟨D, 2, none⟩ = some (.pointer none) ∧ (X.drew).cell? ⟨T, 0, none⟩ = some (.string id) ∧ (X.drew).cell? ⟨T, 14, none⟩ = some (.int .u64 x1) ∧ (X.drew).cell? ⟨T, 15, none⟩ = some (.int .i64 y1) ∧ (X.drew).cell? ⟨T, 16, none⟩ = some (.pointer none) ∧ (X.drew).cell? ⟨T, 17, none⟩ = some (.int .u64 x2) ∧ (X.drew).cell? ⟨T, 18, none⟩ = some (.int .i64 y2) ∧ (X.drew).cell? ⟨T, 19, none⟩ = some (.pointer none) ∧ (X.drew).cell? ⟨T, 20, none⟩ = some (.int .u64 x3) ∧ (X.drew).cell? ⟨T, 21, none⟩ = some (.int .i64 y3) ∧ (X.drew).cell? ⟨T, 22, none⟩ = some (.pointer none) ∧ (X.drew).cell? ⟨T, 23, none⟩ = some (.int .u64 x4) ∧ (X.drew).cell? ⟨T, 24, none⟩ = some (.int .i64 y4) ∧ (X.drew).cell? ⟨T, 25, none⟩ = some (.pointer none)) :
    (((X.alloc o1).alloc o2).drew).cell? ⟨A, 0, none⟩ = some (.int .u64 x1) ∧ (((X.alloc o1).alloc o2).drew).cell? ⟨A, 1, none⟩ = some (.int .i64 y1) ∧ (((X.alloc o1).alloc o2).drew).cell? ⟨A, 2, none⟩ = some (.pointer none) ∧ (((X.alloc o1).alloc o2).drew).cell? ⟨B, 0, none⟩ = some (.int .u64 x2) ∧ (((X.alloc o1).alloc o2).drew).cell? ⟨B, 1, none⟩ = some (.int .i64 y2) ∧ (((X.alloc o1).alloc o2).drew).cell? ⟨B, 2, none⟩ = some (.pointer none) ∧ (((X.alloc o1).alloc o2).drew).cell? ⟨C, 0, none⟩ = some (.int .u64 x3) ∧ (((X.alloc o1).alloc o2).drew).cell? ⟨C, 1, none⟩ = some (.int .i64 y3) ∧ (((X.alloc o1).alloc o2).drew).cell? ⟨C, 2, none⟩ = some (.pointer none) ∧ (((X.alloc o1).alloc o2).drew).cell? ⟨D, 0, none⟩ = some (.int .u64 x4) ∧ (((X.alloc o1).alloc o2).drew).cell? ⟨D, 1, none⟩ = some (.int .i64 y4) ∧ (((X.alloc o1).alloc o2).drew).cell? ⟨D, 2, none⟩ = some (.pointer none) ∧ (((X.alloc o1).alloc o2).drew).cell? ⟨T, 0, none⟩ = some (.string id) ∧ (((X.alloc o1).alloc o2).drew).cell? ⟨T, 14, none⟩ = some (.int .u64 x1) ∧ (((X.alloc o1).alloc o2).drew).cell? ⟨T, 15, none⟩ = some (.int .i64 y1) ∧ (((X.alloc o1).alloc o2).drew).cell? ⟨T, 16, none⟩ = some (.pointer none) ∧ (((X.alloc o1).alloc o2).drew).cell? ⟨T, 17, none⟩ = some (.int .u64 x2) ∧ (((X.alloc o1).alloc o2).drew).cell? ⟨T, 18, none⟩ = some (.int .i64 y2) ∧ (((X.alloc o1).alloc o2).drew).cell? ⟨T, 19, none⟩ = some (.pointer none) ∧ (((X.alloc o1).alloc o2).drew).cell? ⟨T, 20, none⟩ = some (.int .u64 x3) ∧ (((X.alloc o1).alloc o2).drew).cell? ⟨T, 21, none⟩ = some (.int .i64 y3) ∧ (((X.alloc o1).alloc o2).drew).cell? ⟨T, 22, none⟩ = some (.pointer none) ∧ (((X.alloc o1).alloc o2).drew).cell? ⟨T, 23, none⟩ = some (.int .u64 x4) ∧ (((X.alloc o1).alloc o2).drew).cell? ⟨T, 24, none⟩ = some (.int .i64 y4) ∧ (((X.alloc o1).alloc o2).drew).cell? ⟨T, 25, none⟩ = some (.pointer none) := by
  obtain ⟨hcA0, hcA1, hcA2, hcB0, hcB1, hcB2, hcC0, hcC1, hcC2, hcD0, hcD1, hcD2, hcT0, hcT14, hcT15, hcT16, hcT17, hcT18, hcT19, hcT20, hcT21, hcT22, hcT23, hcT24, hcT25⟩ := h
  exact ⟨cell_two X o1 o2 _ _ hcA0, cell_two X o1 o2 _ _ hcA1, cell_two X o1 o2 _ _ hcA2, cell_two X o1 o2 _ _ hcB0, cell_two X o1 o2 _ _ hcB1, cell_two X o1 o2 _ _ hcB2, cell_two X o1 o2 _ _ hcC0, cell_two X o1 o2 _ _ hcC1, cell_two X o1 o2 _ _ hcC2, cell_two X o1 o2 _ _ hcD0, cell_two X o1 o2 _ _ hcD1, cell_two X o1 o2 _ _ hcD2, cell_two X o1 o2 _ _ hcT0, cell_two X o1 o2 _ _ hcT14, cell_two X o1 o2 _ _ hcT15, cell_two X o1 o2 _ _ hcT16, cell_two X o1 o2 _ _ hcT17, cell_two X o1 o2 _ _ hcT18, cell_two X o1 o2 _ _ hcT19, cell_two X o1 o2 _ _ hcT20, cell_two X o1 o2 _ _ hcT21, cell_two X o1 o2 _ _ hcT22, cell_two X o1 o2 _ _ hcT23, cell_two X o1 o2 _ _ hcT24, cell_two X o1 o2 _ _ hcT25⟩

set_option maxHeartbeats 4000000 in
set_option maxRecDepth 100000 in
theorem law_short (id : ByteArray) (d1 d2 d3 d4 : Int) (w0 : (id.size : Int) ≤ 1048576) (a0 : -9223372036854775808 ≤ d1) (a1 : d1 ≤ 9223372036854775807) (b0 : -9223372036854775808 ≤ d2) (b1 : d2 ≤ 9223372036854775807) (c0 : -9223372036854775808 ≤ d3) (c1 : d3 ≤ 9223372036854775807) (e0 : -9223372036854775808 ≤ d4) (e1 : d4 ≤ 9223372036854775807) (w : World) :
    Calls Trym.prog 3 #[.string id, .int .i64 d1, .int .i64 d2, .int .i64 d3, .int .i64 d4] w fun e w' => e = .returned (.bool true) ∧ Grown w w' := by
  go_enter Trym.func3, Trym.ntmps3
  go_wp2_with (go_at_call 6; refine (bytes_small id d1 d2 d3 d4 w0 _).mono ?_; rintro e w' ⟨rfl, hw'⟩; subst w')
  refine (add_zero d1 a0 a1 _).mono ?_
  rintro e w' ⟨x1, y1, rfl, c11, c12, hw'⟩
  subst w'
  go_wp2_with fail
  refine (add_zero d2 b0 b1 _).mono ?_
  rintro e w' ⟨x2, y2, rfl, c21, c22, hw'⟩
  subst w'
  go_wp2_with fail
  refine (add_zero d3 c0 c1 _).mono ?_
  rintro e w' ⟨x3, y3, rfl, c31, c32, hw'⟩
  subst w'
  go_wp2_with fail
  refine (add_zero d4 e0 e1 _).mono ?_
  rintro e w' ⟨x4, y4, rfl, c41, c42, hw'⟩
  subst w'
  go_wp2_with fail
  clear a0 a1 b0 b1 c0 c1 e0 e1
  refine calls_of (fun W => Laid w W (w.heap.size + 1 + 1 + 1) (w.heap.size + 1 + 1 + 1 + 1 + 1 + 1) (w.heap.size + 1 + 1 + 1 + 1 + 1 + 1 + 1 + 1 + 1) (w.heap.size + 1 + 1 + 1 + 1 + 1 + 1 + 1 + 1 + 1 + 1 + 1 + 1) (w.heap.size + 1 + 1 + 1 + 1 + 1 + 1 + 1 + 1 + 1 + 1 + 1 + 1 + 1) (w.heap.size + 1 + 1 + 1 + 1 + 1 + 1 + 1 + 1 + 1 + 1 + 1 + 1 + 1 + 1) id x1 y1 x2 y2 x3 y3 x4 y4 0 0 0 0 0 0 0 0) (laid_first w c11 c12 c21 c22 c31 c32 c41 c42 id x1 y1 x2 y2 x3 y3 x4 y4) ?_
  intro W1 h1
  clear c11 c12 c21 c22 c31 c32 c41 c42
  generalize w.heap.size + 1 + 1 + 1 + 1 + 1 + 1 + 1 + 1 + 1 + 1 + 1 + 1 + 1 = T at *
  generalize w.heap.size + 1 + 1 + 1 + 1 + 1 + 1 + 1 + 1 + 1 + 1 + 1 + 1 = D at *
  generalize w.heap.size + 1 + 1 + 1 + 1 + 1 + 1 + 1 + 1 + 1 = C at *
  generalize w.heap.size + 1 + 1 + 1 + 1 + 1 + 1 = B at *
  generalize w.heap.size + 1 + 1 + 1 = A at *
  refine (zztf_facts T (T + 1) W1 h1.size).mono ?_
  rintro e W ⟨rfl, hs, hlen, hE, hN, hC, hX, hc, hf, hgr⟩
  have H2 : Hid (Laid w W A B C D T (T + 1 + 1) id x1 y1 x2 y2 x3 y3 x4 y4 0 0 0 0 0 0 0 0) := h1.kept hs hc hf hgr
  clear h1 hs hc hf hgr
  obtain ⟨hsz, hTw, hAT, hBT, hCT, hDT, hTM, cA0, cA1, cA2, cB0, cB1, cB2, cC0, cC1, cC2, cD0, cD1, cD2, cT0, cT14, cT15, cT16, cT17, cT18, cT19, cT20, cT21, cT22, cT23, cT24, cT25, hfz, hg⟩ := H2.out
  clear hsz hTw hTM cT0 hg
  have nTA : T ≠ A := by omega
  have nTB : T ≠ B := by omega
  have nTC : T ≠ C := by omega
  have nTD : T ≠ D := by omega
  go_wp2_with fail
  refine calls_of (fun W' => Laid w W' A B C D T (T + 1 + 1) id x1 y1 x2 y2 x3 y3 x4 y4 x1 y1 x2 y2 x3 y3 x4 y4) H2.out.stored ?_
  intro W3 h3
  clear cA0 cA1 cA2 cB0 cB1 cB2 cC0 cC1 cC2 cD0 cD1 cD2 cT14 cT15 cT16 cT17 cT18 cT19 cT20 cT21 cT22 cT23 cT24 cT25 hfz hE hN hC hX hlen H2
  refine (zztf_facts T (T + 1 + 1) W3 h3.size).mono ?_
  rintro e W4 ⟨rfl, hs, hlen, hE, hN, hC, hX, hc, hf, hgr⟩
  have H4 : Hid (Laid w W4 A B C D T (T + 1 + 1 + 1) id x1 y1 x2 y2 x3 y3 x4 y4 x1 y1 x2 y2 x3 y3 x4 y4) := h3.kept hs hc hf hgr
  clear h3 hs hc hf hgr
  obtain ⟨hsz, hTw, hAT, hBT, hCT, hDT, hTM, cA0, cA1, cA2, cB0, cB1, cB2, cC0, cC1, cC2, cD0, cD1, cD2, cT0, cT14, cT15, cT16, cT17, cT18, cT19, cT20, cT21, cT22, cT23, cT24, cT25, hfz, hg⟩ := H4.out
  clear hsz hTw hTM hfz hg
  go_wp2_with fail
  dsimp only [List.append]
  go_region_held3 (fun w' => w'.cell? ⟨A, 0, none⟩ = some (.int .u64 x1) ∧ w'.cell? ⟨A, 1, none⟩ = some (.int .i64 y1) ∧ w'.cell? ⟨A, 2, none⟩ = some (.pointer none) ∧ w'.cell? ⟨B, 0, none⟩ = some (.int .u64 x2) ∧ w'.cell? ⟨B, 1, none⟩ = some (.int .i64 y2) ∧ w'.cell? ⟨B, 2, none⟩ = some (.pointer none) ∧ w'.cell? ⟨C, 0, none⟩ = some (.int .u64 x3) ∧ w'.cell? ⟨C, 1, none⟩ = some (.int .i64 y3) ∧ w'.cell? ⟨C, 2, none⟩ = some (.pointer none) ∧ w'.cell? ⟨D, 0, none⟩ = some (.int .u64 x4) ∧ w'.cell? ⟨D, 1, none⟩ = some (.int .i64 y4) ∧ w'.cell? ⟨D, 2, none⟩ = some (.pointer none) ∧ w'.cell? ⟨T, 0, none⟩ = some (.string id) ∧ w'.cell? ⟨T, 14, none⟩ = some (.int .u64 x1) ∧ w'.cell? ⟨T, 15, none⟩ = some (.int .i64 y1) ∧ w'.cell? ⟨T, 16, none⟩ = some (.pointer none) ∧ w'.cell? ⟨T, 17, none⟩ = some (.int .u64 x2) ∧ w'.cell? ⟨T, 18, none⟩ = some (.int .i64 y2) ∧ w'.cell? ⟨T, 19, none⟩ = some (.pointer none) ∧ w'.cell? ⟨T, 20, none⟩ = some (.int .u64 x3) ∧ w'.cell? ⟨T, 21, none⟩ = some (.int .i64 y3) ∧ w'.cell? ⟨T, 22, none⟩ = some (.pointer none) ∧ w'.cell? ⟨T, 23, none⟩ = some (.int .u64 x4) ∧ w'.cell? ⟨T, 24, none⟩ = some (.int .i64 y4) ∧ w'.cell? ⟨T, 25, none⟩ = some (.pointer none)) (first | (refine held_two _ _ _ ?_; assumption) | go_keep)
    (first | (go_at_call 9; refine (equal_same _ _ _).mono ?_; rintro e w' ⟨rfl, c1, c2, rfl⟩))
  clear cA0 cA1 cA2 cB0 cB1 cB2 cC0 cC1 cC2 cD0 cD1 cD2 cT0 cT14 cT15 cT16 cT17 cT18 cT19 cT20 cT21 cT22 cT23 cT24 cT25 hlen hE hN hC hX
  go_wp2
  go_ret
  have hg := H4.out.grown
  exact ⟨rfl, (((((((((((((((((hg.alloc _ _).alloc _ _).alloc _ _).alloc _ _).alloc _ _).alloc _ _).alloc _ _).alloc _ _).alloc _ _).alloc _ _).alloc _ _).alloc _ _).alloc _ _).alloc _ _).alloc _ _).alloc _ _)).drew⟩

set_option maxHeartbeats 1000000 in
set_option maxRecDepth 100000 in
/-- The law where the id is long: it answers true at once, whatever zzBytes says. -/
theorem law_long (id : ByteArray) (d1 d2 d3 d4 : Int) (w0 : id.size ≤ maxLen) (hl : (1048576 : Int) < id.size) (w : World) :
    Calls Trym.prog 3 #[.string id, .int .i64 d1, .int .i64 d2, .int .i64 d3, .int .i64 d4] w fun e w' => e = .returned (.bool true) ∧ Grown w w' := by
  go_enter Trym.func3, Trym.ntmps3
  go_wp2_with fail
  refine (bytes_any id d1 d2 d3 d4 w0 _).mono ?_
  rintro e w' ⟨⟨b, rfl⟩, hw'⟩
  subst w'
  cases b
  all_goals (go_wp2_with fail; go_ret; exact ⟨rfl, Grown.refl _⟩)

theorem bd_i64 {n : Int} (h : (Lit.int .i64 n).wf = true) : -9223372036854775808 ≤ n ∧ n ≤ 9223372036854775807 := by
  simp [Lit.wf, IntKind.min, IntKind.max, IntKind.signed, IntKind.bits] at h
  omega

/-- The law at every input. -/
theorem law_any (id : ByteArray) (d1 d2 d3 d4 : Int) (w0 : id.size ≤ maxLen) (w1 : (Lit.int .i64 d1).wf = true) (w2 : (Lit.int .i64 d2).wf = true) (w3 : (Lit.int .i64 d3).wf = true) (w4 : (Lit.int .i64 d4).wf = true) (w : World) :
    Calls Trym.prog 3 #[.string id, .int .i64 d1, .int .i64 d2, .int .i64 d3, .int .i64 d4] w fun e w' => e = .returned (.bool true) ∧ Grown w w' := by
  by_cases hl : (1048576 : Int) < id.size
  · exact law_long id d1 d2 d3 d4 w0 hl w
  · exact law_short id d1 d2 d3 d4 (by omega) (bd_i64 w1).1 (bd_i64 w1).2 (bd_i64 w2).1 (bd_i64 w2).2 (bd_i64 w3).1 (bd_i64 w3).2 (bd_i64 w4).1 (bd_i64 w4).2 w
end Go.Proofs.Qxb6616762aMods
