/-
  THE WALKS of timeFields and ZZtimeFields: the map of four moments, its inserts in whatever order; and the laws on such a map's operations.
-/
import Derived.Test.Qxb6616762aModsRows
import Derived.WalkKit
import Derived.WalkSpells
import Derived.RowKit3
import Derived.RegionTactic
import Derived.Carry
import Derived.MapKept
import Derived.Maps.OwnSet
namespace Go.Proofs.Qxb6616762aMods
open Go.RowKit

/-- The entries of a map keyed by strings, out of (key, element, stamp). -/
def ents (l : List (ByteArray × Value × Nat)) : Array MapEntry := (l.map fun p => { key := .string p.1, val := p.2.1, born := p.2.2 }).toArray
/-- No entry has the key s. -/
def noKey (s : ByteArray) : List (ByteArray × Value × Nat) → Bool
  | [] => true
  | p :: l => !(s == p.1) && noKey s l
/-- The element at the key s. -/
def atKey (s : ByteArray) : List (ByteArray × Value × Nat) → Option Value
  | [] => none
  | p :: l => if (s == p.1) = true then some p.2.1 else atKey s l

theorem findNow_none (s : ByteArray) : ∀ (l : List (ByteArray × Value × Nat)) (i : Nat), noKey s l = true → Instr.findNow .string (.string s) (ents l).toList i = some none
  | [], _, _ => rfl
  | p :: l, i, h => by
    simp only [noKey, Bool.and_eq_true, Bool.not_eq_true'] at h
    have := findNow_none s l (i + 1) h.2
    simp only [ents, List.toList_toArray] at this
    simp only [ents, List.toList_toArray, List.map_cons, Instr.findNow, Instr.sameNow, h.1, this]
theorem findNow_some (s : ByteArray) (v : Value) : ∀ (l : List (ByteArray × Value × Nat)) (i : Nat), atKey s l = some v → ∃ j, Instr.findNow .string (.string s) (ents l).toList i = some (some (j, v))
  | [], _, h => by cases h
  | p :: l, i, h => by
    unfold atKey at h
    by_cases hs : (s == p.1) = true
    · rw [if_pos hs] at h
      cases h
      exact ⟨i, by simp only [ents, List.toList_toArray, List.map_cons, Instr.findNow, Instr.sameNow, hs]⟩
    · rw [if_neg hs] at h
      obtain ⟨j, hj⟩ := findNow_some s v l (i + 1) h
      have hs' : (s == p.1) = false := by simpa using hs
      simp only [ents, List.toList_toArray] at hj
      exact ⟨j, by simp only [ents, List.toList_toArray, List.map_cons, Instr.findNow, Instr.sameNow, hs', hj]⟩

theorem heap_at (w : World) (o : Obj) : (w.alloc o).drew.heap[w.heap.size]? = some o := by
  show (w.heap.push o)[w.heap.size]? = some o
  simp
theorem set_at (w : World) (o o' : Obj) : ({ (w.alloc o).drew with heap := (w.alloc o).drew.heap.setIfInBounds w.heap.size o' } : World) = (w.alloc o').drew := by
  have e : (w.heap.push o).setIfInBounds w.heap.size o' = w.heap.push o' := by
    apply Array.ext_getElem?
    intro i
    by_cases h : i = w.heap.size
    · subst h; simp
    · rw [Array.getElem?_setIfInBounds_ne (by omega)]
      by_cases h' : i < w.heap.size
      · rw [Array.getElem?_push_lt h', Array.getElem?_push_lt h']
      · rw [Array.getElem?_eq_none (by simp; omega), Array.getElem?_eq_none (by simp; omega)]
  show ({ (w.alloc o').drew with heap := (w.heap.push o).setIfInBounds w.heap.size o' } : World) = _
  rw [e]
  rfl

theorem run_up (w : World) (l : List (ByteArray × Value × Nat)) (c : Nat) (s : ByteArray) (v : Value) (h : noKey s l = true) :
    (Instr.mapUpdate 34 (.map (some w.heap.size)) (.string s) v).run Trym.prog (w.alloc (.map (ents l) c)).drew = .ok () (w.alloc (.map (ents (l ++ [(s, v, c)])) (c + 1))).drew := by
  have hb := heap_at w (.map (ents l) c)
  have hc : (Instr.checkKey false 10000 9 (.string s)).run Trym.prog (w.alloc (.map (ents l) c)).drew = .ok () (w.alloc (.map (ents l) c)).drew := MapKept.run_checkKey (k := .string s) Trym.underlying9 (by simp [MapKept.IsKey]) false 9999
  have he : (ents l).push { key := .string s, val := v, born := c } = ents (l ++ [(s, v, c)]) := by simp [ents]
  have hs := MapKept.run_setObj_map (P := Trym.prog) (.map ((ents l).push { key := .string s, val := v, born := c }) (c + 1)) hb
  rw [set_at, he] at hs
  simp [Instr.mapUpdate, run_underlying Trym.underlying34, MapKept.run_getObj_map hb, hc, MapKept.run_findKey Trym.underlying9 (findNow_none s l 0 h), hs, Result.andThen, he]

theorem run_look (W : World) (b c : Nat) (l : List (ByteArray × Value × Nat)) (s : ByteArray) (v : Value) (hb : W.heap[b]? = some (.map (ents l) c)) (h : atKey s l = some v) :
    (Instr.lookup 34 (.map (some b)) (.string s) false).run Trym.prog W = .ok v W := by
  obtain ⟨j, hj⟩ := findNow_some s v l 0 h
  have hc : ∀ e : Bool, (Instr.checkKey e 10000 9 (.string s)).run Trym.prog W = .ok () W := fun e => MapKept.run_checkKey (k := .string s) Trym.underlying9 (by simp [MapKept.IsKey]) e 9999
  simp [Instr.lookup, run_underlying Trym.underlying34, MapKept.run_getObj_map hb, hc, MapKept.run_findKey Trym.underlying9 hj, Result.andThen]

theorem run_len (W : World) (b c : Nat) (l : List (ByteArray × Value × Nat)) (ty : TypeId) (hb : W.heap[b]? = some (.map (ents l) c)) :
    (Builtin.len_ #[34] ty #[.map (some b)]).run Trym.prog W = .ok (.int .i64 l.length) W := by
  simp [Builtin.len_, run_underlying Trym.underlying34, MapKept.run_getObj_map hb, Result.andThen, ents, goInt]
/-! ### The four names -/
theorem neEN : ((ByteArray.mk #[101, 110, 113, 117, 101, 117, 101, 100, 95, 97, 116]) == (ByteArray.mk #[110, 101, 120, 116, 95, 112, 114, 111, 99, 101, 115, 115, 95, 97, 116])) = false := by decide
theorem neEC : ((ByteArray.mk #[101, 110, 113, 117, 101, 117, 101, 100, 95, 97, 116]) == (ByteArray.mk #[99, 111, 109, 112, 108, 101, 116, 101, 100, 95, 97, 116])) = false := by decide
theorem neEX : ((ByteArray.mk #[101, 110, 113, 117, 101, 117, 101, 100, 95, 97, 116]) == (ByteArray.mk #[101, 120, 112, 105, 114, 101, 115, 95, 97, 116])) = false := by decide
theorem neNE : ((ByteArray.mk #[110, 101, 120, 116, 95, 112, 114, 111, 99, 101, 115, 115, 95, 97, 116]) == (ByteArray.mk #[101, 110, 113, 117, 101, 117, 101, 100, 95, 97, 116])) = false := by decide
theorem neNC : ((ByteArray.mk #[110, 101, 120, 116, 95, 112, 114, 111, 99, 101, 115, 115, 95, 97, 116]) == (ByteArray.mk #[99, 111, 109, 112, 108, 101, 116, 101, 100, 95, 97, 116])) = false := by decide
theorem neNX : ((ByteArray.mk #[110, 101, 120, 116, 95, 112, 114, 111, 99, 101, 115, 115, 95, 97, 116]) == (ByteArray.mk #[101, 120, 112, 105, 114, 101, 115, 95, 97, 116])) = false := by decide
theorem neCE : ((ByteArray.mk #[99, 111, 109, 112, 108, 101, 116, 101, 100, 95, 97, 116]) == (ByteArray.mk #[101, 110, 113, 117, 101, 117, 101, 100, 95, 97, 116])) = false := by decide
theorem neCN : ((ByteArray.mk #[99, 111, 109, 112, 108, 101, 116, 101, 100, 95, 97, 116]) == (ByteArray.mk #[110, 101, 120, 116, 95, 112, 114, 111, 99, 101, 115, 115, 95, 97, 116])) = false := by decide
theorem neCX : ((ByteArray.mk #[99, 111, 109, 112, 108, 101, 116, 101, 100, 95, 97, 116]) == (ByteArray.mk #[101, 120, 112, 105, 114, 101, 115, 95, 97, 116])) = false := by decide
theorem neXE : ((ByteArray.mk #[101, 120, 112, 105, 114, 101, 115, 95, 97, 116]) == (ByteArray.mk #[101, 110, 113, 117, 101, 117, 101, 100, 95, 97, 116])) = false := by decide
theorem neXN : ((ByteArray.mk #[101, 120, 112, 105, 114, 101, 115, 95, 97, 116]) == (ByteArray.mk #[110, 101, 120, 116, 95, 112, 114, 111, 99, 101, 115, 115, 95, 97, 116])) = false := by decide
theorem neXC : ((ByteArray.mk #[101, 120, 112, 105, 114, 101, 115, 95, 97, 116]) == (ByteArray.mk #[99, 111, 109, 112, 108, 101, 116, 101, 100, 95, 97, 116])) = false := by decide
theorem eqE : ((ByteArray.mk #[101, 110, 113, 117, 101, 117, 101, 100, 95, 97, 116]) == (ByteArray.mk #[101, 110, 113, 117, 101, 117, 101, 100, 95, 97, 116])) = true := by decide
theorem eqN : ((ByteArray.mk #[110, 101, 120, 116, 95, 112, 114, 111, 99, 101, 115, 115, 95, 97, 116]) == (ByteArray.mk #[110, 101, 120, 116, 95, 112, 114, 111, 99, 101, 115, 115, 95, 97, 116])) = true := by decide
theorem eqC : ((ByteArray.mk #[99, 111, 109, 112, 108, 101, 116, 101, 100, 95, 97, 116]) == (ByteArray.mk #[99, 111, 109, 112, 108, 101, 116, 101, 100, 95, 97, 116])) = true := by decide
theorem eqX : ((ByteArray.mk #[101, 120, 112, 105, 114, 101, 115, 95, 97, 116]) == (ByteArray.mk #[101, 120, 112, 105, 114, 101, 115, 95, 97, 116])) = true := by decide

/-- What the map of moments is: four entries, each name's pointer. -/
def Moments (b o : Nat) (l : List (ByteArray × Value × Nat)) : Prop :=
  l.length = 4 ∧ atKey (ByteArray.mk #[101, 110, 113, 117, 101, 117, 101, 100, 95, 97, 116]) l = some (.pointer (some ⟨b, o + 14, none⟩)) ∧ atKey (ByteArray.mk #[110, 101, 120, 116, 95, 112, 114, 111, 99, 101, 115, 115, 95, 97, 116]) l = some (.pointer (some ⟨b, o + 17, none⟩)) ∧ atKey (ByteArray.mk #[99, 111, 109, 112, 108, 101, 116, 101, 100, 95, 97, 116]) l = some (.pointer (some ⟨b, o + 20, none⟩)) ∧ atKey (ByteArray.mk #[101, 120, 112, 105, 114, 101, 115, 95, 97, 116]) l = some (.pointer (some ⟨b, o + 23, none⟩))

set_option maxHeartbeats 4000000 in
set_option maxRecDepth 100000 in
theorem tf_any (b o : Nat) (w : World) :
    Calls Trym.prog 15 #[.pointer (some ⟨b, o, none⟩)] w fun e w' => ∃ l c, e = .returned (.map (some w.heap.size)) ∧ w' = (w.alloc (.map (ents l) c)).drew ∧ Moments b o l := by
  have hmm : ∀ (t : TypeId) (w : World), (Instr.makeMap t none).run Trym.prog w = .ok (.map (some w.heap.size)) (w.alloc (.map (ents []) 0)) := fun t w => run_makeMap t w
  have hup := run_up w
  have nk0 : ∀ s, noKey s [] = true := fun _ => rfl
  have nk1 : ∀ s p l, noKey s (p :: l) = (!(s == p.1) && noKey s l) := fun _ _ _ => rfl
  have fEN := neEN
  have fEC := neEC
  have fEX := neEX
  have fNE := neNE
  have fNC := neNC
  have fNX := neNX
  have fCE := neCE
  have fCN := neCN
  have fCX := neCX
  have fXE := neXE
  have fXN := neXN
  have fXC := neXC
  go_enter Trym.func15, Trym.ntmps15
  go_wp2
  go_region
  all_goals
    clear hmm hup nk0 nk1
    go_wp2
    go_ret
    exact ⟨_, _, rfl, rfl, rfl, by simp [atKey, eqE, *], by simp [atKey, eqN, *], by simp [atKey, eqC, *], by simp [atKey, eqX, *]⟩
theorem zztf_any (b o : Nat) (w : World) :
    Calls Trym.prog 8 #[.pointer (some ⟨b, o, none⟩)] w fun e w' => ∃ l c, e = .returned (.map (some w.heap.size)) ∧ w' = (w.alloc (.map (ents l) c)).drew ∧ Moments b o l := by
  go_enter Trym.func8, Trym.ntmps8
  go_wp2_with (go_at_call 15; refine (tf_any b o _).mono ?_; rintro e w' ⟨l, c, rfl, hw', hm⟩; subst w')
  go_ret
  exact ⟨_, _, rfl, rfl, hm⟩
end Go.Proofs.Qxb6616762aMods
