/-
  Of LawS2259AExact: the map of one entry; updatePreferred; overTheAir.
-/
import Derived.Test.YbulkattkExactEq
import Derived.Deep.RegionHeld3
import Derived.WideMake
namespace Go.Proofs.Ybulkattk.exact
open Go.ChangeShapes Go.WideShapes Go.ChangeAt Go.RowKit Go

theorem hide {p : Prop} (h : p) : Hid p := h

/-- The map of one entry, as it lies in memory. -/
def oneEntry (key : ByteArray) (v : Value) : Obj := .map #[{ key := .string key, val := v, born := 0 }] 1

theorem run_insert (w : World) (key : ByteArray) (v : Value) :
    (Instr.mapUpdate 24 (.map (some w.heap.size)) (.string key) v).run Yba.prog (w.alloc (.map #[] 0)) = .ok () (w.alloc (oneEntry key v)) := by
  refine (run_mapUpdate_first (w.alloc (.map #[] 0)) 24 9 22 w.heap.size 0 key v Yba.underlying24 Yba.underlying9 (heap_alloc_new w _)).trans ?_
  have : (w.alloc (.map #[] 0)).heap.setIfInBounds w.heap.size (oneEntry key v) = (w.alloc (oneEntry key v)).heap := by
    show (w.heap.push _).setIfInBounds w.heap.size _ = w.heap.push _
    apply Array.ext_getElem?
    intro i
    simp [Array.getElem?_setIfInBounds, Array.getElem?_push]
    split <;> split <;> simp_all
  show Result.ok () { w.alloc (.map #[] 0) with heap := (w.alloc (.map #[] 0)).heap.setIfInBounds w.heap.size (oneEntry key v) } = _
  rw [this]
  rfl

theorem run_look (w : World) (r : Nat) (key k : ByteArray) (v : Value) (h : w.heap[r]? = some (oneEntry key v)) :
    (Instr.lookup 24 (.map (some r)) (.string k) false).run Yba.prog w = .ok (if k = key then v else .slice .none 0 0) w := by
  have hc : (Instr.checkKey false 10000 9 (.string k)).run Yba.prog w = .ok () w := MapKept.run_checkKey (k := .string k) Yba.underlying9 (by simp [MapKept.IsKey]) false 9999
  have hg : (getObj r).run Yba.prog w = _ := MapKept.run_getObj_map h
  by_cases e : k = key
  · have hb : (k == key) = true := (MapKept.bytes_beq k key).2 e
    have hf : Instr.findNow .string (.string k) [({ key := .string key, val := v, born := 0 } : MapEntry)] 0 = some (some (0, v)) := by simp [Instr.findNow, Instr.sameNow, hb]
    rw [if_pos e]
    simp [Instr.lookup, run_underlying Yba.underlying24, hg, hc, MapKept.run_findKey Yba.underlying9 hf, Result.andThen]
  · have hb : (k == key) = false := by
      rcases hx : k == key with _ | _
      · rfl
      · exact absurd ((MapKept.bytes_beq k key).1 hx) e
    have hf : Instr.findNow .string (.string k) [({ key := .string key, val := v, born := 0 } : MapEntry)] 0 = some none := by simp [Instr.findNow, Instr.sameNow, hb]
    rw [if_neg e]
    simp [Instr.lookup, run_underlying Yba.underlying24, hg, hc, MapKept.run_findKey Yba.underlying9 hf, Result.andThen, Yba.zeroValue22]

/-- slices.Clone, nil or not. -/
theorem clone_any (a : Option Addr) (n c : Nat) (s0 s1 : Nat → ByteArray) (w : World) (hr : Row w a n s0 s1) (hn : n ≤ 1024) :
    Calls Yba.prog 12 #[.slice a n c] w fun e w' => ∃ a' c', e = .returned (.slice a' n c') ∧ Row w' a' n s0 s1 ∧
      (n ≠ 0 → ∃ g cur, a' = some ⟨g, 0, .none⟩ ∧ w.heap.size ≤ g ∧ w'.heap[g]? = some (.cells cur 37 (0, 0))) ∧ Below w.heap.size w w' := by
  cases a with
  | some x => exact clone_some x n c s0 s1 w hr hn
  | none =>
    obtain rfl : n = 0 := by
      rcases hr with h | ⟨b, off, h, _⟩
      · exact h
      · cases h
    refine (clone_nil c w).mono ?_
    rintro e w' ⟨rfl, rfl⟩
    exact ⟨_, _, rfl, .inl rfl, fun h => absurd rfl h, Below.refl _ _⟩

/-- What an update action holds: the kind, and a copy of the row in memory from 'B' on. -/
def Copied (B : Nat) (w : World) (a' : Option Addr) (n : Nat) (s0 s1 : Nat → ByteArray) : Prop :=
  Row w a' n s0 s1 ∧ (n ≠ 0 → ∃ g cur, a' = some ⟨g, 0, .none⟩ ∧ B ≤ g ∧ w.heap[g]? = some (.cells cur 37 (0, 0)))

theorem Copied.below {w w' : World} {a : Option Addr} {n : Nat} {s0 s1 : Nat → ByteArray} {B : Nat} (h : Copied B w a n s0 s1) (hb : Below w.heap.size w w') : Copied B w' a n s0 s1 := by
  obtain ⟨h1, h2⟩ := h
  refine ⟨?_, fun hn => ?_⟩
  · rcases h1 with h1 | ⟨b, off, rfl, hlt, h1⟩
    · exact .inl h1
    · exact Row.below (.inr ⟨b, off, rfl, hlt, h1⟩) hb (by rintro x hx; cases hx; exact hlt)
  · obtain ⟨g, cur, rfl, hB, hg⟩ := h2 hn
    exact ⟨g, cur, rfl, hB, by rw [hb.block g (Array.getElem?_eq_some_iff.1 hg).1]; exact hg⟩

theorem copied_store {w1 : World} {a' : Option Addr} {n B : Nat} {s0 s1 : Nat → ByteArray} (u0 u1 : Value) (hr : Row w1 a' n s0 s1)
    (hg : n ≠ 0 → ∃ g cur, a' = some ⟨g, 0, .none⟩ ∧ B + 1 ≤ g ∧ w1.heap[g]? = some (.cells cur 37 (0, 0))) : Copied B ((w1.setCell ⟨B, 0, .none⟩ u0).setCell ⟨B, 1, .none⟩ u1) a' n s0 s1 := by
  by_cases hn : n = 0
  · exact ⟨.inl hn, fun h => absurd hn h⟩
  · obtain ⟨g, cur, rfl, hB, hh⟩ := hg hn
    have hk : ((w1.setCell ⟨B, 0, .none⟩ u0).setCell ⟨B, 1, .none⟩ u1).heap[g]? = w1.heap[g]? := by
      rw [Below.heap_setCell _ _ _ _ (show g ≠ B by omega), Below.heap_setCell _ _ _ _ (show g ≠ B by omega)]
    have hlt := (Array.getElem?_eq_some_iff.1 (hk.trans hh)).1
    refine ⟨?_, fun _ => ⟨g, cur, rfl, by omega, hk.trans hh⟩⟩
    rcases hr with h | ⟨b, off, e, _, h⟩
    · exact absurd h hn
    · cases e
      refine .inr ⟨g, 0, rfl, hlt, fun i hi => ?_⟩
      rw [World.cell?_of_block (w := w1) (a := ⟨g, 0 + i * 2, .none⟩) hk, World.cell?_of_block (w := w1) (a := ⟨g, 0 + i * 2 + 1, .none⟩) hk]
      exact h i hi

/-- What a callee that leaves old memory alone has left of a block just made, and of what was there before. -/
theorem after {w w1 : World} {v0 v1 : Value} (hb : Below (w.alloc (.cells #[v0, v1] 47)).drew.heap.size (w.alloc (.cells #[v0, v1] 47)).drew w1) :
    w.heap.size < w1.heap.size ∧ w1.cell? ⟨w.heap.size, 0, .none⟩ = some v0 ∧ w1.cell? ⟨w.heap.size, 1, .none⟩ = some v1 ∧ w1.frozen? ⟨w.heap.size, 0, .none⟩ = false ∧ w1.frozen? ⟨w.heap.size, 1, .none⟩ = false ∧
      (∀ b o, b < w.heap.size → w1.cell? ⟨b, o, .none⟩ = w.cell? ⟨b, o, .none⟩) ∧ (∀ b, b < w.heap.size → w1.heap[b]? = w.heap[b]?) := by
  have hsz : (w.alloc (.cells #[v0, v1] 47)).drew.heap.size = w.heap.size + 1 := by simp
  have hnew : w1.heap[w.heap.size]? = some (.cells #[v0, v1] 47 (0, 0)) := by
    rw [hb.block _ (by omega)]
    exact heap_alloc_new w _
  have hold : ∀ b, b < w.heap.size → w1.heap[b]? = w.heap[b]? := fun b h => by
    rw [hb.block _ (by omega)]
    exact Below.heap_alloc w _ b h
  refine ⟨by have := hb.size; omega, ?_, ?_, ?_, ?_, fun b o h => ?_, hold⟩
  · simp [World.cell?, hnew]
  · simp [World.cell?, hnew]
  · simp [World.frozen?, hnew]
  · simp [World.frozen?, hnew]
  · exact World.cell?_of_block (w := w) (hold b h)

set_option maxHeartbeats 2000000 in
set_option maxRecDepth 100000 in
theorem updPref (bp bv r : Nat) (key mcc : ByteArray) (pv : Value) (a : Option Addr) (n c : Nat) (s0 s1 : Nat → ByteArray) (w : World)
    (hp : w.cell? ⟨bp, 1, .none⟩ = some (.map (some r))) (hv : w.cell? ⟨bv, 0, .none⟩ = some (.string mcc)) (hm : w.heap[r]? = some (oneEntry key pv))
    (hval : (if mcc = key then pv else .slice .none 0 0) = .slice a n c) (hr : Row w a n s0 s1) (hn : n ≤ 1024) :
    Calls Yba.prog 10 #[.pointer (some ⟨bp, 0, .none⟩), .pointer (some ⟨bv, 0, .none⟩)] w fun e w' => ∃ a' c', e = .returned (.agg #[.string UP, .slice a' n c']) ∧
      Copied w.heap.size w' a' n s0 s1 ∧ Below w.heap.size w w' := by
  have lp := World.block_lt_of_cell? w _ hp
  have lv := World.block_lt_of_cell? w _ hv
  have L : Hid (∀ W : World, W.heap[r]? = some (oneEntry key pv) → (Instr.lookup 24 (.map (some r)) (.string mcc) false).run Yba.prog W = .ok (.slice a n c) W) := fun W hW => by
    rw [run_look W r key mcc pv hW, hval]
  have R : Hid (Row w a n s0 s1) := hr
  have M : Hid (w.heap[r]? = some (oneEntry key pv)) := hm
  have lm : r < w.heap.size := (Array.getElem?_eq_some_iff.1 hm).1
  clear hval hr hm
  have LK : ∀ O, (Instr.lookup 24 (.map (some r)) (.string mcc) false).run Yba.prog (w.alloc O).drew = .ok (.slice a n c) (w.alloc O).drew := fun O => L.out _ (by show (w.alloc O).heap[r]? = _; rw [Below.heap_alloc _ _ _ lm]; exact M.out)
  have RW : Hid (∀ O, Row (w.alloc O).drew a n s0 s1) := fun O => by
    rcases R.out with h | ⟨b, off, e, hlt, h⟩
    · exact .inl h
    · exact Row.below R.out ((Below.refl w.heap.size w).alloc (Nat.le_refl _) O).drew (by rw [e]; rintro x hx; cases hx; exact hlt)
  have np : w.heap.size ≠ bp := by have : bp < w.heap.size := lp; omega
  have nv : w.heap.size ≠ bv := by have : bv < w.heap.size := lv; omega
  unfold UP
  go_enter Yba.func10, Yba.ntmps10
  go_wp2_with fail
  go_region_held3 (fun W => W.cell? ⟨bp, 1, .none⟩ = some (.map (some r)) ∧ W.cell? ⟨bv, 0, .none⟩ = some (.string mcc) ∧ (Instr.lookup 24 (.map (some r)) (.string mcc) false).run Yba.prog W = .ok (.slice a n c) W)
    (go_keep)
    ((go_at_call 12; refine (clone_any _ n _ s0 s1 _ (RW.out _) hn).mono ?_; rintro e w1 ⟨a', c', rfl, hrow, hg, hb⟩; have HR := hide hrow; have HG := hide hg; have HB := hide hb; clear hrow hg; obtain ⟨hsz, n0, n1, f0, f1, hc, hh⟩ := after hb; clear hb; have k1 := hc bp 1 lp; have k2 := hc bv 0 lv; have k3 := L.out w1 (by rw [hh r lm]; exact M.out); have k4 := fun u0 u1 => L.out ((w1.setCell ⟨w.heap.size, 0, .none⟩ u0).setCell ⟨w.heap.size, 1, .none⟩ u1) (by rw [Below.heap_setCell _ _ _ _ (Nat.ne_of_lt lm), Below.heap_setCell _ _ _ _ (Nat.ne_of_lt lm), hh r lm]; exact M.out); clear hh hc))
  go_wp2
  refine bodyPost_ret (v := .agg #[.string ⟨#[117, 112, 100, 97, 116, 101, 45, 112, 114, 101, 102, 101, 114, 114, 101, 100]⟩, .slice a' n c']) (by simp [results, Yba.results10, go_sem, n0, n1]) rfl ⟨a', c', rfl, copied_store _ _ HR.out (by simpa using HG.out), ?_⟩
  exact ((((Below.refl _ w).alloc (Nat.le_refl _) _).drew.trans (HB.out.mono (by simp))).setCell (Nat.le_refl _) _).setCell (Nat.le_refl _) _
end Go.Proofs.Ybulkattk.exact
