/-
  Of LawS2267BCounts: the law's own arrays.
-/
import Derived.Test.YbulkatxsFmtCntPro
namespace Go.Proofs.YbulkatxsFmt.cnt
open Go.ChangeShapes Go.WideShapes Go.ChangeAt Go.RowKit Go

/-- cells that hold values, free to be written -/
def Arr (w : World) (b n : Nat) (v : Nat → Value) : Prop := (∀ i, i < n → w.cell? ⟨b, i, .none⟩ = some (v i)) ∧ ∀ j, w.frozen? ⟨b, j, .none⟩ = false
theorem Arr.keep {S : Nat → Prop} {w w' : World} {b n : Nat} {v : Nat → Value} (h : Arr w b n v) (k : Keep S w w') (hs : ¬ S b) (hlt : b < w.heap.size) : Arr w' b n v :=
  ⟨fun i hi => (k.cell (p := ⟨b, i, .none⟩) hlt hs).trans (h.1 i hi), fun j => (k.frozen (p := ⟨b, j, .none⟩) hlt hs).trans (h.2 j)⟩
theorem Arr.set {w : World} {b n : Nat} {v : Nat → Value} (h : Arr w b n v) (j : Nat) (x : Value) : Arr (w.setCell ⟨b, j, .none⟩ x) b n (fun i => if i = j then x else v i) := by
  refine ⟨fun i hi => ?_, fun j => by rw [World.frozen?_setCell]; exact h.2 j⟩
  show _ = some (if i = j then x else v i)
  by_cases e : i = j
  · subst e
    rw [World.cell?_setCell_same _ _ _ (h.1 i hi), if_pos rfl]
  · rw [World.cell?_setCell_other _ _ _ _ (by intro x; injection x with _ x2; exact e x2.symm), h.1 i hi, if_neg e]
theorem Arr.congr {w : World} {b n : Nat} {v v' : Nat → Value} (h : Arr w b n v) (e : ∀ i, i < n → v i = v' i) : Arr w b n v' := ⟨fun i hi => by rw [← e i hi]; exact h.1 i hi, h.2⟩
theorem arr_new (w : World) (n : Nat) (z : Value) (t : TypeId) : Arr (w.alloc (.cells (madeCells #[z] n) t)) w.heap.size n (fun _ => z) := by
  have hn := heap_alloc_new w (.cells (madeCells #[z] n) t)
  refine ⟨fun k hk => ?_, fun j => ?_⟩
  · unfold World.cell?
    rw [hn]
    simp [madeCells, hk, Nat.mod_one]
  · unfold World.frozen?
    rw [hn]
    simp

theorem info4 : (Ybaf.prog.info? 4).map (fun i => (i.zero, i.size, i.bytes)) = some (some (.bool false), 1, 1) := by kernel_rfl
theorem info21' : (Ybaf.prog.info? 21).map (fun i => (i.zero, i.size, i.bytes)) = some (some (.int .i32 0), 1, 4) := by kernel_rfl
theorem info38 : (Ybaf.prog.info? 38).map (fun i => (i.zero, i.size, i.bytes)) = some (some (.agg #[.int .u8 0, .string ⟨#[]⟩, .int .u32 0, .int .u32 0, .int .u32 0, .bool false, .bool false]), 7, 40) := by kernel_rfl
theorem make22 (n : Nat) (hn : n ≤ 8) (w : World) : (Instr.makeSlice 22 (.int .i64 n) (.int .i64 n)).run Ybaf.prog w = .ok (.slice (some ⟨w.heap.size, 0, .none⟩) n n) (w.alloc (.cells (madeCells #[.bool false] n) 4)) := by
  obtain ⟨i, hi, hz, hs, hb⟩ := info_parts info4
  have h := run_make (P := Ybaf.prog) w 22 4 i _ Ybaf.underlying22 hi hz .i64 .i64 n n (by omega) (by omega) (by rw [hb]; omega) (by omega)
  rw [hs, Int.toNat_natCast, Nat.mul_one] at h
  exact h
theorem make24 (n : Nat) (hn : n ≤ 512) (w : World) : (Instr.makeSlice 24 (.int .i64 n) (.int .i64 n)).run Ybaf.prog w = .ok (.slice (some ⟨w.heap.size, 0, .none⟩) n n) (w.alloc (.cells (madeCells #[.int .i32 0] n) 21)) := by
  obtain ⟨i, hi, hz, hs, hb⟩ := info_parts info21'
  have h := run_make (P := Ybaf.prog) w 24 21 i _ Ybaf.underlying24 hi hz .i64 .i64 n n (by omega) (by omega) (by rw [hb]; omega) (by omega)
  rw [hs, Int.toNat_natCast, Nat.mul_one] at h
  exact h
theorem make30 (n : Nat) (hn : n ≤ 8) (w : World) : (Instr.makeSlice 30 (.int .i64 n) (.int .i64 n)).run Ybaf.prog w = .ok (.slice (some ⟨w.heap.size, 0, .none⟩) n n) (w.alloc (.cells (madeCells #[.int .u8 0, .string ⟨#[]⟩, .int .u32 0, .int .u32 0, .int .u32 0, .bool false, .bool false] (n * 7)) 38)) := by
  obtain ⟨i, hi, hz, hs, hb⟩ := info_parts info38
  have h := run_make (P := Ybaf.prog) w 30 38 i _ Ybaf.underlying30 hi hz .i64 .i64 n n (by omega) (by omega) (by rw [hb]; omega) (by omega)
  rw [hs, Int.toNat_natCast] at h
  exact h
end Go.Proofs.YbulkatxsFmt.cnt
