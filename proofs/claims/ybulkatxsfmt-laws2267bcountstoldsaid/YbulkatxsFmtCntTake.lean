/-
  Of LawS2267BCounts: takeUvarint, on what AppendUvarint has laid.
-/
import Derived.Test.YbulkatxsFmtCntInn
import Derived.Test.YbulkatxsFmtShelf
namespace Go.Proofs.YbulkatxsFmt.cnt
open Go.ChangeShapes Go.WideShapes Go.ChangeAt Go.RowKit Go
open Go.Extern.Stop Go.Stop Go.Extern

theorem dec_of {x : Nat} (hx : x < 16384) (rest : List UInt8) : Lib.uvarintDec (Lib.uvarint x ++ rest) = (x, ((Lib.uvarint x).length : Int)) := by
  by_cases h : x < 128
  · rw [Lib.uvarint_small h]
    simp [Lib.uvarintDec, Lib.uvarintFrom, Lib.toUInt8_toNat (show x < 256 by omega), h]
  · rw [Lib.uvarint_big (by omega), Lib.uvarint_small (show x / 128 < 128 by omega)]
    have h1 : (x % 128 + 128).toUInt8.toNat = x % 128 + 128 := Lib.toUInt8_toNat (by omega)
    have h2 : (x / 128).toUInt8.toNat = x / 128 := Lib.toUInt8_toNat (by omega)
    have h3 : x / 128 < 128 := by omega
    generalize (x % 128 + 128).toUInt8 = p at h1 ⊢
    generalize (x / 128).toUInt8 = q at h2 ⊢
    simp only [Lib.uvarintDec, List.cons_append, List.nil_append, Lib.uvarintFrom, h1, h2]
    simp [h3]
    rw [if_neg (by omega), show x % 128 + x / 128 * 128 = x by omega]

/-- a slice of bytes, not nil -/
def BSl (w : World) (g : Nat) (v : Value) (l : List UInt8) : Prop := ∃ o c : Nat, v = .slice (some ⟨g, o, .none⟩) l.length c ∧ l.length ≤ c ∧ ∀ j (hj : j < l.length), w.cell? ⟨g, o + j, .none⟩ = some (.int .u8 (l[j]).toNat)

theorem BSl.keep {S : Nat → Prop} {w w' : World} {g : Nat} {v : Value} {l : List UInt8} (h : BSl w g v l) (k : Keep S w w') (hg : ¬ S g) : BSl w' g v l := by
  obtain ⟨o, c, e, h1, h2⟩ := h
  exact ⟨o, c, e, h1, fun j hj => (k.cell (World.block_lt_of_cell? w _ (h2 j hj)) hg).trans (h2 j hj)⟩

theorem slice25 (g o n c k : Nat) (hk : k ≤ n) (wx : World) : (Instr.sliceAt 25 (.slice (some ⟨g, o, .none⟩) n c) (some (.int .i64 k)) none none).run Ybaf.prog wx = .ok (.slice (some ⟨g, if c = k then o else o + k, .none⟩) (n - k) (c - k)) wx := by
  have hu : Ybaf.prog.underlying 25 = some (.slice (Ybaf.prog.elem 25)) := by kernel_rfl
  have hs : (sizeOf (Ybaf.prog.elem 25)).run Ybaf.prog wx = .ok 1 wx := by kernel_rfl
  rw [run_sliceAt_slice _ _ _ _ _ _ hu, run_slice_l _ _ _ _ _ hu _ _ (by omega) (by omega), hs]
  simp only [Result.andThen, sliced]
  by_cases h : c = k <;> simp [h, Addr.add]

set_option maxHeartbeats 1000000 in
set_option maxRecDepth 100000 in
theorem take_any (P g x : Nat) (rest : List UInt8) (v : Value) (w : World) (hx : x < 16384) (hP : w.cell? ⟨P, 0, .none⟩ = some v) (hz : w.frozen? ⟨P, 0, .none⟩ = false) (hv : BSl w g v (Lib.uvarint x ++ rest)) :
    Calls Ybaf.prog 24 #[.pointer (some ⟨P, 0, .none⟩)] w fun e w' => e = .returned (.int .u64 x) ∧ ∃ v', w' = w.setCell ⟨P, 0, .none⟩ v' ∧ BSl w g v' rest := by
  obtain ⟨o, c, rfl, hc, hcell⟩ := hv
  have hcon := Ybaf.binary_Uvarint g o (Lib.uvarint x ++ rest).length c (Lib.uvarint x ++ rest) w rfl hcell
  rw [dec_of hx] at hcon
  obtain ⟨k, hk⟩ : ∃ k, k = (Lib.uvarint x).length := ⟨_, rfl⟩
  obtain ⟨n, hn⟩ : ∃ n, n = (Lib.uvarint x ++ rest).length := ⟨_, rfl⟩
  have hn' : n = k + rest.length := by rw [hn, hk]; simp
  have hsl := slice25 g o n c k (by omega)
  obtain ⟨o', ho'⟩ : ∃ o', o' = if c = k then o else o + k := ⟨_, rfl⟩
  rw [← ho'] at hsl
  rw [← hn] at hP hcon hc
  rw [← hk] at hcon
  have HC := hide hcell
  have HK := hide hk
  have HN := hide hn'
  have HO := hide ho'
  clear hcell hk hn hn' ho'
  go_enter Ybaf.func24, Ybaf.ntmps24
  go_wp2_with (go_at_call 32; refine hcon.mono ?_; rintro e w' ⟨rfl, rfl⟩)
  go_ret
  refine ⟨rfl, _, rfl, o', c - k, ?_, ?_, fun j hj => ?_⟩
  · rw [show n - k = rest.length by have := HN.out; omega]
  · have := HN.out; omega
  · have h1 := HC.out (k + j) (by have := HK.out; rw [List.length_append]; omega)
    have h2 : c ≠ k := by have := HN.out; omega
    rw [HO.out, if_neg h2, Nat.add_assoc, h1]
    congr 3
    have e : (Lib.uvarint x ++ rest)[k + j]? = rest[j]? := by rw [List.getElem?_append_right (by have := HK.out; omega), HK.out, Nat.add_sub_cancel_left]
    rw [List.getElem?_eq_getElem, List.getElem?_eq_getElem] at e
    injection e with e
    rw [e]
    have := HK.out
    rw [List.length_append]
    omega
end Go.Proofs.YbulkatxsFmt.cnt
