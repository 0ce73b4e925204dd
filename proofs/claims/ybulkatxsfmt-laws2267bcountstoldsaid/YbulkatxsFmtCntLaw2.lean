/-
  Of LawS2267BCounts: the law's memory while it reckons.
-/
import Derived.Test.YbulkatxsFmtCntLaw1
import Derived.Test.YbulkatxsFmtCntFin
namespace Go.Proofs.YbulkatxsFmt.cnt
open Go.ChangeShapes Go.WideShapes Go.ChangeAt Go.RowKit Go

/-- what is final, so far -/
structure Fs (wc : World) (Fb m : Nat) (f : Nat → Bool) (wr : World) : Prop where
  keep : Keep (fun i => Fb ≤ i) wc wr
  arr : Arr wr Fb m (fun i => .bool (f i))
  lt : Fb < wr.heap.size
theorem Fs.set {wc : World} {Fb m : Nat} {f f' : Nat → Bool} {wr : World} (h : Fs wc Fb m f wr) (j : Nat) (x : Bool) (e : ∀ i, (if i = j then x else f i) = f' i) : Fs wc Fb m f' (wr.setCell ⟨Fb, j, .none⟩ (.bool x)) :=
  ⟨h.keep.setCell (p := ⟨Fb, j, .none⟩) (fun _ => Nat.le_refl _) _, (h.arr.set j _).congr fun i _ => by rw [← e i]; split <;> rfl, by simpa using h.lt⟩
/-- what is alive, so far -/
structure Vs (wc : World) (Fb Vb m : Nat) (f a : Nat → Bool) (wr : World) : Prop where
  fs : Fs wc Fb m f wr
  arr : Arr wr Vb m (fun i => .bool (a i))
  lo : Fb < Vb
  lt : Vb < wr.heap.size
theorem Vs.set {wc : World} {Fb Vb m : Nat} {f a a' : Nat → Bool} {wr : World} (h : Vs wc Fb Vb m f a wr) (j : Nat) (x : Bool) (e : ∀ i, (if i = j then x else a i) = a' i) : Vs wc Fb Vb m f a' (wr.setCell ⟨Vb, j, .none⟩ (.bool x)) := by
  have lo := h.lo
  have k : Keep (fun i => i = Vb) wr (wr.setCell ⟨Vb, j, .none⟩ (.bool x)) := (Keep.refl (fun i => i = Vb) wr).setCell (p := ⟨Vb, j, .none⟩) (fun _ => rfl) _
  exact ⟨⟨h.fs.keep.then k (fun i _ hi => by omega), h.fs.arr.keep k (by omega) h.fs.lt, by simpa using h.fs.lt⟩, (h.arr.set j _).congr fun i _ => by rw [← e i]; split <;> rfl, lo, by simpa using h.lt⟩

def wantK (dfn f : Nat → Bool) (us : List Us) : Nat := topCnt dfn us + heldCnt (heldOf us) dfn f
section
variable {dfn f : Nat → Bool} {us : List Us} {k : Nat} {x : Us}
theorem take_snoc (h : us[k]? = some x) : us.take (k + 1) = us.take k ++ [x] := by rw [List.take_add_one, h, Option.toList_some]
theorem wantK_def (h : us[k]? = some x) (hd : dfn x.a = true) : wantK dfn f (us.take (k + 1)) = wantK dfn f (us.take k) := by
  unfold wantK
  rw [take_snoc h, topCnt_def hd]
  by_cases hp : x.p = 0
  · rw [heldOf_top hp]
  · rw [heldOf_held hp]; simp [heldCnt, List.filter_append, hd]
theorem wantK_top (h : us[k]? = some x) (hd : dfn x.a = false) (hp : x.p = 0) : wantK dfn f (us.take (k + 1)) = wantK dfn f (us.take k) + 1 := by
  unfold wantK
  rw [take_snoc h, topCnt_undef hp hd, heldOf_top hp]
  omega
theorem wantK_fin (h : us[k]? = some x) (hd : dfn x.a = false) (hp : x.p ≠ 0) (hf : f (x.p - 1) = true) : wantK dfn f (us.take (k + 1)) = wantK dfn f (us.take k) + 1 := by
  unfold wantK
  rw [take_snoc h, topCnt_held hp, heldOf_held hp]
  simp [heldCnt, List.filter_append, hd, hf]
  omega
theorem wantK_not (h : us[k]? = some x) (hp : x.p ≠ 0) (hf : f (x.p - 1) = false) : wantK dfn f (us.take (k + 1)) = wantK dfn f (us.take k) := by
  unfold wantK
  rw [take_snoc h, topCnt_held hp, heldOf_held hp]
  simp [heldCnt, List.filter_append, hf]
theorem wantK_le (us : List Us) : wantK dfn f us ≤ 2 * us.length := by
  unfold wantK
  have h1 := topCnt_le (dfn := dfn) us
  have h2 := heldOf_le us
  have h3 : heldCnt (heldOf us) dfn f ≤ (heldOf us).length := List.length_filter_le _ _
  omega
end
end Go.Proofs.YbulkatxsFmt.cnt
