/-
  Of LawS2265CRefusesExactlyNonValues: the walk of the law itself.
-/
import Derived.Test.YbulkatwqFmtCheck
namespace Go.Proofs.YbulkatwqFmt.tree
open Go.ChangeShapes Go.WideShapes Go.ChangeAt Go.RowKit Go
open Go.Extern.Stop Go.Stop Go.Extern

set_option maxHeartbeats 1000000 in
set_option maxRecDepth 100000 in
theorem walk_short (a : Option Addr) (n c : Nat) (a1 : Option Addr) (n1 c1 : Nat) (w : World) (h : ¬ n ≤ 1024 ∨ ¬ n1 ≤ 1024) :
    Calls Ybaf.prog 3 #[.slice a n c, .slice a1 n1 c1] w fun e w' => e = .returned (.bool true) ∧ Below w.heap.size w w' := by
  by_cases h0 : n ≤ 1024
  · have h1 : decide ((1024 : Int) < (n : Int)) = false := by simp; omega
    have h2 : (1024 : Int) < (n1 : Int) := by omega
    go_enter Ybaf.func3, Ybaf.ntmps3
    go_wp2
    go_ret
    exact ⟨rfl, Below.refl _ _⟩
  · have h1 : (1024 : Int) < (n : Int) := by omega
    go_enter Ybaf.func3, Ybaf.ntmps3
    go_wp2
    go_ret
    exact ⟨rfl, Below.refl _ _⟩

set_option maxHeartbeats 2000000 in
set_option maxRecDepth 100000 in
theorem walk_mid (F : Interp) (a : Option Addr) (n c : Nat) (a1 : Option Addr) (n1 c1 : Nat) (w : World) (hF : F.answers w.tape) (ht : Tab w) (hK : Kinds w a n) (hK1 : Kinds w a1 n1) :
    Calls Ybaf.prog 3 #[.slice a n c, .slice a1 n1 c1] w fun e w' => e = .returned (.bool true) ∧ Below w.heap.size w w' := by
  have h1 : decide ((1024 : Int) < (n : Int)) = false := by have := hK.1; simp; omega
  have h2 : decide ((1024 : Int) < (n1 : Int)) = false := by have := hK1.1; simp; omega
  have HK := hide hK
  have HK1 := hide hK1
  have HT := hide ht
  have HF := hide hF
  clear hK hK1 ht hF
  go_enter Ybaf.func3, Ybaf.ntmps3
  go_wp2_with fail
  refine (build_any a n c a1 n1 c1 w HK.out HK1.out).mono ?_
  rintro e w1 ⟨v, es, rfl, hl, hb1, hM⟩
  obtain ⟨g, cg, rfl, _, hT⟩ := hM.tup (by rw [hl]; exact HK.out.1)
  have hT' : Tup Any 2 w1 (some ⟨g, 0, .none⟩) es := ⟨hT.1, by
    rcases hT.2.1 with h | ⟨g', e, hg, _, hc⟩
    · exact .inl h
    · exact .inr ⟨g', e, hg, trivial, hc⟩, fun e he => Val.avoid (fun _ _ _ => trivial) (hT.2.2 e he)⟩
  have HTT := hide hT'
  have HB1 := hide hb1
  have HTAPE := hide hb1.tape
  clear hM hT hT' hb1 hl
  go_wp2_with fail
  refine (check_any F (some ⟨g, 0, .none⟩) cg es w1 (by rw [HTAPE.out]; exact HF.out) (HT.out.below HB1.out) HTT.out).mono ?_
  rintro e w2 ⟨⟨hf, rfl⟩ | ⟨ht, x, rfl⟩, hb2⟩
  · have HB2 := hide hb2
    clear hb2
    rw [hf]
    clear hf
    go_wp2
    go_ret
    exact ⟨rfl, HB1.out.trans (HB2.out.mono HB1.out.size)⟩
  · have HB2 := hide hb2
    clear hb2
    rw [ht]
    clear ht
    go_wp2
    go_ret
    exact ⟨rfl, HB1.out.trans (HB2.out.mono HB1.out.size)⟩
end Go.Proofs.YbulkatwqFmt.tree
