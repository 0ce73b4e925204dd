/-
  The proof of Rows.LawS2265BPeekAtSaid: the frame is by the kit's program proof-skeleton.mjs, its last rows turned to 'Below'; the walks lie in the texts that are imported.
-/
import Derived.Test.YbulkatwqRows
import Derived.WalkKit
import Derived.ProofKit
import Derived.OpenShut
import Derived.ShutString
import Derived.ChangeOld
import Derived.SizedLaws
import Derived.Test.YbulkatwqPeek
namespace Go.Proofs.Ybulkatwq.lawS2265BPeekAt
open Go.ChangeShapes Go.WideShapes Go.ChangeAt Go.RowKit
open Go.ChangeMaps (open_string shut_string)
set_option linter.unusedVariables false      -- a walk need not use every 'w<i>' (that an integer argument fits its kind)

theorem own : ownKnob Yba.prog.godebug = none := by kernel_rfl

/-! ### THE WALK -/
theorem walk (a0 : ByteArray) (a1 : Int) (w : World) (hs : a0.size < 140737488355328) (w1 : (Lit.int .u64 a1).wf = true) :
    Calls Yba.prog 3 #[.string a0, .int .u64 a1] w fun e w' => e = .returned (.bool true) ∧ Below w.heap.size w w' := by
  have b1 := bounds_u64 w1
  have q2 : 0 ≤ a1 % ((a0.size : Int) + 1) := Int.emod_nonneg _ (by omega)
  have q3 : a1 % ((a0.size : Int) + 1) < (a0.size : Int) + 1 := Int.emod_lt_of_pos _ (by omega)
  by_cases h : (a1 % ((a0.size : Int) + 1)).toNat < a0.size
  · exact peek.law_in a0 a1 (a1 % ((a0.size : Int) + 1)).toNat w hs b1.1 (peek.hide (by omega)) h
  · exact peek.law_end a0 a1 (a1 % ((a0.size : Int) + 1)).toNat w hs b1.1 (peek.hide (by omega)) (peek.hide (by omega))

/-! ### THE ROW's STEP: WRITTEN OUT: LEAVE IT -/
set_option maxRecDepth 100000 in
theorem lifted (os : Os) (started : os.Started) (H : Type) (enc : TypeId × Value → H) :
    ReturnsInHanded {} Yba.checked os 3 .any (Rows.lawS2265BPeekAtSpec.pre6 enc Yba.prog Yba.f3 Rows.lawS2265BPeekAtRow.domain false) (Rows.lawS2265BPeekAtSpec.post enc Yba.prog Yba.f3 false true false false) := by
  refine returnsInHanded_of_change_sized (C := Yba.checked) own started (by kernel_rfl) Yba.func3
    (ChangeSpec.witness6 (enc := enc) (C := Yba.checked) false ⟨#[], #[.string ByteArray.empty, .int .u64 0], []⟩ 8 (by kernel_rfl) (by kernel_rfl) (by kernel_rfl) (by kernel_rfl)) ?_
  intro W base args ds gs before hval0 hW hcnd hsz _
  have hval : ∀ (j : Nat) t v, Yba.f3.params[j]? = some t → args[j]? = some v → Value.okWide Yba.prog W .any base t v := hval0
  have hW' := hW
  obtain ⟨p, q, hA0, hV, rfl, hfz, hnd⟩ := hW
  have hA : DataW.TrodAll enc Yba.prog W 0 (fun _ => true) true Yba.f3.params.toList args.toList ds p := hA0
  rw [Yba.params3] at hA hval
  obtain ⟨v0, vs0, d0, ds0, p0, q0, hargs, rfl, rfl, h0, r0⟩ := trodAll_cons hA
  obtain ⟨v1, vs1, d1, ds1, p1, q1, rfl, rfl, rfl, h1, r1⟩ := trodAll_cons r0
  obtain ⟨rfl, rfl, rfl⟩ := trodAll_nil r1
  obtain rfl : args = #[v0, v1] := by cases args; simp_all
  obtain ⟨rfl, rfl⟩ := trodVars_none hV
  obtain ⟨a0, rfl, rfl, rfl, w0⟩ := open_string Yba.underlying9 (hval 0 9 v0 rfl rfl) h0
  obtain ⟨a1, rfl, rfl, rfl, w1⟩ := open_int Yba.underlying22 (hval 1 22 v1 rfl rfl) h1
  clear hA0 hval0
  simp only [List.append_nil] at hW'
  have hlen : a0.data.toList.length ≤ reachBytes := sized_string hsz (j := 0) (t := 9) rfl rfl
  have hr47 := reachBytes_lt
  have hs : a0.size < 140737488355328 := by
    have : a0.data.toList.length = a0.size := by simp
    omega
  refine (walk a0 a1 W hs w1).mono fun e W' ⟨he, bel⟩ => ?_
  subst he
  exact ⟨_, rfl, _, _, _, [], _, [], hW', trodAll_mk1 (shut_bool Yba.underlying4 _), (trodAll_cons_mk (shut_string Yba.underlying9 w0) (trodAll_cons_mk (shut_int Yba.underlying22 w1) trodAll_mk0)), rfl, bel.frame _, fun h => by cases h⟩

theorem over : Rows.lawS2265BPeekAtRow.holds Yba.pinned (OpenSpec.ofChange Rows.lawS2265BPeekAtSpec) :=
  OpenClaim.holds_of_wide 3 Yba.f3 rfl rfl rfl rfl rfl rfl rfl ⟨rfl, rfl, rfl, rfl, rfl⟩ rfl rfl rfl rfl rfl (by kernel_rfl) Yba.func3 (by kernel_rfl)
    (of_decide_eq_true (by kernel_rfl)) (by unfold Func.isWrapper; first | (rw [if_pos (by decide +kernel)]; kernel_rfl) | (rw [if_neg (by decide +kernel)]; exact ⟨rfl, rfl⟩))
    (fun os started H enc _ => lifted os started H enc)

/-- ████ THE STATEMENT ████ -/
theorem proved : Rows.LawS2265BPeekAtSaid :=
  over
#print axioms proved
end Go.Proofs.Ybulkatwq.lawS2265BPeekAt
