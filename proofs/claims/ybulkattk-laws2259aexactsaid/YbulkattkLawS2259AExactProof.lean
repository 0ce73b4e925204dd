/-
  The proof of Rows.LawS2259AExactSaid: the frame is by the kit's program proof-skeleton.mjs (turned to a slice of structs of two strings); the walks lie in the texts that are imported.
-/
import Derived.Test.YbulkattkRows
import Derived.WalkKit
import Derived.ProofKit
import Derived.OpenShut
import Derived.ShutString
import Derived.ChangeOld
import Derived.Below
import Derived.Deep.SlicePairs
import Derived.Test.YbulkattkExactSms
namespace Go.Proofs.Ybulkattk.lawS2259AExact
open Go.ChangeShapes Go.WideShapes Go.ChangeAt Go.RowKit
open Go.ChangeMaps (open_string shut_string)
set_option linter.unusedVariables false

theorem own : ownKnob Yba.prog.godebug = none := by kernel_rfl
theorem laidOut : laidOutB Yba.prog = true := by kernel_rfl

/-! ### THE WALK: the Go text returns true, and writes nothing that was there -/
theorem walk (a0 : Bool) (a1 : Bool) (a2 : Bool) (a3 : ByteArray) (a4 : Option Addr) (len4 cap4 : Nat) (s0 s1 : Nat → ByteArray) (a5 : Bool) (a6 : ByteArray) (a7 : Bool) (a8 : Bool) (a9 : Int) (a10 : Int) (w : World) (w4 : exact.Row w a4 len4 s0 s1) :
    Calls Yba.prog 3 #[.bool a0, .bool a1, .bool a2, .string a3, .slice a4 len4 cap4, .bool a5, .string a6, .bool a7, .bool a8, .int .i64 a9, .int .i64 a10] w fun e w' => e = .returned (.bool true) ∧ Below w.heap.size w w' := by
  by_cases hn : len4 ≤ 1024
  · have h6 : (a6.toList == a3.toList) = false ∨ a6 = a3 := by
      rcases hx : a6.toList == a3.toList with _ | _
      · exact .inl rfl
      · right
        rw [← beq_toListBytes] at hx
        exact (MapKept.bytes_beq a6 a3).1 hx
    cases a0
    · exact exact.walk_off a1 a2 a3 a4 len4 cap4 a5 a6 a7 a8 a9 a10 w hn h6
    · rcases hb : (a1 && a2) with _ | _
      · cases a5
        · rcases h6 with h6 | rfl
          · exact exact.walk_smsC a1 a2 a3 a4 len4 cap4 a6 a7 a8 a9 a10 w hn s0 s1 h6 hb
          · exact exact.walk_smsB a1 a2 a4 len4 cap4 a6 a7 a8 a9 a10 w hn s0 s1 w4 hb
        · exact exact.walk_smsA a1 a2 a3 a4 len4 cap4 a6 a7 a8 a9 a10 w hn s0 s1 w4 hb
      · obtain ⟨rfl, rfl⟩ : a1 = true ∧ a2 = true := by simpa using hb
        cases a5
        · rcases h6 with h6 | rfl
          · exact exact.walk_initC a3 a4 len4 cap4 a6 a7 a8 a9 a10 w hn s0 s1 h6
          · exact exact.walk_initB a4 len4 cap4 a6 a7 a8 a9 a10 w hn s0 s1 w4
        · exact exact.walk_initA a3 a4 len4 cap4 a6 a7 a8 a9 a10 w hn s0 s1 w4
  · exact exact.walk_long a0 a1 a2 a3 a4 len4 cap4 a5 a6 a7 a8 a9 a10 w hn

/-! ### THE ROW's STEP: WRITTEN OUT: LEAVE IT -/
set_option maxRecDepth 100000 in
theorem lifted (os : Os) (started : os.Started) (H : Type) (enc : TypeId × Value → H) :
    ReturnsInHanded {} Yba.checked os 3 .any (Rows.lawS2259AExactSpec.pre6 enc Yba.prog Yba.f3 Rows.lawS2259AExactRow.domain false) (Rows.lawS2259AExactSpec.post enc Yba.prog Yba.f3 false true false false) := by
  refine returnsInHanded_of_change (C := Yba.checked) own started (by kernel_rfl) Yba.func3
    (ChangeSpec.witness6 (enc := enc) (C := Yba.checked) false ⟨#[], #[.bool false, .bool false, .bool false, .string ByteArray.empty, .slice none 0 0, .bool false, .string ByteArray.empty, .bool false, .bool false, .int .i64 0, .int .i64 0], []⟩ 8 (by kernel_rfl) (by kernel_rfl) (by kernel_rfl) (by kernel_rfl)) ?_
  intro W base args ds gs before hval0 hW hcnd _
  have hval : ∀ (j : Nat) t v, Yba.f3.params[j]? = some t → args[j]? = some v → Value.okWide Yba.prog W .any base t v := hval0
  have hW' := hW
  obtain ⟨p, q, hA0, hV, rfl, hfz, hnd⟩ := hW
  have hA : DataW.TrodAll enc Yba.prog W 0 (fun _ => true) true Yba.f3.params.toList args.toList ds p := hA0
  rw [Yba.params3] at hA hval
  obtain ⟨v0, vs0, d0, ds0, p0, q0, hargs, rfl, rfl, h0, r0⟩ := trodAll_cons hA
  obtain ⟨v1, vs1, d1, ds1, p1, q1, rfl, rfl, rfl, h1, r1⟩ := trodAll_cons r0
  obtain ⟨v2, vs2, d2, ds2, p2, q2, rfl, rfl, rfl, h2, r2⟩ := trodAll_cons r1
  obtain ⟨v3, vs3, d3, ds3, p3, q3, rfl, rfl, rfl, h3, r3⟩ := trodAll_cons r2
  obtain ⟨v4, vs4, d4, ds4, p4, q4, rfl, rfl, rfl, h4, r4⟩ := trodAll_cons r3
  obtain ⟨v5, vs5, d5, ds5, p5, q5, rfl, rfl, rfl, h5, r5⟩ := trodAll_cons r4
  obtain ⟨v6, vs6, d6, ds6, p6, q6, rfl, rfl, rfl, h6, r6⟩ := trodAll_cons r5
  obtain ⟨v7, vs7, d7, ds7, p7, q7, rfl, rfl, rfl, h7, r7⟩ := trodAll_cons r6
  obtain ⟨v8, vs8, d8, ds8, p8, q8, rfl, rfl, rfl, h8, r8⟩ := trodAll_cons r7
  obtain ⟨v9, vs9, d9, ds9, p9, q9, rfl, rfl, rfl, h9, r9⟩ := trodAll_cons r8
  obtain ⟨v10, vs10, d10, ds10, p10, q10, rfl, rfl, rfl, h10, r10⟩ := trodAll_cons r9
  obtain ⟨rfl, rfl, rfl⟩ := trodAll_nil r10
  obtain rfl : args = #[v0, v1, v2, v3, v4, v5, v6, v7, v8, v9, v10] := by cases args; simp_all
  obtain ⟨rfl, rfl⟩ := trodVars_none hV
  obtain ⟨a0, rfl, rfl, rfl⟩ := open_bool Yba.underlying4 (hval 0 4 v0 rfl rfl) h0
  obtain ⟨a1, rfl, rfl, rfl⟩ := open_bool Yba.underlying4 (hval 1 4 v1 rfl rfl) h1
  obtain ⟨a2, rfl, rfl, rfl⟩ := open_bool Yba.underlying4 (hval 2 4 v2 rfl rfl) h2
  obtain ⟨a3, rfl, rfl, rfl, w3⟩ := open_string Yba.underlying9 (hval 3 9 v3 rfl rfl) h3
  obtain ⟨a4, len4, cap4, rfl⟩ := okWide_slice Yba.underlying22 (hval 4 22 v4 rfl rfl)
  have k4 := h4
  have lt4 : ∀ x ∈ p4, x.block < W.heap.size := by obtain ⟨m, hm⟩ := k4; exact DataW.trod_lt m _ _ _ hm
  obtain ⟨s0, s1, w4⟩ : ∃ s0 s1, exact.Row W a4 len4 s0 s1 := by
    obtain ⟨fuel, hf⟩ := h4
    rcases Deep.open_slice_pairs Yba.underlying22 Yba.underlying37 (by kernel_rfl) rfl rfl (by kernel_rfl) (by kernel_rfl) hf with ⟨hcs, _⟩ | ⟨x, l, c, m, n, V0, V1, D0, D1, P0, P1, hcs, _, hl, hm, hmm, _, hx⟩
    · simp [Value.cells] at hcs
      obtain ⟨rfl, rfl, rfl⟩ := hcs
      exact ⟨fun _ => ByteArray.empty, fun _ => ByteArray.empty, .inl rfl⟩
    · simp [Value.cells] at hcs
      obtain ⟨rfl, rfl, rfl⟩ := hcs
      have hlm : len4 ≤ m := by rw [hmm]; simpa using hl
      have e0 : ∀ i, i < len4 → ∃ s : ByteArray, V0 i = .string s := fun i hi => by
        obtain ⟨_, _, t0, _⟩ := hx i (by omega)
        obtain ⟨s, e, _⟩ := DataW.trod_string Yba.underlying9 t0
        exact ⟨s, by simpa using e⟩
      have e1 : ∀ i, i < len4 → ∃ s : ByteArray, V1 i = .string s := fun i hi => by
        obtain ⟨_, _, _, t1⟩ := hx i (by omega)
        obtain ⟨s, e, _⟩ := DataW.trod_string Yba.underlying9 t1
        exact ⟨s, by simpa using e⟩
      obtain ⟨s0, f0⟩ := Deep.choose_lt e0
      obtain ⟨s1, f1⟩ := Deep.choose_lt e1
      refine ⟨s0, s1, ?_⟩
      by_cases hz : len4 = 0
      · exact .inl hz
      · right
        obtain ⟨b, off, sp⟩ := x
        have c0 := (hx 0 (by omega)).1
        have hsp : sp = none := by
          cases sp with
          | none => rfl
          | some q =>
            exfalso
            simp [World.cell?, Addr.add] at c0
            split at c0 <;> simp_all
        subst hsp
        refine ⟨b, off, rfl, ?_, fun i hi => ?_⟩
        · exact World.block_lt_of_cell? W _ c0
        · obtain ⟨g0, g1, _, _⟩ := hx i (by omega)
          rw [f0 i hi] at g0
          rw [f1 i hi] at g1
          rw [Addr.add_lit] at g0 g1
          exact ⟨g0, by rw [Nat.add_assoc]; exact g1⟩
  obtain ⟨a5, rfl, rfl, rfl⟩ := open_bool Yba.underlying4 (hval 5 4 v5 rfl rfl) h5
  obtain ⟨a6, rfl, rfl, rfl, w6⟩ := open_string Yba.underlying9 (hval 6 9 v6 rfl rfl) h6
  obtain ⟨a7, rfl, rfl, rfl⟩ := open_bool Yba.underlying4 (hval 7 4 v7 rfl rfl) h7
  obtain ⟨a8, rfl, rfl, rfl⟩ := open_bool Yba.underlying4 (hval 8 4 v8 rfl rfl) h8
  obtain ⟨a9, rfl, rfl, rfl, w9⟩ := open_int Yba.underlying3 (hval 9 3 v9 rfl rfl) h9
  obtain ⟨a10, rfl, rfl, rfl, w10⟩ := open_int Yba.underlying3 (hval 10 3 v10 rfl rfl) h10
  clear hA0 hval0
  refine (walk a0 a1 a2 a3 a4 len4 cap4 s0 s1 a5 a6 a7 a8 a9 a10 W w4).mono fun e W' ⟨he, bel⟩ => ?_
  subst he
  exact ⟨_, rfl, _, _, _, [], _, [], hW', trodAll_mk1 (shut_bool Yba.underlying4 _), (trodAll_cons_mk (shut_bool Yba.underlying4 _) (trodAll_cons_mk (shut_bool Yba.underlying4 _) (trodAll_cons_mk (shut_bool Yba.underlying4 _) (trodAll_cons_mk (shut_string Yba.underlying9 w3) (trodAll_cons_mk (Below.trod laidOut (by kernel_rfl) (of_decide_eq_true (by kernel_rfl)) k4 bel lt4) (trodAll_cons_mk (shut_bool Yba.underlying4 _) (trodAll_cons_mk (shut_string Yba.underlying9 w6) (trodAll_cons_mk (shut_bool Yba.underlying4 _) (trodAll_cons_mk (shut_bool Yba.underlying4 _) (trodAll_cons_mk (shut_int Yba.underlying3 w9) (trodAll_cons_mk (shut_int Yba.underlying3 w10) trodAll_mk0))))))))))), rfl, bel.frame _, fun h => by cases h⟩

theorem over : Rows.lawS2259AExactRow.holds Yba.pinned (OpenSpec.ofChange Rows.lawS2259AExactSpec) :=
  OpenClaim.holds_of_wide 3 Yba.f3 rfl rfl rfl rfl rfl rfl rfl ⟨rfl, rfl, rfl, rfl, rfl⟩ rfl rfl rfl rfl rfl (by kernel_rfl) Yba.func3 (by kernel_rfl)
    (of_decide_eq_true (by kernel_rfl)) (by unfold Func.isWrapper; first | (rw [if_pos (by decide +kernel)]; kernel_rfl) | (rw [if_neg (by decide +kernel)]; exact ⟨rfl, rfl⟩))
    (fun os started H enc _ => lifted os started H enc)

/-- ████ THE STATEMENT ████ -/
theorem proved : Rows.LawS2259AExactSaid := over
#print axioms proved
end Go.Proofs.Ybulkattk.lawS2259AExact
