/-
  Of LawS2265CRefusesExactlyNonValues: zzs2265cbuild.
-/
import Derived.Test.YbulkatwqFmtMake
namespace Go.Proofs.YbulkatwqFmt.tree
open Go.ChangeShapes Go.WideShapes Go.ChangeAt Go.RowKit Go

theorem makeTuple (n : Nat) (hn : n ≤ 1024) (w : World) : (Instr.makeSlice 24 (.int .i64 0) (.int .i64 n)).run Ybaf.prog w = .ok (.slice (some ⟨w.heap.size, 0, .none⟩) 0 n) (w.alloc (.cells (madeCells #[.nilIface] n) 39)) := by
  obtain ⟨i, hi, hz, hs, hb⟩ := info_parts info39
  have h := run_make (P := Ybaf.prog) w 24 39 i _ Ybaf.underlying24 hi hz .i64 .i64 0 n (by omega) (by omega) (by rw [hb]; omega) (by omega)
  rw [hs, Int.toNat_natCast, Nat.mul_one] at h
  exact h

theorem Kinds.below {w w' : World} {a : Option Addr} {n : Nat} (h : Kinds w a n) (hb : Below w.heap.size w w') : Kinds w' a n := by
  refine ⟨h.1, ?_⟩
  rcases h.2 with h0 | ⟨b, o, e, hlt, hc⟩
  · exact .inl h0
  · refine .inr ⟨b, o, e, Nat.lt_of_lt_of_le hlt hb.size, fun k hk => ?_⟩
    obtain ⟨v, hv, hcell⟩ := hc k hk
    exact ⟨v, hv, by rw [hb.cell (p := ⟨b, o + k, .none⟩) hlt]; exact hcell⟩

/-- The pair of the empty tuple and the empty Bytes, just made. -/
theorem empty_val {B : Nat} {v : Value} {es : List (Value × Bool)} {wr : World} (h : Made B 2 v es wr) (hs : B ≤ wr.heap.size) (O : Obj) :
    Val (Else B v) 2 (((wr.alloc (.cells #[] 39)).alloc (.cells #[.iface 24 (.slice (some ⟨wr.heap.size, 0, .none⟩) 0 0), .iface 31 (.string ⟨#[]⟩)] 39)).alloc O) (.iface 24 (.slice (some ⟨wr.heap.size + 1, 0, .none⟩) 2 2)) false := by
  refine .inr ⟨some ⟨wr.heap.size + 1, 0, .none⟩, 2, [(.iface 24 (.slice (some ⟨wr.heap.size, 0, .none⟩) 0 0), false), (.iface 31 (.string ⟨#[]⟩), false)], rfl, rfl, by simp, .inr ⟨wr.heap.size + 1, rfl, by simp <;> omega, ⟨by omega, fun e => ?_⟩, ?_⟩, ?_⟩
  · exact absurd (h.row.lt (wr.heap.size + 1) e.symm).2 (by omega)
  · intro i e hi
    have hn : (((wr.alloc (.cells #[] 39)).alloc (.cells #[.iface 24 (.slice (some ⟨wr.heap.size, 0, .none⟩) 0 0), .iface 31 (.string ⟨#[]⟩)] 39)).alloc O).heap[wr.heap.size + 1]? = some (.cells #[.iface 24 (.slice (some ⟨wr.heap.size, 0, .none⟩) 0 0), .iface 31 (.string ⟨#[]⟩)] 39) := by
      rw [Below.heap_alloc _ _ _ (by simp)]
      have e1 : (wr.alloc (.cells #[] 39)).heap.size = wr.heap.size + 1 := by simp
      rw [← e1]
      exact heap_alloc_new _ _
    rcases i with _ | _ | i
    · simp at hi; subst hi; unfold World.cell?; rw [hn]; rfl
    · simp at hi; subst hi; unfold World.cell?; rw [hn]; rfl
    · simp at hi
  · intro e he
    simp at he
    rcases he with rfl | rfl
    · exact .inr ⟨some ⟨wr.heap.size, 0, .none⟩, 0, [], rfl, rfl, by simp, .inl rfl, by simp⟩
    · exact .inl (.inr (.inl ⟨_, rfl, rfl⟩))

/-- What inner has made, as an element. -/
theorem inner_val {B : Nat} {v v2 : Value} {es es2 : List (Value × Bool)} {wr w2 : World} (h : Made B 2 v es wr) (hs : B ≤ wr.heap.size) (h2 : Made wr.heap.size 1 v2 es2 w2) (hl : es2.length ≤ 1024) (O : Obj) :
    ∃ g c, v2 = .slice (some ⟨g, 0, .none⟩) es2.length c ∧ Val (Else B v) 2 (w2.alloc O) (.iface 24 (.slice (some ⟨g, 0, .none⟩) es2.length c)) (es2.any (·.2)) := by
  obtain ⟨g, c, e, hg, hT⟩ := h2.tup hl
  refine ⟨g, c, e, ?_⟩
  have h1 : Val (fun g => wr.heap.size ≤ g) 2 w2 (.iface 24 (.slice (some ⟨g, 0, .none⟩) es2.length c)) (es2.any (·.2)) := .inr ⟨_, _, es2, rfl, rfl, hT⟩
  have h3 : Val (Else B v) 2 w2 (.iface 24 (.slice (some ⟨g, 0, .none⟩) es2.length c)) (es2.any (·.2)) := Val.avoid (fun q _ hq => ⟨by omega, fun e => absurd (h.row.lt q e.symm).2 (by omega)⟩) h1
  exact Val.keep (by simp) (fun q hq _ => Below.heap_alloc _ _ _ hq) h3

set_option maxHeartbeats 4000000 in
set_option maxRecDepth 100000 in
theorem build_any (a : Option Addr) (n c : Nat) (a1 : Option Addr) (n1 c1 : Nat) (w : World) (hK : Kinds w a n) (hK1 : Kinds w a1 n1) :
    Calls Ybaf.prog 5 #[.slice a n c, .slice a1 n1 c1] w fun e w' => ∃ v es, e = .returned (.tuple #[v, .bool (es.any (·.2))]) ∧ es.length = n ∧ Below w.heap.size w w' ∧ Made w.heap.size 2 v es w' := by
  obtain ⟨i0, hi0, hz0, hz1, hz2⟩ := info_parts info39
  have HK := hide hK
  have HK1 := hide hK1
  have hn : n ≤ 1024 := hK.1
  have hmk := makeTuple n hn
  clear hK hK1
  go_enter Ybaf.func5, Ybaf.ntmps5
  go_wp2
  go_loopw [6, 7, 17] (fun v bd p wr => ∃ (k : Nat) (es : List (Value × Bool)), k ≤ n ∧ p = .int .i64 k ∧ es.length = k ∧ bd = .bool (es.any (·.2)) ∧ Below w.heap.size w wr ∧ Made w.heap.size 2 v es wr) (fun _ _ p _ => n - (intOf p).toNat)
  case atStart =>
    exact ⟨0, [], Nat.zero_le _, rfl, rfl, rfl, (Below.refl _ _).alloc (Nat.le_refl _) _, World.ownsRow_made w _ n (Nat.le_refl _) (by unfold maxLen; omega) (by simp [size_madeCells]), by simp, by simp⟩
  case round =>
    obtain ⟨k, es, hk, rfl, hel, rfl, hb, hM⟩ := hrel
    have HB := hide hb
    have HM := hide hM
    have HEL := hide hel
    clear hM hel
    by_cases hlt : k < n
    · rcases HK.out.2 with h0 | ⟨b0, o0, ha, hb0, hc⟩
      · omega
      subst ha
      obtain ⟨kv, hkv, hcell⟩ := hc k hlt
      have hcell' := hb.cell (p := ⟨b0, o0 + k, .none⟩) hb0
      clear hb hc
      have q0 : (0 : Int) ≤ (k : Int) := by omega
      have q1 : (k : Int) < (n : Int) := by omega
      have q2 : (0 : Int) ≤ (kv : Int) := by omega
      have q3 : (kv : Int) ≤ 255 := by omega
      have hs : w.heap.size ≤ wr.heap.size := HB.out.size
      rcases (show kv % 6 = 0 ∨ kv % 6 = 1 ∨ kv % 6 = 2 ∨ kv % 6 = 3 ∨ kv % 6 = 4 ∨ kv % 6 = 5 by omega) with hm | hm | hm | hm | hm | hm
      · have m0 : (((kv : Int) % 6) == 0) = true := by simp; omega
        go_wp2_with (at_builtin; refine wpList_append_own_at _ rfl _ _ 24 rfl w.heap.size 39 i0 _ 1 16 Ybaf.underlying24 hi0 hz0 hz1 hz2 rfl (by decide) _ _ _ rfl (by exact (HM.out.row.alloc _)) ⟨wr.heap.size, 0, .none⟩ 1 1 [.nilIface] rfl rfl ?qc2 ?qc3 ?qc4 ?qc5 ?qc6 ?_)
        case qc2 => exact cell_one_new _ _ _
        case qc3 => simp [Value.oneCell']
        case qc4 => rw [HEL.out]; unfold maxLen; omega
        case qc5 => rw [HEL.out]; omega
        case qc6 => simp; omega
        intro v' w1 hown hgrow hnil hat
        have hbw : Below wr.heap.size wr (wr.alloc (.cells #[.nilIface] 39)) := ((Below.refl _ wr).alloc (Nat.le_refl _) _)
        have hM' := Made.push (x := .nilIface) (b := false) HM.out hbw.size (fun g hg => hbw.block g hg) (one_leaf (.inl ⟨rfl, rfl⟩)) (by simpa using hown) hgrow hnil (by simpa using hat)
        have HM' := hide hM'
        have HB' := hide ((((HB.out.alloc hs _)).grown hgrow (by simp <;> omega) (fun q hq => (HM.out.row.lt q hq).1)))
        clear hown hgrow hnil hat hM' hbw
        go_wp2
        go_roundw
        case rel => exact ⟨k + 1, es ++ [(.nilIface, false)], by omega, by go_num, by simp [HEL.out], by simp [List.any_append], HB'.out, HM'.out⟩
        case measure => simp [intOf]; omega
      · have m0 : (((kv : Int) % 6) == 0) = false := by simp; omega
        have m1 : (((kv : Int) % 6) == 1) = true := by simp; omega
        go_wp2_with (at_builtin; refine wpList_append_own_at _ rfl _ _ 24 rfl w.heap.size 39 i0 _ 1 16 Ybaf.underlying24 hi0 hz0 hz1 hz2 rfl (by decide) _ _ _ rfl (by exact (HM.out.row.alloc _)) ⟨wr.heap.size, 0, .none⟩ 1 1 [.iface 31 (.string ⟨#[120]⟩)] rfl rfl ?qc2 ?qc3 ?qc4 ?qc5 ?qc6 ?_)
        case qc2 => exact cell_one_new _ _ _
        case qc3 => simp [Value.oneCell']
        case qc4 => rw [HEL.out]; unfold maxLen; omega
        case qc5 => rw [HEL.out]; omega
        case qc6 => simp; omega
        intro v' w1 hown hgrow hnil hat
        have hbw : Below wr.heap.size wr (wr.alloc (.cells #[.iface 31 (.string ⟨#[120]⟩)] 39)) := ((Below.refl _ wr).alloc (Nat.le_refl _) _)
        have hM' := Made.push (x := .iface 31 (.string ⟨#[120]⟩)) (b := false) HM.out hbw.size (fun g hg => hbw.block g hg) (one_leaf (.inr (.inl ⟨_, rfl, rfl⟩))) (by simpa using hown) hgrow hnil (by simpa using hat)
        have HM' := hide hM'
        have HB' := hide ((((HB.out.alloc hs _)).grown hgrow (by simp <;> omega) (fun q hq => (HM.out.row.lt q hq).1)))
        clear hown hgrow hnil hat hM' hbw
        go_wp2
        go_roundw
        case rel => exact ⟨k + 1, es ++ [(.iface 31 (.string ⟨#[120]⟩), false)], by omega, by go_num, by simp [HEL.out], by simp [List.any_append], HB'.out, HM'.out⟩
        case measure => simp [intOf]; omega
      · have m0 : (((kv : Int) % 6) == 0) = false := by simp; omega
        have m1 : (((kv : Int) % 6) == 1) = false := by simp; omega
        have m2 : (((kv : Int) % 6) == 2) = true := by simp; omega
        go_wp2_with (at_builtin; refine wpList_append_own_at _ rfl _ _ 24 rfl w.heap.size 39 i0 _ 1 16 Ybaf.underlying24 hi0 hz0 hz1 hz2 rfl (by decide) _ _ _ rfl (by exact (HM.out.row.alloc _)) ⟨wr.heap.size, 0, .none⟩ 1 1 [.iface 34 (.agg #[.int .i64 (k : Int)])] rfl rfl ?qc2 ?qc3 ?qc4 ?qc5 ?qc6 ?_)
        case qc2 => exact cell_one_new _ _ _
        case qc3 => simp [Value.oneCell']
        case qc4 => rw [HEL.out]; unfold maxLen; omega
        case qc5 => rw [HEL.out]; omega
        case qc6 => simp; omega
        intro v' w1 hown hgrow hnil hat
        have hbw : Below wr.heap.size wr (wr.alloc (.cells #[.iface 34 (.agg #[.int .i64 (k : Int)])] 39)) := ((Below.refl _ wr).alloc (Nat.le_refl _) _)
        have hM' := Made.push (x := .iface 34 (.agg #[.int .i64 (k : Int)])) (b := true) HM.out hbw.size (fun g hg => hbw.block g hg) (one_leaf (.inr (.inr (.inl ⟨_, rfl, rfl⟩)))) (by simpa using hown) hgrow hnil (by simpa using hat)
        have HM' := hide hM'
        have HB' := hide ((((HB.out.alloc hs _)).grown hgrow (by simp <;> omega) (fun q hq => (HM.out.row.lt q hq).1)))
        clear hown hgrow hnil hat hM' hbw
        go_wp2
        go_roundw
        case rel => exact ⟨k + 1, es ++ [(.iface 34 (.agg #[.int .i64 (k : Int)]), true)], by omega, by go_num, by simp [HEL.out], by simp [List.any_append], HB'.out, HM'.out⟩
        case measure => simp [intOf]; omega
      · have m0 : (((kv : Int) % 6) == 0) = false := by simp; omega
        have m1 : (((kv : Int) % 6) == 1) = false := by simp; omega
        have m2 : (((kv : Int) % 6) == 2) = false := by simp; omega
        have m3 : (((kv : Int) % 6) == 3) = true := by simp; omega
        go_wp2_with (at_builtin; refine wpList_append_own_at _ rfl _ _ 24 rfl w.heap.size 39 i0 _ 1 16 Ybaf.underlying24 hi0 hz0 hz1 hz2 rfl (by decide) _ _ _ rfl (by exact (HM.out.row.alloc _)) ⟨wr.heap.size, 0, .none⟩ 1 1 [.iface 36 (.agg #[.string ⟨#[113]⟩])] rfl rfl ?qc2 ?qc3 ?qc4 ?qc5 ?qc6 ?_)
        case qc2 => exact cell_one_new _ _ _
        case qc3 => simp [Value.oneCell']
        case qc4 => rw [HEL.out]; unfold maxLen; omega
        case qc5 => rw [HEL.out]; omega
        case qc6 => simp; omega
        intro v' w1 hown hgrow hnil hat
        have hbw : Below wr.heap.size wr (wr.alloc (.cells #[.iface 36 (.agg #[.string ⟨#[113]⟩])] 39)) := ((Below.refl _ wr).alloc (Nat.le_refl _) _)
        have hM' := Made.push (x := .iface 36 (.agg #[.string ⟨#[113]⟩])) (b := true) HM.out hbw.size (fun g hg => hbw.block g hg) (one_leaf (.inr (.inr (.inr ⟨_, rfl, rfl⟩)))) (by simpa using hown) hgrow hnil (by simpa using hat)
        have HM' := hide hM'
        have HB' := hide ((((HB.out.alloc hs _)).grown hgrow (by simp <;> omega) (fun q hq => (HM.out.row.lt q hq).1)))
        clear hown hgrow hnil hat hM' hbw
        go_wp2
        go_roundw
        case rel => exact ⟨k + 1, es ++ [(.iface 36 (.agg #[.string ⟨#[113]⟩]), true)], by omega, by go_num, by simp [HEL.out], by simp [List.any_append], HB'.out, HM'.out⟩
        case measure => simp [intOf]; omega
      · have m0 : (((kv : Int) % 6) == 0) = false := by simp; omega
        have m1 : (((kv : Int) % 6) == 1) = false := by simp; omega
        have m2 : (((kv : Int) % 6) == 2) = false := by simp; omega
        have m3 : (((kv : Int) % 6) == 3) = false := by simp; omega
        have m4 : (((kv : Int) % 6) == 4) = true := by simp; omega
        go_wp2_with fail
        refine (inner_any a1 n1 c1 wr (HK1.out.below HB.out)).mono ?_
        rintro e w2 ⟨v2, es2, rfl, hl2, hb2, hM2⟩
        obtain ⟨g, cg, hv2, hval⟩ := inner_val HM.out hs hM2 (by rw [hl2]; exact HK1.out.1) (.cells #[.iface 24 v2] 39)
        subst hv2
        have HV := hide hval
        have HB2 := hide hb2
        have hs2 : wr.heap.size ≤ w2.heap.size := hb2.size
        clear hval hb2 hM2 hl2
        rcases hsb : es2.any (·.2) with _ | _
        · rw [hsb] at HV
          have HSB := hide hsb
          clear hsb
          go_wp2_with (at_builtin; refine wpList_append_own_at _ rfl _ _ 24 rfl w.heap.size 39 i0 _ 1 16 Ybaf.underlying24 hi0 hz0 hz1 hz2 rfl (by decide) _ _ _ rfl (by exact ((HM.out.later HB2.out).row.alloc _)) ⟨w2.heap.size, 0, .none⟩ 1 1 [.iface 24 (.slice (some ⟨g, 0, .none⟩) es2.length cg)] rfl rfl ?qc2 ?qc3 ?qc4 ?qc5 ?qc6 ?_)
          case qc2 => exact cell_one_new _ _ _
          case qc3 => simp [Value.oneCell']
          case qc4 => rw [HEL.out]; unfold maxLen; omega
          case qc5 => rw [HEL.out]; omega
          case qc6 => simp <;> omega
          intro v' w1 hown hgrow hnil hat
          have hbw : Below wr.heap.size wr (w2.alloc (.cells #[.iface 24 (.slice (some ⟨g, 0, .none⟩) es2.length cg)] 39)) := HB2.out.alloc hs2 _
          have hM' := Made.push (x := .iface 24 (.slice (some ⟨g, 0, .none⟩) es2.length cg)) (b := false) HM.out hbw.size (fun g hg => hbw.block g hg) HV.out (by simpa using hown) hgrow hnil (by simpa using hat)
          have HM' := hide hM'
          have HB' := hide (((HB.out.trans (hbw.mono hs))).grown hgrow (by simp <;> omega) (fun q hq => (HM.out.row.lt q hq).1))
          clear hown hgrow hnil hat hM' hbw
          go_wp2
          go_roundw
          case rel => exact ⟨k + 1, es ++ [(.iface 24 (.slice (some ⟨g, 0, .none⟩) es2.length cg), false)], by omega, by go_num, by simp [HEL.out], by simp [List.any_append], HB'.out, HM'.out⟩
          case measure => simp [intOf]; omega
        · rw [hsb] at HV
          have HSB := hide hsb
          clear hsb
          go_wp2_with (at_builtin; refine wpList_append_own_at _ rfl _ _ 24 rfl w.heap.size 39 i0 _ 1 16 Ybaf.underlying24 hi0 hz0 hz1 hz2 rfl (by decide) _ _ _ rfl (by exact ((HM.out.later HB2.out).row.alloc _)) ⟨w2.heap.size, 0, .none⟩ 1 1 [.iface 24 (.slice (some ⟨g, 0, .none⟩) es2.length cg)] rfl rfl ?qc2 ?qc3 ?qc4 ?qc5 ?qc6 ?_)
          case qc2 => exact cell_one_new _ _ _
          case qc3 => simp [Value.oneCell']
          case qc4 => rw [HEL.out]; unfold maxLen; omega
          case qc5 => rw [HEL.out]; omega
          case qc6 => simp <;> omega
          intro v' w1 hown hgrow hnil hat
          have hbw : Below wr.heap.size wr (w2.alloc (.cells #[.iface 24 (.slice (some ⟨g, 0, .none⟩) es2.length cg)] 39)) := HB2.out.alloc hs2 _
          have hM' := Made.push (x := .iface 24 (.slice (some ⟨g, 0, .none⟩) es2.length cg)) (b := true) HM.out hbw.size (fun g hg => hbw.block g hg) HV.out (by simpa using hown) hgrow hnil (by simpa using hat)
          have HM' := hide hM'
          have HB' := hide (((HB.out.trans (hbw.mono hs))).grown hgrow (by simp <;> omega) (fun q hq => (HM.out.row.lt q hq).1))
          clear hown hgrow hnil hat hM' hbw
          go_wp2
          go_roundw
          case rel => exact ⟨k + 1, es ++ [(.iface 24 (.slice (some ⟨g, 0, .none⟩) es2.length cg), true)], by omega, by go_num, by simp [HEL.out], by simp [List.any_append], HB'.out, HM'.out⟩
          case measure => simp [intOf]; omega
      · have m0 : (((kv : Int) % 6) == 0) = false := by simp; omega
        have m1 : (((kv : Int) % 6) == 1) = false := by simp; omega
        have m2 : (((kv : Int) % 6) == 2) = false := by simp; omega
        have m3 : (((kv : Int) % 6) == 3) = false := by simp; omega
        have m4 : (((kv : Int) % 6) == 4) = false := by simp; omega
        go_wp2_with (at_builtin; refine wpList_append_own_at _ rfl _ _ 24 rfl w.heap.size 39 i0 _ 1 16 Ybaf.underlying24 hi0 hz0 hz1 hz2 rfl (by decide) _ _ _ rfl (by exact (((HM.out.row.alloc _).alloc _).alloc _)) ⟨wr.heap.size + 1 + 1, 0, .none⟩ 1 1 [.iface 24 (.slice (some ⟨wr.heap.size + 1, 0, .none⟩) 2 2)] rfl rfl ?qc2 ?qc3 ?qc4 ?qc5 ?qc6 ?_)
        case qc2 => first | exact cell_one_new _ _ _ | (have := cell_one_new ((wr.alloc (.cells #[] 39)).alloc (.cells #[.iface 24 (.slice (some ⟨wr.heap.size, 0, .none⟩) 0 0), .iface 31 (.string ⟨#[]⟩)] 39)) (.iface 24 (.slice (some ⟨wr.heap.size + 1, 0, .none⟩) 2 2)) 39; simpa using this)
        case qc3 => simp [Value.oneCell']
        case qc4 => rw [HEL.out]; unfold maxLen; omega
        case qc5 => rw [HEL.out]; omega
        case qc6 => simp; omega
        intro v' w1 hown hgrow hnil hat
        have hbw : Below wr.heap.size wr (((wr.alloc (.cells #[] 39)).alloc (.cells #[.iface 24 (.slice (some ⟨wr.heap.size, 0, .none⟩) 0 0), .iface 31 (.string ⟨#[]⟩)] 39)).alloc (.cells #[.iface 24 (.slice (some ⟨wr.heap.size + 1, 0, .none⟩) 2 2)] 39)) := ((((Below.refl _ wr).alloc (Nat.le_refl _) _).alloc (by simp <;> omega) _).alloc (by simp <;> omega) _)
        have hM' := Made.push (x := .iface 24 (.slice (some ⟨wr.heap.size + 1, 0, .none⟩) 2 2)) (b := false) HM.out hbw.size (fun g hg => hbw.block g hg) (empty_val HM.out hs _) (by simpa using hown) hgrow hnil (by simpa using hat)
        have HM' := hide hM'
        have HB' := hide ((((((HB.out.alloc hs _).alloc (by simp <;> omega) _).alloc (by simp <;> omega) _)).grown hgrow (by simp <;> omega) (fun q hq => (HM.out.row.lt q hq).1)))
        clear hown hgrow hnil hat hM' hbw
        go_wp2
        go_roundw
        case rel => exact ⟨k + 1, es ++ [(.iface 24 (.slice (some ⟨wr.heap.size + 1, 0, .none⟩) 2 2), false)], by omega, by go_num, by simp [HEL.out], by simp [List.any_append], HB'.out, HM'.out⟩
        case measure => simp [intOf]; omega
    · clear hb
      have q1 : ¬ (k : Int) < (n : Int) := by omega
      go_wp2
      go_ret2
      exact ⟨_, es, rfl, by rw [HEL.out]; omega, HB.out, HM.out⟩
end Go.Proofs.YbulkatwqFmt.tree
