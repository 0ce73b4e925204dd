/-
  Of LawS2265CRefusesExactlyNonValues: the two functions that make the tuples.
-/
import Derived.Test.YbulkatwqFmtTree
namespace Go.Proofs.YbulkatwqFmt.tree
open Go.ChangeShapes Go.WideShapes Go.ChangeAt Go.RowKit Go

theorem info39 : (Ybaf.prog.info? 39).map (fun i => (i.zero, i.size, i.bytes)) = some (some .nilIface, 1, 16) := by kernel_rfl

/-- The blocks from B on, but for the row of v. -/
def Else (B : Nat) (v : Value) (g : Nat) : Prop := B ≤ g ∧ some g ≠ v.ownBlock

/-- A tuple in the making: a row of the call's own, not nil, each element a value whose rows lie elsewhere in the call's own memory. -/
structure Made (B d : Nat) (v : Value) (es : List (Value × Bool)) (w : World) : Prop where
  row : w.ownsRow B 39 1 v es.length (es.map (·.1))
  live : v ≠ .slice none 0 0
  vals : ∀ e, e ∈ es → Val (Else B v) d w e.1 e.2

theorem Made.push {B d : Nat} {v v' : Value} {es : List (Value × Bool)} {wr W w1 : World} {x : Value} {b : Bool} (h : Made B d v es wr) (hs : wr.heap.size ≤ W.heap.size) (hk : ∀ g, g < wr.heap.size → W.heap[g]? = wr.heap[g]?) 
    (hx : Val (Else B v) d W x b) (hown : w1.ownsRow B 39 1 v' (es.length + 1) (es.map (·.1) ++ [x])) (hg : W.grownBy w1 v.ownBlock) (hnil : v' ≠ .slice none 0 0) (hat : v'.ownBlock = v.ownBlock ∨ v'.ownBlock = some W.heap.size) : Made B d v' (es ++ [(x, b)]) w1 := by
  have hav : ∀ g, g < W.heap.size → Else B v g → Else B v' g := by
    intro g hgl ⟨h1, h2⟩
    refine ⟨h1, ?_⟩
    rcases hat with hat | hat
    · rw [hat]; exact h2
    · rw [hat]; intro e; cases e; omega
  have hkeep : ∀ {y : Value} {c : Bool}, Val (Else B v) d W y c → Val (Else B v') d w1 y c := fun {y c} hy => by
    have h1 : Val (fun g => Else B v g ∧ Else B v' g) d W y c := Val.avoid (fun g hgl hS => ⟨hS, hav g hgl hS⟩) hy
    have h2 : Val (fun g => Else B v g ∧ Else B v' g) d w1 y c := Val.keep hg.size (fun g hgl hS => hg.block g hgl hS.1.2) h1
    exact Val.avoid (fun g _ hS => hS.2) h2
  refine ⟨by simpa using hown, hnil, fun e he => ?_⟩
  rcases List.mem_append.1 he with he | he
  · exact hkeep (Val.keep hs (fun g hgl _ => hk g hgl) (h.vals e he))
  · simp at he
    subst he
    exact hkeep hx

/-- What is laid between the round's start and the append leaves the tuple in the making as it was. -/
theorem Made.later {B d : Nat} {v : Value} {es : List (Value × Bool)} {wr W : World} (h : Made B d v es wr) (hb : Below wr.heap.size wr W) : Made B d v es W :=
  ⟨h.row.kept (row := none) ⟨hb.os, hb.tape, hb.output, hb.size, fun k hk _ => hb.block k hk⟩ (by cases hv : v.ownBlock <;> simp), h.live, fun e he => Val.keep hb.size (fun g hg _ => hb.block g hg) (h.vals e he)⟩

/-- The parts of a made tuple, as a caller wants them. -/
theorem Made.tup {B d : Nat} {v : Value} {es : List (Value × Bool)} {w : World} (h : Made B d v es w) (hl : es.length ≤ 1024) : ∃ g c, v = .slice (some ⟨g, 0, .none⟩) es.length c ∧ B ≤ g ∧ Tup (fun g => B ≤ g) d w (some ⟨g, 0, .none⟩) es := by
  have hlt := h.row.lt
  rcases h.row.2 with ⟨e, _⟩ | ⟨g, cap, cur, rfl, hB, hg, _, _, hsz, ht⟩
  · exact absurd e h.live
  · refine ⟨g, cap, rfl, hB, hl, .inr ⟨g, rfl, (hlt g rfl).2, hB, fun i e hi => ?_⟩, fun e he => Val.avoid (fun g _ hS => hS.1) (h.vals e he)⟩
    have h1 : (es.map (·.1))[i]? = some e.1 := by rw [List.getElem?_map, hi]; rfl
    have hil : i < es.length := (List.getElem?_eq_some_iff.1 hi).1
    rw [← ht, List.getElem?_take, if_pos (by omega)] at h1
    simp [World.cell?, hg]
    simpa using h1

/-- A slice of bytes that came in. -/
def Kinds (w : World) (a : Option Addr) (n : Nat) : Prop := n ≤ 1024 ∧ (n = 0 ∨ ∃ b o, a = some ⟨b, o, .none⟩ ∧ b < w.heap.size ∧ ∀ k, k < n → ∃ v : Nat, v < 256 ∧ w.cell? ⟨b, o + k, .none⟩ = some (.int .u8 v))

theorem one_leaf {B d : Nat} {v : Value} {w : World} {x : Value} {b : Bool} (h : leaf x b) : Val (Else B v) d w x b := Val.of_leaf h

/-- The pair of nil and what is no value, just made. -/
theorem pair_val {B : Nat} {v : Value} {es : List (Value × Bool)} {wr : World} (h : Made B 1 v es wr) (hs : B ≤ wr.heap.size) (k : Int) (O : Obj) :
    Val (Else B v) 1 ((wr.alloc (.cells #[.nilIface, .iface 34 (.agg #[.int .i64 k])] 39)).alloc O) (.iface 24 (.slice (some ⟨wr.heap.size, 0, .none⟩) 2 2)) true := by
  refine .inr ⟨some ⟨wr.heap.size, 0, .none⟩, 2, [(.nilIface, false), (.iface 34 (.agg #[.int .i64 k]), true)], rfl, rfl, by simp, .inr ⟨wr.heap.size, rfl, by simp; omega, ⟨hs, fun e => ?_⟩, ?_⟩, ?_⟩
  · exact absurd (h.row.lt wr.heap.size e.symm).2 (by omega)
  · intro i e hi
    have hn : ((wr.alloc (.cells #[.nilIface, .iface 34 (.agg #[.int .i64 k])] 39)).alloc O).heap[wr.heap.size]? = some (.cells #[.nilIface, .iface 34 (.agg #[.int .i64 k])] 39) := by
      rw [Below.heap_alloc _ _ _ (by simp)]
      exact heap_alloc_new _ _
    rcases i with _ | _ | i
    · simp at hi; subst hi; simp [World.cell?, hn]
    · simp at hi; subst hi; simp [World.cell?, hn]
    · simp at hi
  · intro e he
    simp at he
    rcases he with rfl | rfl
    · exact .inl ⟨rfl, rfl⟩
    · exact .inr (.inr (.inl ⟨k, rfl, rfl⟩))

set_option maxHeartbeats 2000000 in
set_option maxRecDepth 100000 in
theorem inner_any (a : Option Addr) (n c : Nat) (w : World) (hK : Kinds w a n) :
    Calls Ybaf.prog 7 #[.slice a n c] w fun e w' => ∃ v es, e = .returned (.tuple #[v, .bool (es.any (·.2))]) ∧ es.length = n ∧ Below w.heap.size w w' ∧ Made w.heap.size 1 v es w' := by
  obtain ⟨i0, hi0, hz0, hz1, hz2⟩ := info_parts info39
  have HK := hide hK
  have hn : n ≤ 1024 := hK.1
  clear hK
  go_enter Ybaf.func7, Ybaf.ntmps7
  go_wp2
  go_loopw [4, 5, 11] (fun v bd p wr => ∃ (k : Nat) (es : List (Value × Bool)), k ≤ n ∧ p = .int .i64 k ∧ es.length = k ∧ bd = .bool (es.any (·.2)) ∧ Below w.heap.size w wr ∧ Made w.heap.size 1 v es wr) (fun _ _ p _ => n - (intOf p).toNat)
  case atStart =>
    exact ⟨0, [], Nat.zero_le _, rfl, rfl, rfl, (Below.refl _ _).alloc (Nat.le_refl _) _, World.ownsRow_made w #[] 0 (Nat.le_refl _) (Nat.zero_le _) (by simp), by simp, by simp⟩
  case round =>
    obtain ⟨k, es, hk, rfl, hel, rfl, hb, hM⟩ := hrel
    have HB := hide hb
    have HM := hide hM
    have HEL := hide hel
    clear hM hel
    by_cases hlt : k < n
    · rcases HK.out.2 with h0 | ⟨b0, o0, ha, hb0, hc⟩
      · omega
      subst ha
      obtain ⟨kv, hkv, hcell⟩ := hc k hlt
      have hcell' := hb.cell (p := ⟨b0, o0 + k, .none⟩) hb0
      clear hb hc
      have q0 : (0 : Int) ≤ (k : Int) := by omega
      have q1 : (k : Int) < (n : Int) := by omega
      have q2 : (0 : Int) ≤ (kv : Int) := by omega
      have q3 : (kv : Int) ≤ 255 := by omega
      have hs : w.heap.size ≤ wr.heap.size := HB.out.size
      rcases (show kv % 4 = 0 ∨ kv % 4 = 1 ∨ kv % 4 = 2 ∨ kv % 4 = 3 by omega) with hm | hm | hm | hm
      · have m0 : (((kv : Int) % 4) == 0) = true := by simp; omega
        go_wp2_with (at_builtin; refine wpList_append_own_at _ rfl _ _ 24 rfl w.heap.size 39 i0 _ 1 16 Ybaf.underlying24 hi0 hz0 hz1 hz2 rfl (by decide) _ _ _ rfl (by exact (HM.out.row.alloc _)) ⟨wr.heap.size, 0, .none⟩ 1 1 [.nilIface] rfl rfl ?qc2 ?qc3 ?qc4 ?qc5 ?qc6 ?_)
        case qc2 => exact cell_one_new _ _ _
        case qc3 => simp [Value.oneCell']
        case qc4 => rw [HEL.out]; unfold maxLen; omega
        case qc5 => rw [HEL.out]; omega
        case qc6 => simp; omega
        intro v' w1 hown hgrow hnil hat
        have hbw : Below wr.heap.size wr (wr.alloc (.cells #[.nilIface] 39)) := ((Below.refl _ wr).alloc (Nat.le_refl _) _)
        have hM' := Made.push (x := .nilIface) (b := false) HM.out hbw.size (fun g hg => hbw.block g hg) (one_leaf (.inl ⟨rfl, rfl⟩)) (by simpa using hown) hgrow hnil (by simpa using hat)
        have HM' := hide hM'
        have HB' := hide ((((HB.out.alloc hs _)).grown hgrow (by simp <;> omega) (fun q hq => (HM.out.row.lt q hq).1)))
        clear hown hgrow hnil hat hM' hbw
        go_wp2
        go_roundw
        case rel => exact ⟨k + 1, es ++ [(.nilIface, false)], by omega, by go_num, by simp [HEL.out], by simp [List.any_append], HB'.out, HM'.out⟩
        case measure => simp [intOf]; omega
      · have m0 : (((kv : Int) % 4) == 0) = false := by simp; omega
        have m1 : (((kv : Int) % 4) == 1) = true := by simp; omega
        go_wp2_with (at_builtin; refine wpList_append_own_at _ rfl _ _ 24 rfl w.heap.size 39 i0 _ 1 16 Ybaf.underlying24 hi0 hz0 hz1 hz2 rfl (by decide) _ _ _ rfl (by exact (HM.out.row.alloc _)) ⟨wr.heap.size, 0, .none⟩ 1 1 [.iface 31 (.string ⟨#[97, 98]⟩)] rfl rfl ?qc2 ?qc3 ?qc4 ?qc5 ?qc6 ?_)
        case qc2 => exact cell_one_new _ _ _
        case qc3 => simp [Value.oneCell']
        case qc4 => rw [HEL.out]; unfold maxLen; omega
        case qc5 => rw [HEL.out]; omega
        case qc6 => simp; omega
        intro v' w1 hown hgrow hnil hat
        have hbw : Below wr.heap.size wr (wr.alloc (.cells #[.iface 31 (.string ⟨#[97, 98]⟩)] 39)) := ((Below.refl _ wr).alloc (Nat.le_refl _) _)
        have hM' := Made.push (x := .iface 31 (.string ⟨#[97, 98]⟩)) (b := false) HM.out hbw.size (fun g hg => hbw.block g hg) (one_leaf (.inr (.inl ⟨_, rfl, rfl⟩))) (by simpa using hown) hgrow hnil (by simpa using hat)
        have HM' := hide hM'
        have HB' := hide ((((HB.out.alloc hs _)).grown hgrow (by simp <;> omega) (fun q hq => (HM.out.row.lt q hq).1)))
        clear hown hgrow hnil hat hM' hbw
        go_wp2
        go_roundw
        case rel => exact ⟨k + 1, es ++ [(.iface 31 (.string ⟨#[97, 98]⟩), false)], by omega, by go_num, by simp [HEL.out], by simp [List.any_append], HB'.out, HM'.out⟩
        case measure => simp [intOf]; omega
      · have m0 : (((kv : Int) % 4) == 0) = false := by simp; omega
        have m1 : (((kv : Int) % 4) == 1) = false := by simp; omega
        have m2 : (((kv : Int) % 4) == 2) = true := by simp; omega
        go_wp2_with (at_builtin; refine wpList_append_own_at _ rfl _ _ 24 rfl w.heap.size 39 i0 _ 1 16 Ybaf.underlying24 hi0 hz0 hz1 hz2 rfl (by decide) _ _ _ rfl (by exact (HM.out.row.alloc _)) ⟨wr.heap.size, 0, .none⟩ 1 1 [.iface 34 (.agg #[.int .i64 (k : Int)])] rfl rfl ?qc2 ?qc3 ?qc4 ?qc5 ?qc6 ?_)
        case qc2 => exact cell_one_new _ _ _
        case qc3 => simp [Value.oneCell']
        case qc4 => rw [HEL.out]; unfold maxLen; omega
        case qc5 => rw [HEL.out]; omega
        case qc6 => simp; omega
        intro v' w1 hown hgrow hnil hat
        have hbw : Below wr.heap.size wr (wr.alloc (.cells #[.iface 34 (.agg #[.int .i64 (k : Int)])] 39)) := ((Below.refl _ wr).alloc (Nat.le_refl _) _)
        have hM' := Made.push (x := .iface 34 (.agg #[.int .i64 (k : Int)])) (b := true) HM.out hbw.size (fun g hg => hbw.block g hg) (one_leaf (.inr (.inr (.inl ⟨_, rfl, rfl⟩)))) (by simpa using hown) hgrow hnil (by simpa using hat)
        have HM' := hide hM'
        have HB' := hide ((((HB.out.alloc hs _)).grown hgrow (by simp <;> omega) (fun q hq => (HM.out.row.lt q hq).1)))
        clear hown hgrow hnil hat hM' hbw
        go_wp2
        go_roundw
        case rel => exact ⟨k + 1, es ++ [(.iface 34 (.agg #[.int .i64 (k : Int)]), true)], by omega, by go_num, by simp [HEL.out], by simp [List.any_append], HB'.out, HM'.out⟩
        case measure => simp [intOf]; omega
      · have m0 : (((kv : Int) % 4) == 0) = false := by simp; omega
        have m1 : (((kv : Int) % 4) == 1) = false := by simp; omega
        have m2 : (((kv : Int) % 4) == 2) = false := by simp; omega
        go_wp2_with (at_builtin; refine wpList_append_own_at _ rfl _ _ 24 rfl w.heap.size 39 i0 _ 1 16 Ybaf.underlying24 hi0 hz0 hz1 hz2 rfl (by decide) _ _ _ rfl (by exact ((HM.out.row.alloc _).alloc _)) ⟨wr.heap.size + 1, 0, .none⟩ 1 1 [.iface 24 (.slice (some ⟨wr.heap.size, 0, .none⟩) 2 2)] rfl rfl ?qc2 ?qc3 ?qc4 ?qc5 ?qc6 ?_)
        case qc2 => first | exact cell_one_new _ _ _ | (have := cell_one_new (wr.alloc (.cells #[.nilIface, .iface 34 (.agg #[.int .i64 (k : Int)])] 39)) (.iface 24 (.slice (some ⟨wr.heap.size, 0, .none⟩) 2 2)) 39; simpa using this)
        case qc3 => simp [Value.oneCell']
        case qc4 => rw [HEL.out]; unfold maxLen; omega
        case qc5 => rw [HEL.out]; omega
        case qc6 => simp; omega
        intro v' w1 hown hgrow hnil hat
        have hbw : Below wr.heap.size wr ((wr.alloc (.cells #[.nilIface, .iface 34 (.agg #[.int .i64 (k : Int)])] 39)).alloc (.cells #[.iface 24 (.slice (some ⟨wr.heap.size, 0, .none⟩) 2 2)] 39)) := (((Below.refl _ wr).alloc (Nat.le_refl _) _).alloc (by simp <;> omega) _)
        have hM' := Made.push (x := .iface 24 (.slice (some ⟨wr.heap.size, 0, .none⟩) 2 2)) (b := true) HM.out hbw.size (fun g hg => hbw.block g hg) (pair_val HM.out hs (k : Int) _) (by simpa using hown) hgrow hnil (by simpa using hat)
        have HM' := hide hM'
        have HB' := hide (((((HB.out.alloc hs _).alloc (by simp <;> omega) _)).grown hgrow (by simp <;> omega) (fun q hq => (HM.out.row.lt q hq).1)))
        clear hown hgrow hnil hat hM' hbw
        go_wp2
        go_roundw
        case rel => exact ⟨k + 1, es ++ [(.iface 24 (.slice (some ⟨wr.heap.size, 0, .none⟩) 2 2), true)], by omega, by go_num, by simp [HEL.out], by simp [List.any_append], HB'.out, HM'.out⟩
        case measure => simp [intOf]; omega
    · clear hb
      have q1 : ¬ (k : Int) < (n : Int) := by omega
      go_wp2
      go_ret2
      exact ⟨_, es, rfl, by rw [HEL.out]; omega, HB.out, HM.out⟩
end Go.Proofs.YbulkatwqFmt.tree
