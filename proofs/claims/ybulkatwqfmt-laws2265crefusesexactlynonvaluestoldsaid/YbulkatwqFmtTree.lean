/-
  Of LawS2265CRefusesExactlyNonValues: tuples as they lie in memory, with the flag 'holds what is no value'; notValueIn and notValueInTuple.
-/
import Derived.Test.YbulkatwqFmtRows
import Derived.WalkKit
import Derived.WalkSpells
import Derived.ProofKit
import Derived.OwnWalk
import Derived.WalkSmall
import Derived.Laws.MakeOwn
import Derived.Laws.OwnMore
import Derived.Maps.AppendAt
import Derived.Stop.CallBack
import Derived.Stop.IfaceNil
import Derived.Outline
namespace Go.Proofs.YbulkatwqFmt.tree
open Go.ChangeShapes Go.WideShapes Go.ChangeAt Go.RowKit Go
theorem hide {p : Prop} (h : p) : Hid p := h

/-- What is no tuple: nil, a Bytes; and the two makes that are no value. -/
def leaf (v : Value) (b : Bool) : Prop :=
  (v = .nilIface ∧ b = false) ∨ (∃ s : ByteArray, v = .iface 31 (.string s) ∧ b = false) ∨ (∃ i : Int, v = .iface 34 (.agg #[.int .i64 i]) ∧ b = true) ∨ (∃ s : ByteArray, v = .iface 36 (.agg #[.string s]) ∧ b = true)

/-- Every block is let. -/
def Any (_ : Nat) : Prop := True

/-- A value at most d tuples deep, each of whose rows lies in a block that S lets; b: it holds what is no value. -/
def Val (S : Nat → Prop) : Nat → World → Value → Bool → Prop
  | 0, _, v, b => leaf v b
  | d + 1, w, v, b => leaf v b ∨ ∃ (a : Option Addr) (c : Nat) (es : List (Value × Bool)), v = .iface 24 (.slice a es.length c) ∧ b = es.any (·.2) ∧ es.length ≤ 1024 ∧
      (es = [] ∨ ∃ g, a = some ⟨g, 0, .none⟩ ∧ g < w.heap.size ∧ S g ∧ ∀ (i : Nat) e, es[i]? = some e → w.cell? ⟨g, i, .none⟩ = some e.1) ∧ ∀ e, e ∈ es → Val S d w e.1 e.2

/-- The elements of a tuple. -/
def Tup (S : Nat → Prop) (d : Nat) (w : World) (a : Option Addr) (es : List (Value × Bool)) : Prop :=
  es.length ≤ 1024 ∧ (es = [] ∨ ∃ g, a = some ⟨g, 0, .none⟩ ∧ g < w.heap.size ∧ S g ∧ ∀ (i : Nat) e, es[i]? = some e → w.cell? ⟨g, i, .none⟩ = some e.1) ∧ ∀ e, e ∈ es → Val S d w e.1 e.2

theorem val_succ {S : Nat → Prop} {d : Nat} {w : World} {v : Value} {b : Bool} : Val S (d + 1) w v b ↔ leaf v b ∨ ∃ a c es, v = .iface 24 (.slice a es.length c) ∧ b = es.any (·.2) ∧ Tup S d w a es := Iff.rfl

theorem Val.of_leaf {S : Nat → Prop} {d : Nat} {w : World} {v : Value} {b : Bool} (h : leaf v b) : Val S d w v b := by
  cases d with
  | zero => exact h
  | succ d => exact .inl h

theorem Val.keep {S : Nat → Prop} {w w' : World} (hs : w.heap.size ≤ w'.heap.size) (hk : ∀ g, g < w.heap.size → S g → w'.heap[g]? = w.heap[g]?) : ∀ {d : Nat} {v : Value} {b : Bool}, Val S d w v b → Val S d w' v b := by
  intro d
  induction d with
  | zero => intro v b h; exact h
  | succ d ih =>
    intro v b h
    rcases h with h | ⟨a, c, es, rfl, hb, hl, hr, he⟩
    · exact .inl h
    · refine .inr ⟨a, c, es, rfl, hb, hl, ?_, fun e hm => ih (he e hm)⟩
      rcases hr with hr | ⟨g, rfl, hg, hav, hc⟩
      · exact .inl hr
      · exact .inr ⟨g, rfl, by omega, hav, fun i e hi => by rw [World.cell?_of_block (w := w) (hk g hg hav)]; exact hc i e hi⟩

theorem Val.avoid {S S' : Nat → Prop} {w : World} (h' : ∀ g, g < w.heap.size → S g → S' g) : ∀ {d : Nat} {v : Value} {b : Bool}, Val S d w v b → Val S' d w v b := by
  intro d
  induction d with
  | zero => intro v b h; exact h
  | succ d ih =>
    intro v b h
    rcases h with h | ⟨a, c, es, rfl, hb, hl, hr, he⟩
    · exact .inl h
    · refine .inr ⟨a, c, es, rfl, hb, hl, ?_, fun e hm => ih (he e hm)⟩
      rcases hr with hr | ⟨g, rfl, hg, hav, hc⟩
      · exact .inl hr
      · exact .inr ⟨g, rfl, hg, h' g hg hav, hc⟩

theorem Val.deeper {S : Nat → Prop} {w : World} : ∀ {d : Nat} {v : Value} {b : Bool}, Val S d w v b → Val S (d + 1) w v b := by
  intro d
  induction d with
  | zero => intro v b h; exact .inl h
  | succ d ih =>
    intro v b h
    rcases h with h | ⟨a, c, es, rfl, hb, hl, hr, he⟩
    · exact .inl h
    · exact .inr ⟨a, c, es, rfl, hb, hl, hr, fun e hm => ih (he e hm)⟩

theorem Tup.below {d : Nat} {w w' : World} {a : Option Addr} {es : List (Value × Bool)} (h : Tup Any d w a es) (hb : Below w.heap.size w w') : Tup Any d w' a es := by
  obtain ⟨h1, h2, h3⟩ := h
  refine ⟨h1, ?_, fun e he => Val.keep hb.size (fun g hg _ => hb.block g hg) (h3 e he)⟩
  rcases h2 with h2 | ⟨g, rfl, hg, hav, hc⟩
  · exact .inl h2
  · exact .inr ⟨g, rfl, by have := hb.size; omega, hav, fun i e hi => by rw [World.cell?_of_block (w := w) (hb.block g hg)]; exact hc i e hi⟩

/-- What is no value, as notValueIn hands it back. -/
def isBad (v : Value) : Prop := (∃ i : Int, v = .iface 34 (.agg #[.int .i64 i])) ∨ (∃ s : ByteArray, v = .iface 36 (.agg #[.string s]))

/-- A route: k integers, each from 0 to 1023, in a row of the call's own. -/
def Route (B : Nat) (w : World) (r : Value) (k : Nat) : Prop :=
  ∃ zs : List Int, zs.length = k ∧ (∀ z, z ∈ zs → 0 ≤ z ∧ z < 1024) ∧ w.ownsRow B 3 1 r k (zs.map (Value.int .i64)) ∧ r ≠ .slice none 0 0

def Post (d : Nat) (w : World) (b : Bool) (e : Ending) (w' : World) : Prop :=
  Below w.heap.size w w' ∧ ((b = false ∧ e = .returned (.tuple #[.nilIface, .slice .none 0 0])) ∨ (b = true ∧ ∃ bv r k, e = .returned (.tuple #[bv, r]) ∧ isBad bv ∧ k ≤ d ∧ Route w.heap.size w' r k))

theorem ownsRow_base {w : World} {B B' : Nat} {e : TypeId} {size : Nat} {v : Value} {n : Nat} {xs : List Value} (h : w.ownsRow B e size v n xs) (hb : B' ≤ B) : w.ownsRow B' e size v n xs := by
  refine ⟨h.1, ?_⟩
  rcases h.2 with h2 | ⟨g, cap, cur, hv, hB, r⟩
  · exact .inl h2
  · exact .inr ⟨g, cap, cur, hv, by omega, r⟩

theorem info3 : (Ybaf.prog.info? 3).map (fun i => (i.zero, i.size, i.bytes)) = some (some (.int .i64 0), 1, 8) := by kernel_rfl

/-! ### the type switch's asks, by the kernel -/
theorem ask31_nil (w : World) : (Instr.typeAssert .nilIface 39 31 true).run Ybaf.prog w = .ok (.tuple #[.string ⟨#[]⟩, .bool false]) w := by kernel_rfl
theorem ask31_31 (x : Value) (w : World) : (Instr.typeAssert (.iface 31 x) 39 31 true).run Ybaf.prog w = .ok (.tuple #[x, .bool true]) w := by kernel_rfl
theorem ask31_34 (x : Value) (w : World) : (Instr.typeAssert (.iface 34 x) 39 31 true).run Ybaf.prog w = .ok (.tuple #[.string ⟨#[]⟩, .bool false]) w := by kernel_rfl
theorem ask31_36 (x : Value) (w : World) : (Instr.typeAssert (.iface 36 x) 39 31 true).run Ybaf.prog w = .ok (.tuple #[.string ⟨#[]⟩, .bool false]) w := by kernel_rfl
theorem ask31_24 (x : Value) (w : World) : (Instr.typeAssert (.iface 24 x) 39 31 true).run Ybaf.prog w = .ok (.tuple #[.string ⟨#[]⟩, .bool false]) w := by kernel_rfl
theorem ask24_34 (x : Value) (w : World) : (Instr.typeAssert (.iface 34 x) 39 24 true).run Ybaf.prog w = .ok (.tuple #[.slice .none 0 0, .bool false]) w := by kernel_rfl
theorem ask24_36 (x : Value) (w : World) : (Instr.typeAssert (.iface 36 x) 39 24 true).run Ybaf.prog w = .ok (.tuple #[.slice .none 0 0, .bool false]) w := by kernel_rfl
theorem ask24_24 (x : Value) (w : World) : (Instr.typeAssert (.iface 24 x) 39 24 true).run Ybaf.prog w = .ok (.tuple #[x, .bool true]) w := by kernel_rfl

set_option maxHeartbeats 1000000 in
set_option maxRecDepth 100000 in
/-- notValueIn at what is no tuple. -/
theorem in_leaf (d : Nat) (v : Value) (b : Bool) (w : World) (h : leaf v b) : Calls Ybaf.prog 11 #[v] w (Post d w b) := by
  have t1 := ask31_nil
  have t2 := ask31_31
  have t3 := ask31_34
  have t4 := ask31_36
  have t5 := ask24_34
  have t6 := ask24_36
  rcases h with ⟨rfl, rfl⟩ | ⟨s, rfl, rfl⟩ | ⟨i, rfl, rfl⟩ | ⟨s, rfl, rfl⟩
  · go_enter Ybaf.func11, Ybaf.ntmps11
    go_wp2
    go_ret2
    exact ⟨Below.refl _ _, .inl ⟨rfl, rfl⟩⟩
  · go_enter Ybaf.func11, Ybaf.ntmps11
    go_wp2
    go_ret2
    exact ⟨Below.refl _ _, .inl ⟨rfl, rfl⟩⟩
  · go_enter Ybaf.func11, Ybaf.ntmps11
    go_wp2
    go_ret2
    exact ⟨(Below.refl _ _).alloc (Nat.le_refl _) _, .inr ⟨rfl, _, _, 0, rfl, .inl ⟨i, rfl⟩, Nat.zero_le _, [], rfl, by simp, World.ownsRow_made w #[] 0 (Nat.le_refl _) (Nat.zero_le _) (by simp), by simp⟩⟩
  · go_enter Ybaf.func11, Ybaf.ntmps11
    go_wp2
    go_ret2
    exact ⟨(Below.refl _ _).alloc (Nat.le_refl _) _, .inr ⟨rfl, _, _, 0, rfl, .inr ⟨s, rfl⟩, Nat.zero_le _, [], rfl, by simp, World.ownsRow_made w #[] 0 (Nat.le_refl _) (Nat.zero_le _) (by simp), by simp⟩⟩

def InAt (d : Nat) : Prop := ∀ (v : Value) (b : Bool) (w : World), Val Any d w v b → Calls Ybaf.prog 11 #[v] w (Post d w b)
def TupAt (d : Nat) : Prop := ∀ (a : Option Addr) (c : Nat) (es : List (Value × Bool)) (w : World), Tup Any d w a es → Calls Ybaf.prog 8 #[.slice a es.length c] w (Post (d + 1) w (es.any (·.2)))

theorem any_take_succ (es : List (Value × Bool)) (k : Nat) (h : k < es.length) : (es.take (k + 1)).any (·.2) = ((es.take k).any (·.2) || es[k].2) := by
  rw [List.take_succ_eq_append_getElem h, List.any_append]
  simp only [List.any_cons, List.any_nil, Bool.or_false]

set_option maxHeartbeats 2000000 in
set_option maxRecDepth 100000 in
/-- notValueInTuple, from notValueIn one tuple less deep. -/
theorem tup_of_in (d : Nat) (hd : d ≤ 8) (ih : InAt d) : TupAt d := by
  intro a c es w hT
  have q40 := fun (w : World) a n c n' c' => run_neq_slice_nil_any (P := Ybaf.prog) w 40 _ a n c n' c' Ybaf.underlying40
  obtain ⟨i0, hi0, hz0, hz1, hz2⟩ := info_parts info3
  have H : Hid (Tup Any d w a es) := hT
  have IH : Hid (InAt d) := ih
  have hl : es.length ≤ 1024 := hT.1
  clear hT ih
  go_enter Ybaf.func8, Ybaf.ntmps8
  go_wp2
  go_loopw [10] (fun p wr => ∃ k : Nat, k ≤ es.length ∧ p = .int .i64 k ∧ Below w.heap.size w wr ∧ (es.take k).any (·.2) = false) (fun p _ => es.length - (intOf p).toNat)
  case atStart => exact ⟨0, Nat.zero_le _, rfl, Below.refl _ _, rfl⟩
  case round =>
    obtain ⟨k, hk, rfl, hb, hany⟩ := hrel
    have HB := hide hb
    have HA := hide hany
    clear hany
    by_cases hlt : k < es.length
    · have hT := H.out.below hb
      clear hb
      rcases hT.2.1 with h0 | ⟨g, ha, hg, _, hc⟩
      · rw [h0] at hlt; simp at hlt
      have hcell := hc k es[k] (List.getElem?_eq_getElem hlt)
      have hval := hide (hT.2.2 es[k] (List.getElem_mem hlt))
      clear hT hc
      have q0 : (0 : Int) ≤ (k : Int) := by omega
      have q1 : (k : Int) < (es.length : Int) := by omega
      subst ha
      generalize hev : es[k] = ev at hcell hval
      have HEV := hide hev
      clear hev
      obtain ⟨v, b⟩ := ev
      go_wp2_with fail
      refine (IH.out v b wr hval.out).mono ?_
      rintro e w1 ⟨hb1, ⟨rfl, rfl⟩ | ⟨rfl, bv, r, kk, rfl, hbad, hkk, zs, hzl, hzr, hown, hnn⟩⟩
      · have HB1 := hide hb1
        clear hb1
        go_wp2
        go_roundw
        case rel =>
          refine ⟨k + 1, by omega, by go_num, HB.out.trans (HB1.out.mono HB.out.size), ?_⟩
          rw [any_take_succ es k hlt, HA.out, HEV.out]
          rfl
        case measure => simp [intOf]; omega
      · rcases hown.2 with ⟨e1, _⟩ | ⟨gr, cap, cur, rfl, _⟩
        · exact absurd e1 hnn
        have HB1 := hide hb1
        have HO := hide (ownsRow_base hown HB.out.size)
        have HBD := hide hbad
        have HZ := hide hzr
        have HZL := hide hzl
        have hs1 : w.heap.size ≤ w1.heap.size := Nat.le_trans HB.out.size hb1.size
        clear hb1 hown hbad hzr hnn hzl
        go_wp2_with (at_builtin; refine wpList_append_own _ rfl _ _ 40 rfl w.heap.size 3 i0 _ 1 8 Ybaf.underlying40 hi0 hz0 hz1 hz2 rfl (by decide) _ kk _ rfl (by exact HO.out.alloc _) ⟨w1.heap.size, 0, .none⟩ 1 1 [.int .i64 (k : Int)] rfl rfl ?qc2 ?qc3 ?qc4 ?qc5 ?qc6 ?_)
        case qc2 => exact cell_one_new _ _ _
        case qc3 => simp [Value.oneCell']
        case qc4 => unfold maxLen; omega
        case qc5 => omega
        case qc6 => simp; omega
        intro v' w2 hown2 hgrow hnil
        go_wp2
        go_ret2
        refine ⟨?_, .inr ⟨?_, bv, v', kk + 1, rfl, HBD.out, by omega, zs ++ [(k : Int)], by simp [HZL.out], ?_, by simpa using hown2, ?_⟩⟩
        · exact ((HB.out.trans (HB1.out.mono HB.out.size)).alloc hs1 _).grown hgrow (by simp; omega) (fun q hq => (HO.out.lt q hq).1)
        · rw [List.any_eq_true]
          exact ⟨es[k], List.getElem_mem hlt, by rw [HEV.out]⟩
        · intro z hz
          rcases List.mem_append.1 hz with hz | hz
          · exact HZ.out z hz
          · simp at hz; omega
        · simpa using hnil
    · clear hb
      have q1 : ¬ (k : Int) < (es.length : Int) := by omega
      go_wp2
      go_ret2
      refine ⟨HB.out, .inl ⟨?_, rfl⟩⟩
      have := HA.out
      rwa [List.take_of_length_le (by omega)] at this

set_option maxHeartbeats 1000000 in
set_option maxRecDepth 100000 in
/-- notValueIn one tuple deeper. -/
theorem in_succ (d : Nat) (ih : TupAt d) : InAt (d + 1) := by
  intro v b w h
  rcases val_succ.1 h with h | ⟨a, c, es, rfl, rfl, hT⟩
  · exact in_leaf (d + 1) v b w h
  · have t1 := ask31_24
    have t2 := ask24_24
    have HT := hide hT
    have IH := hide ih
    clear h hT ih
    go_enter Ybaf.func11, Ybaf.ntmps11
    go_wp2_with fail
    refine (IH.out a c es w HT.out).mono ?_
    rintro e w1 ⟨hb, h⟩
    rcases h with ⟨hf, rfl⟩ | ⟨ht, bv, r, kk, rfl, hr⟩
    · have HB := hide hb
      have HF := hide hf
      clear hb hf
      go_wp2
      go_ret2
      exact ⟨HB.out, .inl ⟨HF.out, rfl⟩⟩
    · have HB := hide hb
      have HT := hide ht
      have HR := hide hr
      clear hb ht hr
      go_wp2
      go_ret2
      exact ⟨HB.out, .inr ⟨HT.out, bv, r, kk, rfl, HR.out⟩⟩

theorem in_zero : InAt 0 := fun v b w h => in_leaf 0 v b w h
theorem tup_all : ∀ d, d ≤ 8 → TupAt d
  | 0, h => tup_of_in 0 h in_zero
  | d + 1, h => tup_of_in (d + 1) h (in_succ d (tup_all d (by omega)))
end Go.Proofs.YbulkatwqFmt.tree
