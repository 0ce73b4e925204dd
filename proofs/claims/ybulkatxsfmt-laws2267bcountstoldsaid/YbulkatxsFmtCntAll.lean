/-
  Of LawS2267BCounts: the iterator over the uses' log.
-/
import Derived.RangeFuncNested
import Derived.RangeFuncBound
import Derived.RangeFuncCalls
import Derived.RangeFuncLeaves
import Derived.Shelf.Abstract
import Derived.Shelf.RegionOpen
import Derived.OwnWalkIn
import Derived.TacticsInMore
import Derived.LoopNIn
import Derived.LoopIn
import Derived.Test.YbulkatxsFmtCntTake
namespace Go.Proofs.YbulkatxsFmt.cnt
open Go.ChangeShapes Go.WideShapes Go.ChangeAt Go.RowKit Go
open Go.Extern.Stop Go.Stop Go.Extern
open Go.Shelf
attribute [local go_sem] Oper.semAt_some

/-- a use as the log holds it: the alias, one more than the alias whose definition holds it (0: none does), the column -/
structure Us where
  (a p c : Nat)
def Us.val (u : Us) : Value := .agg #[.int .i32 u.a, .int .i32 ((u.p : Int) - 1), .int .u32 0, .int .u32 0, .int .u32 u.c]
def bytesOf : List Us → List UInt8
  | [] => []
  | u :: r => Lib.uvarint u.a ++ (Lib.uvarint u.p ++ (Lib.uvarint 0 ++ (Lib.uvarint u.c ++ bytesOf r)))
def Us.Ok (u : Us) : Prop := u.a < 16384 ∧ u.p < 16384 ∧ u.c < 16384

theorem BSl.form {w : World} {g : Nat} {v : Value} {l : List UInt8} (h : BSl w g v l) : ∃ o c, v = .slice (some ⟨g, o, .none⟩) l.length c ∧ l.length ≤ c := by
  obtain ⟨o, c, e, h1, _⟩ := h
  exact ⟨o, c, e, h1⟩

/-- the iterator's own blocks: A: where it is in the text; A + 1: the bytes left -/
structure AS (wr : World) (A Y c : Nat) (v : Value) (l : List UInt8) : Prop where
  bx : Boxed wr (A + 1) 25 v
  bs : BSl wr Y v l
  at' : wr.heap[A]? = some (.cells #[.int .u32 0, .int .u32 0, .int .u32 c] 36)
  ya : Y ≠ A
  yb : Y ≠ A + 1
def Own2 (A : Nat) (i : Nat) : Prop := i = A ∨ i = A + 1

theorem AS.keep {S : Nat → Prop} {wr w' : World} {A Y c : Nat} {v : Value} {l : List UInt8} (h : AS wr A Y c v l) (k : Keep S wr w') (h1 : ¬ S A) (h2 : ¬ S (A + 1)) (h3 : ¬ S Y) : AS w' A Y c v l :=
  ⟨k.boxed h.bx h2, h.bs.keep k h3, (k.block A (lt_of_heap h.at') h1).trans h.at', h.ya, h.yb⟩
theorem AS.put {wr : World} {A Y c : Nat} {v v' : Value} {l l' : List UInt8} (h : AS wr A Y c v l) (hb : BSl wr Y v' l') : AS (wr.setCell ⟨A + 1, 0, .none⟩ v') A Y c v' l' := by
  have k : Keep (fun i => i = A + 1) wr (wr.setCell ⟨A + 1, 0, .none⟩ v') := Keep.set1 _ rfl
  exact ⟨h.bx.set v', hb.keep k h.yb, (k.block A (lt_of_heap h.at') (by omega)).trans h.at', h.ya, h.yb⟩
theorem AS.set1 {wr : World} {A Y c : Nat} {v : Value} {l : List UInt8} (h : AS wr A Y c v l) : AS (wr.setCell ⟨A, 1, .none⟩ (.int .u32 0)) A Y c v l := by
  have k : Keep (fun i => i = A) wr (wr.setCell ⟨A, 1, .none⟩ (.int .u32 0)) := (Keep.refl (fun i => i = A) wr).setCell (p := ⟨A, 1, .none⟩) (fun _ => rfl) _
  exact ⟨k.boxed h.bx (by omega), h.bs.keep k h.ya, heap_setCell_same wr A 1 _ 36 _ h.at', h.ya, h.yb⟩
theorem AS.set2 {wr : World} {A Y c : Nat} {v : Value} {l : List UInt8} (h : AS wr A Y c v l) (c' : Nat) : AS (wr.setCell ⟨A, 2, .none⟩ (.int .u32 c')) A Y c' v l := by
  have k : Keep (fun i => i = A) wr (wr.setCell ⟨A, 2, .none⟩ (.int .u32 c')) := (Keep.refl (fun i => i = A) wr).setCell (p := ⟨A, 2, .none⟩) (fun _ => rfl) _
  exact ⟨k.boxed h.bx (by omega), h.bs.keep k h.ya, heap_setCell_same wr A 2 _ 36 _ h.at', h.ya, h.yb⟩
theorem AS.take {wr : World} {A Y c x : Nat} {v : Value} {rest : List UInt8} (h : AS wr A Y c v (Lib.uvarint x ++ rest)) (hx : x < 16384) :
    Calls Ybaf.prog 24 #[.pointer (some ⟨A + 1, 0, .none⟩)] wr fun e w' => e = .returned (.int .u64 x) ∧ ∃ v', AS w' A Y c v' rest ∧ Keep (Own2 A) wr w' := by
  refine (take_any (A + 1) Y x rest v wr hx h.bx.cell h.bx.frozen h.bs).mono ?_
  rintro e w' ⟨rfl, v', rfl, hb⟩
  exact ⟨rfl, v', h.put hb, (Keep.refl (Own2 A) wr).setCell (p := ⟨A + 1, 0, .none⟩) (fun _ => .inr rfl) _⟩

def AllRel (us : List Us) (J : List Us → World → Prop) (A Y : Nat) (n : Nat) (wr : World) : Prop :=
  ∃ pre rest v c, rest.length = n ∧ us = pre ++ rest ∧ J pre wr ∧ AS wr A Y c v (bytesOf rest)

set_option maxHeartbeats 2000000 in
set_option maxRecDepth 100000 in
theorem all_any (l U Rr X Y n : Nat) (us : List Us) (hus : ∀ u ∈ us, u.Ok) (J : List Us → World → Prop) (T : Nat → Prop) (bv bs : Value) (W : World)
    (hU : W.cell? ⟨U, 0, .none⟩ = some (.pointer (some ⟨Rr, 3, .none⟩))) (hR : W.cell? ⟨Rr, 3, .none⟩ = some bv) (hbv : bv = .slice (some ⟨X, 0, .none⟩) 1 1) (hX : W.cell? ⟨X, 0, .none⟩ = some bs) (hbs : BSl W Y bs (bytesOf us))
    (hY : ∀ pre u rest W', us = pre ++ u :: rest → W.heap.size + 1 < W'.heap.size → J pre W' → YieldAt Fence.wide (n - 1) Ybaf.prog l #[u.val] W' fun e W'' => e = .returned (.bool true) ∧ J (pre ++ [u]) W'' ∧ Keep T W' W'')
    (hTY : ¬ T Y) (hTA : ¬ T W.heap.size) (hTB : ¬ T (W.heap.size + 1)) (hYl : Y < W.heap.size)
    (hJ : ∀ pre W' W'', J pre W' → Keep (Own2 W.heap.size) W' W'' → J pre W'') (h0 : J [] W) :
    CallsIn Fence.wide n Ybaf.prog 23 #[.func (.yield l) #[] #[], .pointer (some ⟨U, 0, .none⟩)] W fun e W' => (∃ v, e = .returned v) ∧ J us W' := by
  subst hbv
  obtain ⟨ob, cb, hbf, -⟩ := hbs.form
  subst hbf
  have z1 := World.block_lt_of_cell? W _ hU
  have z2 := World.block_lt_of_cell? W _ hR
  have z3 := World.block_lt_of_cell? W _ hX
  simp only at z1 z2 z3
  have HJ := hide hJ
  have HY := hide hY
  have HUS := hide hus
  have HBS := hide hbs
  have H0 := hide h0
  clear hJ hY hus hbs h0
  refine callsIn_of_wp Ybaf.func23 rfl trivial ?_ rfl
  simp only [Ybaf.ntmps23, List.size_toArray, List.length_cons, List.length_nil, Nat.reduceAdd, Nat.reduceSub, Array.replicate_succ, Array.replicate_zero, List.push_toArray, List.append_toArray, List.nil_append, List.cons_append]
  gi_wp2
  gi_loopw [15] (fun p wr => (p = .int .i64 0 ∧ wr = W.alloc (.cells #[.int .u32 0, .int .u32 0, .int .u32 0] 36)) ∨ (p = .int .i64 1 ∧ J us wr)) (fun p _ => 1 - (intOf p).toNat)
  case atStart => exact .inl ⟨rfl, rfl⟩
  case round =>
    rcases hrel with ⟨rfl, rfl⟩ | ⟨rfl, hj⟩
    · gi_wp2
      gi_loopw [6] (fun _ wr => ∃ m, AllRel us J W.heap.size Y m wr) (fun _ wr => least fun m => AllRel us J W.heap.size Y m wr)
      case atStart =>
        have k0 : Keep (Own2 W.heap.size) W ((W.alloc (.cells #[.int .u32 0, .int .u32 0, .int .u32 0] 36)).alloc (.cells #[.slice (some ⟨Y, ob, .none⟩) (bytesOf us).length cb] 25)) := ((Keep.refl _ W).alloc _).alloc _
        have e : (W.alloc (.cells #[.int .u32 0, .int .u32 0, .int .u32 0] 36)).heap.size = W.heap.size + 1 := by simp
        refine ⟨us.length, [], us, .slice (some ⟨Y, ob, .none⟩) (bytesOf us).length cb, 0, rfl, rfl, HJ.out _ _ _ H0.out k0, ?_, HBS.out.keep k0 (fun h => by rcases h with h | h <;> omega), ?_, by omega, by omega⟩
        · show _ = _
          rw [← e]; exact heap_alloc_new _ _
        · rw [Below.heap_alloc _ _ _ (by simp)]; exact heap_alloc_new _ _
      case round => 
        obtain ⟨m0, hm0⟩ := hrel
        obtain ⟨pre, rest, v, c, hl, hu, hj, hs⟩ := least_spec (P := fun m => AllRel us J W.heap.size Y m wr) ⟨m0, hm0⟩
        clear hm0
        obtain ⟨ob', cb', hbf', -⟩ := hs.bs.form
        subst hbf'
        have HJ1 := hide hj
        have HU := hide hu
        have HL := hide hl
        have HS := hide hs
        have b1 := hs.bx.cell
        clear hj hu hl hs
        cases rest with
        | nil =>
          have q0 : (bytesOf []).length = 0 := rfl
          rw [q0] at b1
          gi_wp2
          go_roundw
          case rel => exact .inr ⟨by go_num, by have := HU.out; rw [List.append_nil] at this; rw [this]; exact HJ1.out⟩
          case measure => simp [intOf]
        | cons u r =>
          have q0 : (0 : Int) < ((bytesOf (u :: r)).length : Int) := by
            have := Lib.uvarint_pos u.a
            simp only [bytesOf, List.length_append]
            omega
          have hok := HUS.out u (by rw [HU.out]; simp)
          have m1 : (0 : Int) ≤ (u.a : Int) := by omega
          have m2 : (u.a : Int) < 16384 := by have := hok.1; omega
          have m3 : (0 : Int) ≤ (u.p : Int) := by omega
          have m4 : (u.p : Int) < 16384 := by have := hok.2.1; omega
          have m5 : (0 : Int) ≤ (u.c : Int) := by omega
          have m6 : (u.c : Int) < 16384 := by have := hok.2.2; omega
          gi_wp2_with fail
          refine ⟨trivial, fun h => (by cases h), (callsIn_wide.2 (AS.take HS.out hok.1)).mono ?_⟩
          rintro e w1 ⟨rfl, v1, hs1, hk1⟩
          have HS1 := hide hs1
          have HK1 := hide hk1
          clear hs1 hk1 b1
          gi_wp2_with fail
          refine ⟨trivial, fun h => (by cases h), (callsIn_wide.2 (AS.take HS1.out hok.2.1)).mono ?_⟩
          rintro e w2 ⟨rfl, v2, hs2, hk2⟩
          have HS2 := hide hs2
          have HK2 := hide (HK1.out.trans hk2)
          clear hs2 hk2
          gi_wp2_with fail
          refine ⟨trivial, fun h => (by cases h), (callsIn_wide.2 (AS.take HS2.out (by omega))).mono ?_⟩
          rintro e w3 ⟨rfl, v3, hs3, hk3⟩
          have HS3 := hide hs3
          have HK3 := hide (HK2.out.trans hk3)
          have a1 : w3.cell? ⟨W.heap.size, 1, .none⟩ = some (.int .u32 0) := by simp [World.cell?, hs3.at']
          have a3 : ∀ j, w3.frozen? ⟨W.heap.size, j, .none⟩ = false := by intro j; simp [World.frozen?, hs3.at']
          clear hs3 hk3
          gi_wp2_with fail
          refine ⟨trivial, fun h => (by cases h), (callsIn_wide.2 (AS.take HS3.out.set1 hok.2.2)).mono ?_⟩
          rintro e w4 ⟨rfl, v4, hs4, hk4⟩
          have HS4 := hide (hs4.set2 u.c)
          have HK4 := hide (((HK3.out.setCell (p := ⟨W.heap.size, 1, .none⟩) (fun _ => .inl rfl) (.int .u32 0)).trans hk4).setCell (p := ⟨W.heap.size, 2, .none⟩) (fun _ => .inl rfl) (.int .u32 u.c))
          have c0 : w4.cell? ⟨W.heap.size, 0, .none⟩ = some (.int .u32 0) := by simp [World.cell?, hs4.at']
          have c1 : w4.cell? ⟨W.heap.size, 1, .none⟩ = some (.int .u32 0) := by simp [World.cell?, hs4.at']
          have c2 : w4.cell? ⟨W.heap.size, 2, .none⟩ = some (.int .u32 c) := by simp [World.cell?, hs4.at']
          have c3 : ∀ j, w4.frozen? ⟨W.heap.size, j, .none⟩ = false := by intro j; simp [World.frozen?, hs4.at']
          obtain ⟨fn, tmps, assign, body, hy, hR⟩ := HY.out pre u r _ HU.out HS4.out.bx.lt (HJ.out _ _ _ HJ1.out HK4.out)
          dsimp only [Us.val] at hy
          clear hs4 hk4 a1 a3
          gi_wp2
          refine ⟨fun h => (by cases h), hR.mono ?_⟩
          rintro e W5 ⟨rfl, hj5, hk5⟩
          have IN : Hid (AllRel us J W.heap.size Y r.length W5) := ⟨pre ++ [u], r, v4, u.c, rfl, by rw [HU.out]; simp, hj5, HS4.out.keep hk5 hTA hTB hTY⟩
          clear hj5 hk5 hy hR c0 c1 c2 c3
          gi_wp2
          go_roundw
          case rel => exact ⟨_, IN.out⟩
          case measure => exact Nat.lt_of_le_of_lt (least_le IN.out) (by have := HL.out; simp at this; omega)
    · gi_wp2
      go_end0
      exact ⟨⟨_, rfl⟩, hj⟩

set_option maxHeartbeats 2000000 in
set_option maxRecDepth 100000 in
theorem all_none (l U Rr n : Nat) (J : List Us → World → Prop) (W : World) (hU : W.cell? ⟨U, 0, .none⟩ = some (.pointer (some ⟨Rr, 3, .none⟩))) (hR : W.cell? ⟨Rr, 3, .none⟩ = some (.slice .none 0 0))
    (hJ : ∀ pre W' W'', J pre W' → Keep (Own2 W.heap.size) W' W'' → J pre W'') (h0 : J [] W) :
    CallsIn Fence.wide n Ybaf.prog 23 #[.func (.yield l) #[] #[], .pointer (some ⟨U, 0, .none⟩)] W fun e W' => (∃ v, e = .returned v) ∧ J [] W' := by
  have z1 := World.block_lt_of_cell? W _ hU
  have z2 := World.block_lt_of_cell? W _ hR
  simp only at z1 z2
  have HJ := hide hJ
  have H0 := hide h0
  clear hJ h0
  refine callsIn_of_wp Ybaf.func23 rfl trivial ?_ rfl
  simp only [Ybaf.ntmps23, List.size_toArray, List.length_cons, List.length_nil, Nat.reduceAdd, Nat.reduceSub, Array.replicate_succ, Array.replicate_zero, List.push_toArray, List.append_toArray, List.nil_append, List.cons_append]
  gi_wp2
  gi_loopw [15] (fun p wr => p = .int .i64 0 ∧ wr = W.alloc (.cells #[.int .u32 0, .int .u32 0, .int .u32 0] 36)) (fun _ _ => 0)
  case atStart => exact ⟨rfl, rfl⟩
  case round =>
    obtain ⟨rfl, rfl⟩ := hrel
    gi_wp2
    go_end0
    exact ⟨⟨_, rfl⟩, HJ.out _ _ _ H0.out ((Keep.refl _ W).alloc _)⟩
end Go.Proofs.YbulkatxsFmt.cnt
