/-
  Of LawS2267BCounts: place, newProblem, report, undefined, cycle.
-/
import Derived.Test.YbulkatxsFmtCntGeo
import Derived.Test.YbulkatxsFmtCntIs
import Derived.Deep.QuietTactic
import Derived.BigQuiet
import Derived.BigRegion
namespace Go.Proofs.YbulkatxsFmt.cnt
open Go.ChangeShapes Go.WideShapes Go.ChangeAt Go.RowKit Go
open Go.Extern.Stop Go.Stop Go.Extern

set_option maxHeartbeats 1000000 in
set_option maxRecDepth 100000 in
theorem place_any (L M : Nat) (s : ByteArray) (l c : Int) (w : World) (hL : w.cell? ⟨L, 1, .none⟩ = some (.slice (some ⟨M, 0, .none⟩) 1 1)) (hM : w.cell? ⟨M, 0, .none⟩ = some (.string s)) (hl : 0 ≤ l) (hl' : l < 4294967296) (hc : 0 ≤ c) (hc' : c < 4294967296) :
    Calls Ybaf.prog 13 #[.pointer (some ⟨L, 0, .none⟩), .agg #[.int .u32 0, .int .u32 l, .int .u32 c]] w fun e w' => e = .returned (.agg #[.string s, .int .i64 l, .int .i64 c]) ∧ Below w.heap.size w w' := by
  have z1 := World.block_lt_of_cell? w _ hL
  have z2 := World.block_lt_of_cell? w _ hM
  simp only at z1 z2
  have z3 : L < w.heap.size + 1 := by omega
  have z4 : M < w.heap.size + 1 := by omega
  go_enter Ybaf.func13, Ybaf.ntmps13
  go_wp2
  go_region
  go_wp2
  have e : (w.alloc (.cells #[.int .u32 0, .int .u32 l, .int .u32 c] 36)).heap.size = w.heap.size + 1 := by simp
  refine bodyPost_ret (results_cell_row rfl _ _ (w.heap.size + 1) 78 #[.string s, .int .i64 l, .int .i64 c] _ _ rfl (by rw [← e]; exact heap_alloc_new _ _) Ybaf.underlying78 rfl (by kernel_rfl)) rfl ⟨rfl, ?_⟩
  exact (((Below.refl _ w).alloc (Nat.le_refl _) _).alloc (by simp) _).drew

set_option maxHeartbeats 1000000 in
set_option maxRecDepth 100000 in
theorem newProblem_any (s : ByteArray) (l c : Int) (x : Addr) (b : Bool) (w : World) :
    Calls Ybaf.prog 12 #[.agg #[.string s, .int .i64 l, .int .i64 c], .iface 104 (.pointer (some x)), .bool b] w fun e w' => ∃ y : Nat, e = .returned (.pointer (some ⟨y, 0, .none⟩)) ∧ w.heap.size ≤ y ∧ Below w.heap.size w w' ∧
      w'.heap[y]? = some (.cells #[.string s, .int .i64 l, .int .i64 c, .iface 104 (.pointer (some x)), .bool b] 63) := by
  go_enter Ybaf.func12, Ybaf.ntmps12
  go_wp2
  go_ret
  refine ⟨_, rfl, by omega, ((Below.refl _ w).alloc (Nat.le_refl _) _).alloc (by simp) _, ?_⟩
  have e : (w.alloc (.cells #[.string s, .int .i64 l, .int .i64 c] 78)).heap.size = w.heap.size + 1 := by simp
  rw [← e]
  exact heap_alloc_new _ _

/-- a problem, as newProblem lays it -/
def Prb (w : World) (y : Nat) (x : Addr) (b : Bool) : Prop := ∃ l c : Int, w.heap[y]? = some (.cells #[.string ⟨#[102]⟩, .int .i64 l, .int .i64 c, .iface 104 (.pointer (some x)), .bool b] 63)

theorem Prb.ne {w : World} {y : Nat} {x : Addr} {b : Bool} (h : Prb w y x b) {B : Nat} {v : Value} {t : TypeId} (hb : Boxed w B t v) : y ≠ B := by
  rintro rfl
  obtain ⟨l, c, h⟩ := h
  have := h.symm.trans hb
  simp at this


/-- what report reads -/
structure Rep (G : Geo) (w : World) (y x : Nat) (b : Bool) (c u n : Nat) : Prop where
  c0 : w.cell? ⟨y, 0, .none⟩ = some (.string ⟨#[102]⟩)
  c3 : w.cell? ⟨y, 3, .none⟩ = some (.iface 104 (.pointer (some ⟨x, 0, .none⟩)))
  c4 : w.cell? ⟨y, 4, .none⟩ = some (.bool b)
  v0 : w.cell? ⟨0, 0, .none⟩ = some (.iface 119 (.pointer (some G.a0)))
  v1 : w.cell? ⟨1, 0, .none⟩ = some (.iface 119 (.pointer (some G.a1)))
  v2 : w.cell? ⟨2, 0, .none⟩ = some (.iface 119 (.pointer (some G.a2)))
  sb : w.cell? ⟨G.s, 0, .none⟩ = some (.bool G.st)
  cu : w.cell? ⟨G.g, 0, .none⟩ = some (.int .i64 u)
  fu : w.frozen? ⟨G.g, 0, .none⟩ = false
  cc : w.cell? ⟨G.g + 1, 0, .none⟩ = some (.int .i64 c)
  fc : w.frozen? ⟨G.g + 1, 0, .none⟩ = false
  cn : w.cell? ⟨G.g + 2, 0, .none⟩ = some (.int .i64 n)
  fn : w.frozen? ⟨G.g + 2, 0, .none⟩ = false
  h0 : ∃ c t, w.heap[G.a0.block]? = some (.cells c t (0, 0))
  h1 : ∃ c t, w.heap[G.a1.block]? = some (.cells c t (0, 0))
  h2 : ∃ c t, w.heap[G.a2.block]? = some (.cells c t (0, 0))
theorem Rep.drewN {G : Geo} {w : World} {y x : Nat} {b : Bool} {c u n : Nat} (h : Rep G w y x b c u n) (k : Nat) : Rep G (w.drewN k) y x b c u n :=
  ⟨h.c0, h.c3, h.c4, h.v0, h.v1, h.v2, h.sb, h.cu, h.fu, h.cc, h.fc, h.cn, h.fn, h.h0, h.h1, h.h2⟩
theorem rep_of {G : Geo} {w : World} {used : Nat → Bool} {c u n y x : Nat} {b : Bool} (hf : Fix G w) (hm : Mut G w used c u n) (hp : Prb w y ⟨x, 0, .none⟩ b) : Rep G w y x b c u n := by
  obtain ⟨l, cl, hy⟩ := hp
  exact ⟨by simp [World.cell?, hy], by simp [World.cell?, hy], by simp [World.cell?, hy], hf.v0, hf.v1, hf.v2, hf.sb.cell, hm.cu.cell, hm.cu.frozen, hm.cc.cell, hm.cc.frozen, hm.cn.cell, hm.cn.frozen, hf.h0, hf.h1, hf.h2⟩
theorem Keep.drewN {S : Nat → Prop} {a w : World} (h : Keep S a w) (k : Nat) : Keep S a (w.drewN k) := ⟨h.os, h.tape, h.output, h.size, h.block⟩
theorem Mut.drewN {G : Geo} {w : World} {used : Nat → Bool} {c u n : Nat} (h : Mut G w used c u n) (k : Nat) : Mut G (w.drewN k) used c u n := ⟨h.k0, h.k1, h.k2, h.k3, h.k4, h.k5, h.k6, h.kf, h.cu, h.cc, h.cn, h.co⟩

theorem is0_other {G : Geo} {w : World} {x : Nat} {a : Addr} (hx : w.cell? ⟨x, 1, .none⟩ = some (.iface 119 (.pointer (some a)))) (hne : a ≠ G.a0) (h0 : ∃ c t, w.heap[G.a0.block]? = some (.cells c t (0, 0))) (ha : ∃ c t, w.heap[a.block]? = some (.cells c t (0, 0))) :
    Calls Ybaf.prog 6 #[.iface 104 (.pointer (some ⟨x, 0, .none⟩)), .iface 119 (.pointer (some G.a0))] w fun e w' => e = .returned (.bool false) ∧ w' = w := by
  obtain ⟨c0, t0, h0⟩ := h0
  obtain ⟨c1, t1, ha⟩ := ha
  exact is_wrap_other x 0 G.a0 a c1 c0 t1 t0 w hx hne ha h0
theorem is1_other {G : Geo} {w : World} {x : Nat} {a : Addr} (hx : w.cell? ⟨x, 1, .none⟩ = some (.iface 119 (.pointer (some a)))) (hne : a ≠ G.a1) (h0 : ∃ c t, w.heap[G.a1.block]? = some (.cells c t (0, 0))) (ha : ∃ c t, w.heap[a.block]? = some (.cells c t (0, 0))) :
    Calls Ybaf.prog 6 #[.iface 104 (.pointer (some ⟨x, 0, .none⟩)), .iface 119 (.pointer (some G.a1))] w fun e w' => e = .returned (.bool false) ∧ w' = w := by
  obtain ⟨c0, t0, h0⟩ := h0
  obtain ⟨c1, t1, ha⟩ := ha
  exact is_wrap_other x 0 G.a1 a c1 c0 t1 t0 w hx hne ha h0

/-- a wrapped cycle error -/
def Cyc (G : Geo) (w : World) (x : Nat) : Prop := w.cell? ⟨x, 1, .none⟩ = some (.iface 119 (.pointer (some G.a0))) ∨ ∃ z : Nat, w.cell? ⟨x, 1, .none⟩ = some (.iface 104 (.pointer (some ⟨z, 0, .none⟩))) ∧ w.cell? ⟨z, 1, .none⟩ = some (.iface 119 (.pointer (some G.a0)))
theorem Cyc.drewN {G : Geo} {w : World} {x : Nat} (h : Cyc G w x) (k : Nat) : Cyc G (w.drewN k) x := h
theorem is0_cyc {G : Geo} {w : World} {x : Nat} (hx : Cyc G w x) :
    Calls Ybaf.prog 6 #[.iface 104 (.pointer (some ⟨x, 0, .none⟩)), .iface 119 (.pointer (some G.a0))] w fun e w' => e = .returned (.bool true) ∧ w' = w := by
  rcases hx with hx | ⟨z, hx, hz⟩
  · exact is_wrap_same x 0 G.a0 w hx
  · exact is_wrap2_same x 0 z G.a0 w hx hz

set_option maxHeartbeats 1000000 in
set_option maxRecDepth 100000 in
theorem report_undef (G : Geo) (o : G.Ok) (w : World) (used : Nat → Bool) (c u n : Nat) (y x : Nat) (hf : Fix G w) (hm : Mut G w used c u n) (hu : u < 100000) (hp : Prb w y ⟨x, 0, .none⟩ (!G.st)) (hx : w.cell? ⟨x, 1, .none⟩ = some (.iface 119 (.pointer (some G.a1)))) :
    Calls Ybaf.prog 5 #[.pointer (some ⟨y, 0, .none⟩), .pointer (some ⟨G.g + 3, 0, .none⟩), .pointer (some ⟨G.g + 1, 0, .none⟩), .pointer (some ⟨G.s, 0, .none⟩), .pointer (some ⟨G.g, 0, .none⟩), .pointer (some ⟨G.g + 2, 0, .none⟩)] w fun e w' =>
      e = .returned (.tuple #[]) ∧ Keep (fun i => i = G.g) w w' ∧ Mut G w' used c (u + 1) n := by
  have y1 : y ≠ G.g := hp.ne hm.cu
  have sg : G.g ≠ G.s := by have := o.sK; have := o.kM; have := o.mL; have := o.lR; have := o.rg; omega
  have q1 : ((!G.st) == G.st) = false := by cases G.st <;> rfl
  have HR := hide (rep_of hf hm hp)
  obtain ⟨c0, c3, c4, v0, v1, v2, sb, cu, fu, -, -, -, -, -, -, -⟩ := HR.out
  have HM := hide hm
  have HO := hide o
  have HX := hide hx
  clear hf hm o hx hp
  go_enter Ybaf.func5, Ybaf.ntmps5
  go_wp2
  go_quiet (first | (go_at_call 6; refine Calls.quiet_of_same (is0_other ?_ HO.out.n01.symm ?_ ?_); exact HX.out; exact HR.out.h0; exact HR.out.h1))
  go_wp2
  have HR1 := hide (HR.out.drewN nq)
  have HM1 := hide (HM.out.drewN nq)
  have HX1 : Hid ((w.drewN nq).cell? ⟨x, 1, .none⟩ = some (.iface 119 (.pointer (some G.a1)))) := HX
  have HK1 := hide ((Keep.refl (fun i => i = G.g) w).drewN nq)
  clear c0 c3 c4 v0 v1 v2 sb cu fu
  obtain ⟨c0, c3, c4, v0, v1, v2, sb, cu, fu, -, -, -, -, -, -, -⟩ := HR1.out
  generalize w.drewN nq = w1 at HR1 HM1 HX1 HK1 c0 c3 c4 v0 v1 v2 sb cu fu ⊢
  go_quiet (first | (go_at_call 6; refine Calls.quiet_of_same (is_wrap_same x 0 G.a1 _ ?_); exact HX1.out))
  go_wp2
  have HM2 : Hid (Mut G ((w1.drewN nq).setCell ⟨G.g, 0, .none⟩ (.int .i64 ((u : Int) + 1))) used c (u + 1) n) := (HM1.out.drewN nq).setU HO.out
  have HK2 : Hid (Keep (fun i => i = G.g) w ((w1.drewN nq).setCell ⟨G.g, 0, .none⟩ (.int .i64 ((u : Int) + 1)))) := (HK1.out.drewN nq).setCell (fun _ => rfl) _
  have c4' : ((w1.drewN nq).setCell ⟨G.g, 0, .none⟩ (.int .i64 ((u : Int) + 1))).cell? ⟨y, 4, .none⟩ = some (.bool (!G.st)) := by
    rw [World.cell?_setCell_other _ _ _ _ (by intro e; injection e with e1; exact y1 e1.symm)]; exact c4
  have sb' : ((w1.drewN nq).setCell ⟨G.g, 0, .none⟩ (.int .i64 ((u : Int) + 1))).cell? ⟨G.s, 0, .none⟩ = some (.bool G.st) := by
    rw [World.cell?_setCell_other _ _ _ _ (by intro e; injection e with e1; exact sg e1)]; exact sb
  clear c0 c3 c4 v0 v1 v2 sb cu fu HX1 HM1 HR1 HX HM HR HK1
  generalize (w1.drewN nq).setCell ⟨G.g, 0, .none⟩ (.int .i64 ((u : Int) + 1)) = w2 at HM2 HK2 c4' sb' ⊢
  go_quiet (fail)
  go_wp2
  go_end0
  exact ⟨rfl, HK2.out.drewN _, HM2.out.drewN _⟩
set_option maxHeartbeats 1000000 in
set_option maxRecDepth 100000 in
theorem report_cycle (G : Geo) (o : G.Ok) (w : World) (used : Nat → Bool) (c u n : Nat) (y x : Nat) (hf : Fix G w) (hm : Mut G w used c u n) (hu : c < 100000) (hp : Prb w y ⟨x, 0, .none⟩ (!G.st)) (hx : Cyc G w x) :
    Calls Ybaf.prog 5 #[.pointer (some ⟨y, 0, .none⟩), .pointer (some ⟨G.g + 3, 0, .none⟩), .pointer (some ⟨G.g + 1, 0, .none⟩), .pointer (some ⟨G.s, 0, .none⟩), .pointer (some ⟨G.g, 0, .none⟩), .pointer (some ⟨G.g + 2, 0, .none⟩)] w fun e w' =>
      e = .returned (.tuple #[]) ∧ Keep (fun i => i = G.g + 1) w w' ∧ Mut G w' used (c + 1) u n := by
  have y1 : y ≠ G.g + 1 := hp.ne hm.cc
  have sg : G.g + 1 ≠ G.s := by have := o.sK; have := o.kM; have := o.mL; have := o.lR; have := o.rg; omega
  have q1 : ((!G.st) == G.st) = false := by cases G.st <;> rfl
  have HR := hide (rep_of hf hm hp)
  obtain ⟨c0, c3, c4, v0, v1, v2, sb, -, -, cu, fu, -, -, -, -, -⟩ := HR.out
  have HM := hide hm
  have HO := hide o
  have HX := hide hx
  clear hf hm o hx hp
  go_enter Ybaf.func5, Ybaf.ntmps5
  go_wp2
  go_quiet (first | (go_at_call 6; refine Calls.quiet_of_same (is0_cyc ?_); exact HX.out.drewN _))
  go_wp2
  have HM2 : Hid (Mut G ((w.drewN nq).setCell ⟨G.g + 1, 0, .none⟩ (.int .i64 ((c : Int) + 1))) used (c + 1) u n) := (HM.out.drewN nq).setC HO.out
  have HK2 : Hid (Keep (fun i => i = G.g + 1) w ((w.drewN nq).setCell ⟨G.g + 1, 0, .none⟩ (.int .i64 ((c : Int) + 1)))) := ((Keep.refl (fun i => i = G.g + 1) w).drewN nq).setCell (fun _ => rfl) _
  have c4' : ((w.drewN nq).setCell ⟨G.g + 1, 0, .none⟩ (.int .i64 ((c : Int) + 1))).cell? ⟨y, 4, .none⟩ = some (.bool (!G.st)) := by
    rw [World.cell?_setCell_other _ _ _ _ (by intro e; injection e with e1; exact y1 e1.symm)]; exact c4
  have sb' : ((w.drewN nq).setCell ⟨G.g + 1, 0, .none⟩ (.int .i64 ((c : Int) + 1))).cell? ⟨G.s, 0, .none⟩ = some (.bool G.st) := by
    rw [World.cell?_setCell_other _ _ _ _ (by intro e; injection e with e1; exact sg e1)]; exact sb
  clear c0 c3 c4 v0 v1 v2 sb cu fu HX HM HR
  generalize (w.drewN nq).setCell ⟨G.g + 1, 0, .none⟩ (.int .i64 ((c : Int) + 1)) = w2 at HM2 HK2 c4' sb' ⊢
  go_quiet (fail)
  go_wp2
  go_end0
  exact ⟨rfl, HK2.out.drewN _, HM2.out.drewN _⟩

set_option maxHeartbeats 1000000 in
set_option maxRecDepth 100000 in
theorem report_unused (G : Geo) (o : G.Ok) (w : World) (used : Nat → Bool) (c u n : Nat) (y x : Nat) (hf : Fix G w) (hm : Mut G w used c u n) (hu : n < 100000) (hp : Prb w y ⟨x, 0, .none⟩ true) (hx : w.cell? ⟨x, 1, .none⟩ = some (.iface 119 (.pointer (some G.a2)))) :
    Calls Ybaf.prog 5 #[.pointer (some ⟨y, 0, .none⟩), .pointer (some ⟨G.g + 3, 0, .none⟩), .pointer (some ⟨G.g + 1, 0, .none⟩), .pointer (some ⟨G.s, 0, .none⟩), .pointer (some ⟨G.g, 0, .none⟩), .pointer (some ⟨G.g + 2, 0, .none⟩)] w fun e w' =>
      e = .returned (.tuple #[]) ∧ Keep (fun i => i = G.g + 2) w w' ∧ Mut G w' used c u (n + 1) := by
  have y1 : y ≠ G.g + 2 := hp.ne hm.cn
  have HR := hide (rep_of hf hm hp)
  obtain ⟨c0, c3, c4, v0, v1, v2, sb, -, -, -, -, cu, fu, -, -, -⟩ := HR.out
  have HM := hide hm
  have HO := hide o
  have HX := hide hx
  clear hf hm o hx hp
  go_enter Ybaf.func5, Ybaf.ntmps5
  go_wp2
  go_quiet (first | (go_at_call 6; refine Calls.quiet_of_same (is0_other ?_ HO.out.n02.symm ?_ ?_); exact HX.out; exact HR.out.h0; exact HR.out.h2))
  go_wp2
  have HR1 := hide (HR.out.drewN nq)
  have HM1 := hide (HM.out.drewN nq)
  have HX1 : Hid ((w.drewN nq).cell? ⟨x, 1, .none⟩ = some (.iface 119 (.pointer (some G.a2)))) := HX
  have HK1 := hide ((Keep.refl (fun i => i = G.g + 2) w).drewN nq)
  clear c0 c3 c4 v0 v1 v2 sb cu fu
  obtain ⟨c0, c3, c4, v0, v1, v2, sb, -, -, -, -, cu, fu, -, -, -⟩ := HR1.out
  generalize w.drewN nq = w1 at HR1 HM1 HX1 HK1 c0 c3 c4 v0 v1 v2 sb cu fu ⊢
  go_quiet (first | (go_at_call 6; refine Calls.quiet_of_same (is1_other ?_ HO.out.n12.symm ?_ ?_); exact HX1.out; exact HR1.out.h1; exact HR1.out.h2))
  go_wp2
  have HR2 := hide (HR1.out.drewN nq)
  have HM3 := hide (HM1.out.drewN nq)
  have HX2 : Hid ((w1.drewN nq).cell? ⟨x, 1, .none⟩ = some (.iface 119 (.pointer (some G.a2)))) := HX1
  have HK3 := hide (HK1.out.drewN nq)
  clear c0 c3 c4 v0 v1 v2 sb cu fu
  obtain ⟨c0, c3, c4, v0, v1, v2, sb, -, -, -, -, cu, fu, -, -, -⟩ := HR2.out
  generalize w1.drewN nq = w3 at HR2 HM3 HX2 HK3 c0 c3 c4 v0 v1 v2 sb cu fu ⊢
  go_quiet (first | (go_at_call 6; refine Calls.quiet_of_same (is_wrap_same x 0 G.a2 _ ?_); exact HX2.out))
  have y2 : G.g + 2 ≠ y := fun e => y1 e.symm
  go_wp2
  go_end0
  exact ⟨rfl, (HK3.out.drewN nq).setCell (fun _ => rfl) _, (HM3.out.drewN nq).setN HO.out⟩
end Go.Proofs.YbulkatxsFmt.cnt
