/-
  Of LawS2267BCounts: cycle: the problem of a name that closes a cycle.
-/
import Derived.Test.YbulkatxsFmtCntUndef
namespace Go.Proofs.YbulkatxsFmt.cnt
open Go.ChangeShapes Go.WideShapes Go.ChangeAt Go.RowKit Go
open Go.Extern.Stop Go.Stop Go.Extern

theorem Cyc.keep {G : Geo} {w w' : World} {x : Nat} (h : Cyc G w x) (k : Keep No w w') : Cyc G w' x := by
  rcases h with h | ⟨z, h, h'⟩
  · exact .inl (k.got h)
  · exact .inr ⟨z, k.got h, k.got h'⟩

set_option maxHeartbeats 2000000 in
set_option maxRecDepth 100000 in
theorem cycle_same (F : Interp) (G : Geo) (o : G.Ok) (w : World) (used : Nat → Bool) (c u n : Nat) (a b : Nat) (i col : Int) (hF : F.answers w.tape) (hf : Fix G w) (hm : Mut G w used c u n) (ha : a < G.N) (hb : b < G.N) (hab : a = b) (hc0 : 0 ≤ col) (hc1 : col < 4294967296) :
    Calls Ybaf.prog 29 #[.pointer (some ⟨G.R, 0, .none⟩), .agg #[.int .i32 a, .int .i32 i, .int .u32 0, .int .u32 0, .int .u32 col], .int .i32 b, .bool G.st] w fun e w' =>
      ∃ y x : Nat, e = .returned (.pointer (some ⟨y, 0, .none⟩)) ∧ Keep No w w' ∧ Prb w' y ⟨x, 0, .none⟩ (!G.st) ∧ Cyc G w' x := by
  subst hab
  have v1 := hf.v0
  have r1 : w.cell? ⟨G.R, 1, .none⟩ = some (.slice (some ⟨G.K, 0, .none⟩) G.N G.N) := by simp [World.cell?, hf.rf]
  have r7 : w.cell? ⟨G.R, 7, .none⟩ = some (.pointer (some ⟨G.L, 0, .none⟩)) := by simp [World.cell?, hf.rf]
  have k0 := hm.k0 a ha
  obtain ⟨s, k1⟩ := hm.k1 a ha
  obtain ⟨ts, t1⟩ := hf.t0
  have q0 : (0 : Int) ≤ (a : Int) := by omega
  have q1 : (a : Int) < (G.N : Int) := by omega
  have q4 : ((a : Int) == (a : Int)) = true := by simp
  have q5 : ((a : Int) != (a : Int)) = false := by simp
  have z2 : 0 < w.heap.size := World.block_lt_of_cell? w _ v1
  have z3 : G.R < w.heap.size := lt_of_heap hf.rf
  have z4 : G.K < w.heap.size := World.block_lt_of_cell? w _ k0
  have HF := hide hF
  have HFX := hide hf
  have HT := hide t1
  have HO := hide o
  clear hF hf hm o t1
  go_enter Ybaf.func29, Ybaf.ntmps29
  go_wp2
  go_region_held3 (fun W => W.cell? ⟨0, 0, .none⟩ = some (.iface 119 (.pointer (some G.a0))) ∧ W.cell? ⟨G.R, 1, .none⟩ = some (.slice (some ⟨G.K, 0, .none⟩) G.N G.N) ∧ W.cell? ⟨G.K, a * 7, .none⟩ = some (.int .u8 0) ∧ W.cell? ⟨G.K, a * 7 + 1, .none⟩ = some (.string s) ∧ W.cell? ⟨w.heap.size, 0, .none⟩ = some (.int .i32 a))
    (go_keep)
    (first | (go_at_call 11; refine (errorfB F G.a0 (w.heap.size + 1) ts s _ ?_ ?_ ?_ ?_).mono ?_; exact HF.out; exact (((Keep.refl No w).alloc _).alloc _).drew.got HT.out; simp; simp; rintro e w1 ⟨x, t, rfl, hx0, hx1, hxt, hxe, hb⟩; have kk : Keep No w w1 := (((Keep.refl No w).alloc _).alloc _).drew.later hb; have KK := hide kk; have j1 := kk.got v1; have j3 := kk.got r1; have j4 := kk.got k0; have j5 := kk.got k1; have j6 : w1.cell? ⟨w.heap.size, 0, .none⟩ = some (.int .i32 a) := (hb.cell (by simp; omega)).trans (by simp); have j62 : w1.cell? ⟨w.heap.size, 2, .none⟩ = some (.int .u32 0) := (hb.cell (by simp; omega)).trans (by simp); have j63 : w1.cell? ⟨w.heap.size, 3, .none⟩ = some (.int .u32 0) := (hb.cell (by simp; omega)).trans (by simp); have j64 : w1.cell? ⟨w.heap.size, 4, .none⟩ = some (.int .u32 col) := (hb.cell (by simp; omega)).trans (by simp); clear kk; have HXE := hide hxe; have HXT := hide hxt; clear hb hxe hxt hx0 hx1))
  go_wp2
  have CY : Hid (Cyc G w1 x) := .inl HXE.out
  have KK1 : Hid (Keep No w1 w1) := Keep.refl _ _
  have p2 := KK.out.got r7
  have HFX1 := hide (HFX.out.keep HO.out (KK.out.then KK1.out fun _ _ h => h) fun i h => h.elim)
  have LG := hide (HFX1.out.lg)
  have NM := hide (HFX1.out.nm)
  clear v1 r1 k0 k1 z2 z3 z4 r7 j1 j3 j4 j5 j6
  go_region_held3 (fun W => W.cell? ⟨G.R, 7, .none⟩ = some (.pointer (some ⟨G.L, 0, .none⟩)) ∧ W.cell? ⟨w.heap.size, 2, .none⟩ = some (.int .u32 0) ∧ W.cell? ⟨w.heap.size, 3, .none⟩ = some (.int .u32 0) ∧ W.cell? ⟨w.heap.size, 4, .none⟩ = some (.int .u32 col))
    (go_keep)
    (first
      | (go_at_call 13; refine (place_any G.L G.M ⟨#[102]⟩ 0 col _ ?_ ?_ (by omega) (by omega) hc0 hc1).mono ?_; exact LG.out; exact NM.out; rintro e w2 ⟨rfl, hb⟩; have kk : Keep No w1 w2 := (Keep.refl No w1).drew.later hb; have KK2 := hide kk; have j5 := kk.got p2; have j6 := kk.got j62; have j7 := kk.got j63; have j8 := kk.got j64; clear kk hb)
      | (go_at_call 12; refine (newProblem_any ⟨#[102]⟩ 0 col ⟨x, 0, .none⟩ (!G.st) _).mono ?_; rintro e w3 ⟨y, rfl, -, hb, hy⟩; have kk : Keep No w1 w3 := KK2.out.later hb; have KK3 := hide kk; have PB : Hid (Prb w3 y ⟨x, 0, .none⟩ (!G.st)) := ⟨_, _, hy⟩; have i5 := kk.got p2; have i6 := kk.got j62; have i7 := kk.got j63; have i8 := kk.got j64; clear kk hb hy))
  go_wp2
  go_ret
  exact ⟨y, x, rfl, (KK.out.then KK1.out fun _ _ h => h).then KK3.out (fun _ _ h => h), PB.out, CY.out.keep KK3.out⟩

set_option maxHeartbeats 2000000 in
set_option maxRecDepth 100000 in
theorem cycle_other (F : Interp) (G : Geo) (o : G.Ok) (w : World) (used : Nat → Bool) (c u n : Nat) (a b : Nat) (i col : Int) (hF : F.answers w.tape) (hf : Fix G w) (hm : Mut G w used c u n) (ha : a < G.N) (hb : b < G.N) (hab : a ≠ b) (hc0 : 0 ≤ col) (hc1 : col < 4294967296) :
    Calls Ybaf.prog 29 #[.pointer (some ⟨G.R, 0, .none⟩), .agg #[.int .i32 a, .int .i32 i, .int .u32 0, .int .u32 0, .int .u32 col], .int .i32 b, .bool G.st] w fun e w' =>
      ∃ y x : Nat, e = .returned (.pointer (some ⟨y, 0, .none⟩)) ∧ Keep No w w' ∧ Prb w' y ⟨x, 0, .none⟩ (!G.st) ∧ Cyc G w' x := by
  have v1 := hf.v0
  have r1 : w.cell? ⟨G.R, 1, .none⟩ = some (.slice (some ⟨G.K, 0, .none⟩) G.N G.N) := by simp [World.cell?, hf.rf]
  have r7 : w.cell? ⟨G.R, 7, .none⟩ = some (.pointer (some ⟨G.L, 0, .none⟩)) := by simp [World.cell?, hf.rf]
  have k0 := hm.k0 a ha
  obtain ⟨s, k1⟩ := hm.k1 a ha
  obtain ⟨s', k1'⟩ := hm.k1 b hb
  obtain ⟨ts, t1⟩ := hf.t0
  have q0 : (0 : Int) ≤ (a : Int) := by omega
  have q1 : (a : Int) < (G.N : Int) := by omega
  have q2 : (0 : Int) ≤ (b : Int) := by omega
  have q3 : (b : Int) < (G.N : Int) := by omega
  have q4 : ((a : Int) == (b : Int)) = false := by simp; omega
  have q5 : ((a : Int) != (b : Int)) = true := by simp; omega
  have z2 : 0 < w.heap.size := World.block_lt_of_cell? w _ v1
  have z3 : G.R < w.heap.size := lt_of_heap hf.rf
  have z4 : G.K < w.heap.size := World.block_lt_of_cell? w _ k0
  have HF := hide hF
  have HFX := hide hf
  have HT := hide t1
  have HO := hide o
  clear hF hf hm o t1
  go_enter Ybaf.func29, Ybaf.ntmps29
  go_wp2
  go_region_held3 (fun W => W.cell? ⟨0, 0, .none⟩ = some (.iface 119 (.pointer (some G.a0))) ∧ W.cell? ⟨G.R, 1, .none⟩ = some (.slice (some ⟨G.K, 0, .none⟩) G.N G.N) ∧ W.cell? ⟨G.K, a * 7, .none⟩ = some (.int .u8 0) ∧ W.cell? ⟨G.K, a * 7 + 1, .none⟩ = some (.string s) ∧ W.cell? ⟨w.heap.size, 0, .none⟩ = some (.int .i32 a))
    (go_keep)
    (first | (go_at_call 11; refine (errorfB F G.a0 (w.heap.size + 1) ts s _ ?_ ?_ ?_ ?_).mono ?_; exact HF.out; exact (((Keep.refl No w).alloc _).alloc _).drew.got HT.out; simp; simp; rintro e w1 ⟨x, t, rfl, hx0, hx1, hxt, hxe, hb⟩; have kk : Keep No w w1 := (((Keep.refl No w).alloc _).alloc _).drew.later hb; have KK := hide kk; have j1 := kk.got v1; have j3 := kk.got r1; have j4 := kk.got k0; have j5 := kk.got k1; have j51 := kk.got k1'; have j6 : w1.cell? ⟨w.heap.size, 0, .none⟩ = some (.int .i32 a) := (hb.cell (by simp; omega)).trans (by simp); have j62 : w1.cell? ⟨w.heap.size, 2, .none⟩ = some (.int .u32 0) := (hb.cell (by simp; omega)).trans (by simp); have j63 : w1.cell? ⟨w.heap.size, 3, .none⟩ = some (.int .u32 0) := (hb.cell (by simp; omega)).trans (by simp); have j64 : w1.cell? ⟨w.heap.size, 4, .none⟩ = some (.int .u32 col) := (hb.cell (by simp; omega)).trans (by simp); clear kk; have HXE := hide hxe; have HXT := hide hxt; clear hb hxe hxt hx0 hx1))
  have y1 : x < w1.heap.size := World.block_lt_of_cell? w1 _ HXT.out
  have y2 : w.heap.size < w1.heap.size := World.block_lt_of_cell? w1 _ j6
  have y3 : G.R < w1.heap.size := Nat.lt_of_lt_of_le z3 KK.out.size
  have y4 : G.K < w1.heap.size := Nat.lt_of_lt_of_le z4 KK.out.size
  go_wp2_with fail
  refine (errorfC F x w1.heap.size t s' _ ?_ ?_ ?_ ?_).mono ?_
  · show F.answers w1.tape; rw [KK.out.tape]; exact HF.out
  · exact ((Keep.refl No w1).alloc _).got HXT.out
  · simp
  · simp
  rintro e w5 ⟨x', t', rfl, -, hx1', hxt', hxe', hb'⟩
  have CY : Hid (Cyc G w5 x') := .inr ⟨x, hxe', (((Keep.refl No w1).alloc _).later hb').got HXE.out⟩
  have KK1 : Hid (Keep No w1 w5) := ((Keep.refl No w1).alloc _).later hb'
  have p2 := KK1.out.got (KK.out.got r7)
  have i62 := KK1.out.got j62
  have i63 := KK1.out.got j63
  have i64 := KK1.out.got j64
  clear hxt' hxe' hb' hx1' y1 y2 y3 y4 j62 j63 j64
  go_wp2
  have HFX1 := hide (HFX.out.keep HO.out (KK.out.then KK1.out fun _ _ h => h) fun i h => h.elim)
  have LG := hide (HFX1.out.lg)
  have NM := hide (HFX1.out.nm)
  clear v1 r1 k0 k1 z2 z3 z4 r7 j1 j3 j4 j5 j6 j51 k1'
  go_region_held3 (fun W => W.cell? ⟨G.R, 7, .none⟩ = some (.pointer (some ⟨G.L, 0, .none⟩)) ∧ W.cell? ⟨w.heap.size, 2, .none⟩ = some (.int .u32 0) ∧ W.cell? ⟨w.heap.size, 3, .none⟩ = some (.int .u32 0) ∧ W.cell? ⟨w.heap.size, 4, .none⟩ = some (.int .u32 col))
    (go_keep)
    (first
      | (go_at_call 13; refine (place_any G.L G.M ⟨#[102]⟩ 0 col _ ?_ ?_ (by omega) (by omega) hc0 hc1).mono ?_; exact LG.out; exact NM.out; rintro e w2 ⟨rfl, hb⟩; have kk : Keep No w5 w2 := (Keep.refl No w5).drew.later hb; have KK2 := hide kk; have j5 := kk.got p2; have j6 := kk.got i62; have j7 := kk.got i63; have j8 := kk.got i64; clear kk hb)
      | (go_at_call 12; refine (newProblem_any ⟨#[102]⟩ 0 col ⟨x', 0, .none⟩ (!G.st) _).mono ?_; rintro e w3 ⟨y, rfl, -, hb, hy⟩; have kk : Keep No w5 w3 := KK2.out.later hb; have KK3 := hide kk; have PB : Hid (Prb w3 y ⟨x', 0, .none⟩ (!G.st)) := ⟨_, _, hy⟩; have i5 := kk.got p2; have i6 := kk.got i62; have i7 := kk.got i63; have i8 := kk.got i64; clear kk hb hy))
  go_wp2
  go_ret
  exact ⟨y, x', rfl, (KK.out.then KK1.out fun _ _ h => h).then KK3.out (fun _ _ h => h), PB.out, CY.out.keep KK3.out⟩

end Go.Proofs.YbulkatxsFmt.cnt
