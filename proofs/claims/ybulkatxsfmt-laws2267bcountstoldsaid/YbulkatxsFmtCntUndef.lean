/-
  Of LawS2267BCounts: the closure 'undefined' of problems.
-/
import Derived.Test.YbulkatxsFmtCntProb
import Derived.Deep.RegionHeld3
namespace Go.Proofs.YbulkatxsFmt.cnt
open Go.ChangeShapes Go.WideShapes Go.ChangeAt Go.RowKit Go
open Go.Extern.Stop Go.Stop Go.Extern

theorem Keep.later {w W : World} (k : Keep No w W) {w1 : World} (hb : Below W.heap.size W w1) : Keep No w w1 := k.then (Keep.of_below hb) fun _ _ h => h
theorem Keep.got {w W : World} (k : Keep No w W) {p : Addr} {v : Value} (h : w.cell? p = some v) : W.cell? p = some v := (k.cell (World.block_lt_of_cell? w _ h) (fun h => h)).trans h

theorem Keep.got1 {g : Nat} {w W : World} (k : Keep (fun i => i = g) w W) {p : Addr} {v : Value} (hne : p.block ≠ g) (h : w.cell? p = some v) : W.cell? p = some v := (k.cell (World.block_lt_of_cell? w _ h) hne).trans h
theorem Boxed.apart {w : World} {b b' : Nat} {t t' : TypeId} {v v' : Value} (h : Boxed w b t v) (h' : Boxed w b' t' v') (ht : t ≠ t') : b ≠ b' := by
  rintro rfl
  have := (show w.heap[b]? = _ from h).symm.trans h'
  simp at this
  exact ht this.2

set_option maxHeartbeats 2000000 in
set_option maxRecDepth 100000 in
theorem undefined_any (F : Interp) (G : Geo) (o : G.Ok) (w : World) (used : Nat → Bool) (c u n : Nat) (br bp bs a : Nat) (i col : Int) (hF : F.answers w.tape) (hf : Fix G w) (hm : Mut G w used c u n) (hu : u < 100000) (ha : a < G.N)
    (hbr : Boxed w br 39 (.pointer (some ⟨G.R, 0, .none⟩))) (hbp : Boxed w bp 42 G.rep) (hbs : Boxed w bs 4 (.bool G.st)) (hc0 : 0 ≤ col) (hc1 : col < 4294967296) :
    Calls Ybaf.prog 10 #[.agg #[.int .i32 a, .int .i32 i, .int .u32 0, .int .u32 0, .int .u32 col], .pointer (some ⟨br, 0, .none⟩), .pointer (some ⟨bp, 0, .none⟩), .pointer (some ⟨bs, 0, .none⟩)] w fun e w' =>
      e = .returned (.tuple #[]) ∧ Keep (fun i => i = G.g) w w' ∧ Mut G w' used c (u + 1) n := by
  have r0 := hbr.cell
  have v1 := hf.v1
  have r1 : w.cell? ⟨G.R, 1, .none⟩ = some (.slice (some ⟨G.K, 0, .none⟩) G.N G.N) := by simp [World.cell?, hf.rf]
  have r7 : w.cell? ⟨G.R, 7, .none⟩ = some (.pointer (some ⟨G.L, 0, .none⟩)) := by simp [World.cell?, hf.rf]
  have k0 := hm.k0 a ha
  obtain ⟨s, k1⟩ := hm.k1 a ha
  obtain ⟨ts, t1⟩ := hf.t1
  have q0 : (0 : Int) ≤ (a : Int) := by omega
  have q1 : (a : Int) < (G.N : Int) := by omega
  have z1 : br < w.heap.size := hbr.lt
  have z2 : 1 < w.heap.size := World.block_lt_of_cell? w _ v1
  have z3 : G.R < w.heap.size := lt_of_heap hf.rf
  have z4 : G.K < w.heap.size := World.block_lt_of_cell? w _ k0
  have e1 : bp ≠ G.g := Boxed.apart hbp hm.cu (by decide)
  have e2 : br ≠ G.g := Boxed.apart hbr hm.cu (by decide)
  have e3 : bs ≠ G.g := Boxed.apart hbs hm.cu (by decide)
  have e4 : G.R ≠ G.g := by have := o.rg; omega
  have e5 : w.heap.size ≠ G.g := by have := hf.sz; omega
  have HE := hide (And.intro e1 (And.intro e2 (And.intro e3 (And.intro e4 e5))))
  clear e1 e2 e3 e4 e5
  have HF := hide hF
  have HFX := hide hf
  have HM := hide hm
  have HO := hide o
  have HBR := hide hbr
  have HBP := hide hbp
  have HBS := hide hbs
  have HT := hide t1
  clear hF hf hm o hbr hbp hbs t1
  go_enter Ybaf.func10, Ybaf.ntmps10
  go_wp2
  go_region_held3 (fun W => W.cell? ⟨1, 0, .none⟩ = some (.iface 119 (.pointer (some G.a1))) ∧ W.cell? ⟨br, 0, .none⟩ = some (.pointer (some ⟨G.R, 0, .none⟩)) ∧ W.cell? ⟨G.R, 1, .none⟩ = some (.slice (some ⟨G.K, 0, .none⟩) G.N G.N) ∧ W.cell? ⟨G.K, a * 7, .none⟩ = some (.int .u8 0) ∧ W.cell? ⟨G.K, a * 7 + 1, .none⟩ = some (.string s) ∧ W.cell? ⟨w.heap.size, 0, .none⟩ = some (.int .i32 a))
    (go_keep)
    (first | (go_at_call 11; refine (errorfA F G.a1 (w.heap.size + 1) ts s _ ?_ ?_ ?_ ?_).mono ?_; exact HF.out; exact (((Keep.refl No w).alloc _).alloc _).drew.got HT.out; simp; simp; rintro e w1 ⟨x, t, rfl, hx0, hx1, hxt, hxe, hb⟩; have kk : Keep No w w1 := (((Keep.refl No w).alloc _).alloc _).drew.later hb; have KK := hide kk; have j1 := kk.got v1; have j2 := kk.got r0; have j3 := kk.got r1; have j4 := kk.got k0; have j5 := kk.got k1; have j6 : w1.cell? ⟨w.heap.size, 0, .none⟩ = some (.int .i32 a) := (hb.cell (by simp; omega)).trans (by simp); have j62 : w1.cell? ⟨w.heap.size, 2, .none⟩ = some (.int .u32 0) := (hb.cell (by simp; omega)).trans (by simp); have j63 : w1.cell? ⟨w.heap.size, 3, .none⟩ = some (.int .u32 0) := (hb.cell (by simp; omega)).trans (by simp); have j64 : w1.cell? ⟨w.heap.size, 4, .none⟩ = some (.int .u32 col) := (hb.cell (by simp; omega)).trans (by simp); clear kk; have HB := hide hb; have HXE := hide hxe; have HX1 := hide (And.intro hx0 hx1); clear hb hxe hxt hx0 hx1))
  go_wp2
  have HF1 := hide (show F.answers w1.tape by rw [KK.out.tape]; exact HF.out)
  have HFX1 := hide (HFX.out.keep HO.out KK.out fun i h => h.elim)
  have HM1 := hide (HM.out.keep KK.out HO.out.n0 fun i h => h.elim)
  have p0 : w1.cell? ⟨bp, 0, .none⟩ = some (.func (.func 5) #[] #[.pointer (some ⟨G.g + 3, 0, .none⟩), .pointer (some ⟨G.g + 1, 0, .none⟩), .pointer (some ⟨G.s, 0, .none⟩), .pointer (some ⟨G.g, 0, .none⟩), .pointer (some ⟨G.g + 2, 0, .none⟩)]) := KK.out.got HBP.out.cell
  have p1 := KK.out.got HBS.out.cell
  have p2 := KK.out.got r7
  have LG := hide (HFX1.out.lg)
  have NM := hide (HFX1.out.nm)
  clear r0 v1 r1 k0 k1 z1 z2 z3 z4 r7 j1 j3 j4 j5 j6
  go_region_held3 (fun W => W.cell? ⟨bp, 0, .none⟩ = some (.func (.func 5) #[] #[.pointer (some ⟨G.g + 3, 0, .none⟩), .pointer (some ⟨G.g + 1, 0, .none⟩), .pointer (some ⟨G.s, 0, .none⟩), .pointer (some ⟨G.g, 0, .none⟩), .pointer (some ⟨G.g + 2, 0, .none⟩)]) ∧ W.cell? ⟨br, 0, .none⟩ = some (.pointer (some ⟨G.R, 0, .none⟩)) ∧ W.cell? ⟨bs, 0, .none⟩ = some (.bool G.st) ∧ W.cell? ⟨G.R, 7, .none⟩ = some (.pointer (some ⟨G.L, 0, .none⟩)) ∧ W.cell? ⟨w.heap.size, 2, .none⟩ = some (.int .u32 0) ∧ W.cell? ⟨w.heap.size, 3, .none⟩ = some (.int .u32 0) ∧ W.cell? ⟨w.heap.size, 4, .none⟩ = some (.int .u32 col))
    (go_keep)
    (first
      | (go_at_call 13; refine (place_any G.L G.M ⟨#[102]⟩ 0 col _ ?_ ?_ (by omega) (by omega) hc0 hc1).mono ?_; exact LG.out; exact NM.out; rintro e w2 ⟨rfl, hb⟩; have kk : Keep No w1 w2 := (Keep.refl No w1).drew.later hb; have KK2 := hide kk; have j1 := kk.got p0; have j3 := kk.got j2; have j4 := kk.got p1; have j5 := kk.got p2; have j6 := kk.got j62; have j7 := kk.got j63; have j8 := kk.got j64; clear kk hb)
      | (go_at_call 12; refine (newProblem_any ⟨#[102]⟩ 0 col ⟨x, 0, .none⟩ (!G.st) _).mono ?_; rintro e w3 ⟨y, rfl, -, hb, hy⟩; have kk : Keep No w1 w3 := KK2.out.later hb; have KK3 := hide kk; have PB : Hid (Prb w3 y ⟨x, 0, .none⟩ (!G.st)) := ⟨_, _, hy⟩; have i1 := kk.got p0; have i3 := kk.got j2; have i4 := kk.got p1; have i5 := kk.got p2; have i6 := kk.got j62; have i7 := kk.got j63; have i8 := kk.got j64; clear kk hb hy)
      | (go_at_call 5; refine (report_undef G HO.out _ used c u n y x ?_ ?_ hu ?_ ?_).mono ?_; exact HFX1.out.keep HO.out KK3.out (fun _ h => h.elim); exact HM1.out.keep KK3.out HO.out.n0 (fun _ h => h.elim); exact PB.out; exact KK3.out.got HXE.out; rintro e w4 ⟨rfl, hk, hmu⟩; have HK4 := hide hk; have HM4 := hide hmu; have m1 := hk.got1 (p := ⟨bp, 0, .none⟩) HE.out.1 i1; have m2 := hk.got1 (p := ⟨br, 0, .none⟩) HE.out.2.1 i3; have m3 := hk.got1 (p := ⟨bs, 0, .none⟩) HE.out.2.2.1 i4; have m4 := hk.got1 (p := ⟨G.R, 7, .none⟩) HE.out.2.2.2.1 i5; have m5 := hk.got1 (p := ⟨w.heap.size, 2, .none⟩) HE.out.2.2.2.2 i6; have m6 := hk.got1 (p := ⟨w.heap.size, 3, .none⟩) HE.out.2.2.2.2 i7; have m7 := hk.got1 (p := ⟨w.heap.size, 4, .none⟩) HE.out.2.2.2.2 i8; clear hk hmu))
  go_end0
  exact ⟨rfl, (((KK.out.mono (fun _ _ h => h.elim)).then KK3.out (fun _ _ h => h.elim)).then HK4.out (fun _ _ h => h)), HM4.out⟩
end Go.Proofs.YbulkatxsFmt.cnt
