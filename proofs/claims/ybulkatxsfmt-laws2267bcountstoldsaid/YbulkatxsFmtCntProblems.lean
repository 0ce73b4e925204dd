/-
  Of LawS2267BCounts: problems.
-/
import Derived.Test.YbulkatxsFmtCntPro
import Derived.Laws.EntriesVeiled
import Derived.Sort.QuietIn
namespace Go.Proofs.YbulkatxsFmt.cnt
open Go.ChangeShapes Go.WideShapes Go.ChangeAt Go.RowKit Go
open Go.Extern.Stop Go.Stop Go.Extern
open Go.Shelf
attribute [local go_sem] Oper.semAt_some

theorem info74 : (Ybaf.prog.info? 74).map (fun i => (i.zero, i.size, i.bytes)) = some (some (.agg #[.int .i32 0, .int .i32 0, .int .u32 0, .int .u32 0, .int .u32 0]), 5, 20) := by kernel_rfl
theorem cell_five_new (w : World) (h : Hu) (t : TypeId) : ∀ j u, (five h)[j]? = some u → (w.alloc (.cells #[.int .i32 h.a, .int .i32 h.i, .int .u32 0, .int .u32 0, .int .u32 h.c] t)).cell? ((⟨w.heap.size, 0, none⟩ : Addr).add j) = some u := by
  intro j u hj
  have hadd : (⟨w.heap.size, 0, none⟩ : Addr).add j = ⟨w.heap.size, j, none⟩ := by unfold Addr.add; split <;> simp_all
  rw [hadd, cell_new_at _ _ _ _ rfl, ← hj]
  simp [five]
def startS (L : List Hu) (used : Nat → Bool) (l : List Nat) : List Nat := (l.filter fun d => used d && !(ofL L d).isEmpty).reverse
theorem startS_succ {L : List Hu} {used : Nat → Bool} {l : List Nat} {k d : Nat} (h : l[k]? = some d) : startS L used (l.take (k + 1)) = if (used d && !(ofL L d).isEmpty) = true then d :: startS L used (l.take k) else startS L used (l.take k) := by
  unfold startS
  rw [List.take_add_one, h, Option.toList_some, List.filter_append, List.reverse_append]
  by_cases e : (used d && !(ofL L d).isEmpty) = true <;> simp [e]
theorem startS_le {L : List Hu} {used : Nat → Bool} {l : List Nat} {k : Nat} : (startS L used (l.take k)).length ≤ l.length := by
  unfold startS
  rw [List.length_reverse]
  exact Nat.le_trans (List.length_filter_le _ _) (List.length_take_le' k l)
theorem Rea.start {G : Geo} (o : G.Ok) {L : List Hu} {used0 : Nat → Bool} {u0 : Nat} : Rea L G.N G.dfn used0 u0 (startS L used0 G.defs) [] used0 u0 := by
  have hm : ∀ n, n ∈ startS L used0 G.defs ↔ n ∈ G.defs ∧ used0 n = true ∧ ofL L n ≠ [] := fun n => by
    simp [startS, List.mem_filter]
  refine ⟨fun _ h => h, fun n h => .base n h, fun n h1 h2 h3 h4 => .inl ((hm n).2 ⟨(o.dN n).2 ⟨h1, h3⟩, h2, h4⟩), fun n h => ⟨((hm n).1 h).2.1, ((o.dN n).1 ((hm n).1 h).1).1⟩, by simp, ?_, by simp, by simp [sumF]⟩
  rw [List.append_nil]
  exact (List.reverse_perm _).nodup_iff.2 (o.dn.filter _)

def Re2 (G : Geo) (w : World) (gb : Nat) (a : Option Addr) (cap : Nat) (L : List Hu) (used0 : Nat → Bool) (u0 Bw n : Nat) (v : Value) (wr : World) : Prop :=
  ∃ S F used u, Pro G w gb a cap L used 0 u 0 wr ∧ Stk w gb Bw v S wr ∧ Rea L G.N G.dfn used0 u0 S F used u ∧ 2 * unusedN G.N used + S.length = n
def In3 (G : Geo) (w : World) (gb : Nat) (a : Option Addr) (cap : Nat) (L : List Hu) (used0 : Nat → Bool) (u0 Bw n nm : Nat) (F : List Nat) (names : Value) (k : Nat) (v : Value) (wr : World) : Prop :=
  ∃ P Q S used u, P.length = k ∧ Pro G w gb a cap L used 0 u 0 wr ∧ Stk w gb Bw v S wr ∧ ReaI L G.N G.dfn used0 u0 nm P Q S F used u ∧ HSl wr gb names (ofL L nm) ∧ 2 * unusedN G.N used + S.length < n

theorem Rch.mono {H H' : List Hu} {dfn used0 : Nat → Bool} (h : ∀ x ∈ H, x ∈ H') {n : Nat} (r : Rch H dfn used0 n) : Rch H' dfn used0 n := by
  induction r with
  | base n hn => exact .base n hn
  | step x hx _ hd ih => exact .step x (h x hx) ih hd
theorem Rch.perm {H H' : List Hu} {dfn used0 : Nat → Bool} (h : H.Perm H') {n : Nat} : Rch H dfn used0 n ↔ Rch H' dfn used0 n := ⟨Rch.mono fun _ hx => h.mem_iff.1 hx, Rch.mono fun _ hx => h.mem_iff.2 hx⟩
theorem Ring.mono {H H' : List Hu} {N : Nat} {dfn used : Nat → Bool} (h : ∀ x ∈ H, x ∈ H') (r : Ring H N dfn used) : Ring H' N dfn used := by
  obtain ⟨X, hX, hall⟩ := r
  refine ⟨X, hX, fun x hx => ?_⟩
  obtain ⟨h1, h2, h3, e, he, hei, hea⟩ := hall x hx
  exact ⟨h1, h2, h3, e, h e he, hei, hea⟩
theorem Ring.perm {H H' : List Hu} {N : Nat} {dfn used : Nat → Bool} (h : H.Perm H') : Ring H N dfn used ↔ Ring H' N dfn used := ⟨Ring.mono fun _ hx => h.mem_iff.1 hx, Ring.mono fun _ hx => h.mem_iff.2 hx⟩
theorem heldCnt_perm {H H' : List Hu} {dfn used : Nat → Bool} (h : H.Perm H') : heldCnt H dfn used = heldCnt H' dfn used := (h.filter _).length_eq
theorem info21 : (Ybaf.prog.info? 21).map (fun i => (i.zero, i.size, i.bytes)) = some (some (.int .i32 0), 1, 4) := by kernel_rfl

set_option maxHeartbeats 4000000 in
set_option maxRecDepth 100000 in
theorem problems_any (F0 : Interp) (G : Geo) (o : G.Ok) (w : World) (used0 : Nat → Bool) (us : List Us) (Y : Nat) (hF : F0.answers w.tape) (hf : Fix G w) (hm : Mut G w used0 0 0 0)
    (hlog : ((us = [] ∧ w.cell? ⟨G.R, 3, .none⟩ = some (.slice .none 0 0)) ∨ ∃ X bs, w.cell? ⟨G.R, 3, .none⟩ = some (.slice (some ⟨X, 0, .none⟩) 1 1) ∧ w.cell? ⟨X, 0, .none⟩ = some bs ∧ BSl w Y bs (bytesOf us) ∧ Y < w.heap.size)) (hYg : Y ≠ G.g) (hYl : Y < w.heap.size)
    (hlen : us.length ≤ 512) (hus : ∀ u ∈ us, u.a < G.N ∧ u.p ≤ G.N ∧ (u.p ≠ 0 → G.dfn (u.p - 1) = true) ∧ u.c ≤ 512) :
    Calls Ybaf.prog 7 #[.pointer (some ⟨G.R, 0, .none⟩), .bool G.st, G.rep] w fun e w' => e = .returned (.tuple #[]) ∧ ∃ used c u n, Keep (Cnt4 G) w w' ∧ Mut G w' used c u n ∧
      (∀ n, used n = true ↔ Rch (heldOf us) G.dfn used0 n) ∧ u = topCnt G.dfn us + heldCnt (heldOf us) G.dfn used ∧ (0 < c ↔ Ring (heldOf us) G.N G.dfn used) ∧ n = (G.defs.filter fun d => !used d).length := by
  obtain ⟨i0, hi0, hz0, hz1, hz2⟩ := info_parts info74
  obtain ⟨i1, hi1, hy0, hy1, hy2⟩ := info_parts info21
  have r3 : w.cell? ⟨G.R, 3, .none⟩ = some G.bv := by simp [World.cell?, hf.rf]
  have z1 : G.R < w.heap.size := lt_of_heap hf.rf
  have sz := hf.sz
  have hN8 := o.n8
  have HF := hide hF
  have HFX := hide hf
  have HM := hide hm
  have HO := hide o
  have HLG := hide hlog
  have HUS := hide hus
  clear hF hf hm o hlog hus
  unfold Geo.rep
  refine (callsIn_wide (n := 3)).1 ?_
  refine callsIn_of_wp_marks Ybaf.func7 rfl trivial ?_ rfl
  simp only [Ybaf.ntmps7, List.size_toArray, List.length_cons, List.length_nil, Nat.reduceAdd, Nat.reduceSub, Array.replicate_succ, Array.replicate_zero, List.push_toArray, List.append_toArray, List.nil_append, List.cons_append]
  refine wpIn_wide.2 ?_
  go_wp2
  simp only [Nat.add_assoc, Nat.reduceAdd]
  generalize hW0 : ((((((w.alloc (.cells #[.pointer (some ⟨G.R, 0, .none⟩)] 39)).alloc (.cells #[.bool G.st] 4)).alloc (.cells #[.func (.func 5) #[] #[.pointer (some ⟨G.g + 3, 0, .none⟩), .pointer (some ⟨G.g + 1, 0, .none⟩), .pointer (some ⟨G.s, 0, .none⟩), .pointer (some ⟨G.g, 0, .none⟩), .pointer (some ⟨G.g + 2, 0, .none⟩)]] 42)).alloc
    (.cells #[.func (.func 10) #[] #[.pointer (some ⟨w.heap.size, 0, .none⟩), .pointer (some ⟨w.heap.size + 2, 0, .none⟩), .pointer (some ⟨w.heap.size + 1, 0, .none⟩)]] 80)).alloc (.cells #[.slice .none 0 0] 82)).alloc (.cells #[.pointer (some ⟨G.R, 3, .none⟩)] 105)) = W0
  have K0 : Keep No w W0 := by rw [← hW0]; exact ((((((Keep.refl No w).alloc _).alloc _).alloc _).alloc _).alloc _).alloc _
  have S0 : W0.heap.size = w.heap.size + 6 := by rw [← hW0]; simp
  have U0 : W0.cell? ⟨w.heap.size + 5, 0, .none⟩ = some (.pointer (some ⟨G.R, 3, .none⟩)) := by rw [← hW0]; exact cell_new_at _ _ _ _ (by simp) 0
  have C0 : Col G w used0 [] W0 := by
    refine ⟨K0.mono (fun _ _ h => h.elim), HM.out.keep K0 HO.out.n0 (fun _ h => h.elim), ?_, ?_, ?_, ?_, .slice .none 0 0, ?_, World.ownsRow_nil _ _ _ _, fun _ => rfl⟩
    · show _ = _; rw [← hW0]; exact heap_alloc_lt (heap_alloc_lt (heap_alloc_lt (heap_alloc_lt (heap_alloc_lt (heap_alloc_at _ _ _ rfl) _) _) _) _) _
    · show _ = _; rw [← hW0]; exact heap_alloc_lt (heap_alloc_lt (heap_alloc_lt (heap_alloc_lt (heap_alloc_at _ _ _ (by simp)) _) _) _) _
    · show _ = _; rw [← hW0]; exact heap_alloc_lt (heap_alloc_lt (heap_alloc_lt (heap_alloc_at _ _ _ (by simp)) _) _) _
    · show _ = _; rw [← hW0]; exact heap_alloc_lt (heap_alloc_lt (heap_alloc_at _ _ _ (by simp)) _) _
    · show _ = _; rw [← hW0]; exact heap_alloc_lt (heap_alloc_at _ _ _ (by simp)) _
  have HK0 := hide K0
  have HC0 := hide C0
  clear hW0 K0 C0
  refine (wpIn_wide (n := 3)).1 ?_
  refine range_uses8 (U := w.heap.size + 5) (Rr := G.R) (Y := Y) us ?ok rfl ?log (fun pre W => Col G w used0 pre W) ?hI HC0.out (Tb G w.heap.size) ?tY ?t4 ?assign ?body ?done
  case ok =>
    intro u hu
    have := HUS.out u hu
    exact ⟨by omega, by omega, by omega⟩
  case log =>
    refine ⟨U0, ?_⟩
    rcases HLG.out with ⟨rfl, h⟩ | ⟨X, bs, h1, h2, h3, h4⟩
    · exact .inl ⟨rfl, HK0.out.got h⟩
    · exact .inr ⟨X, bs, HK0.out.got h1, HK0.out.got h2, h3.keep HK0.out (fun h => h), by omega⟩
  case hI =>
    intro pre W W' hc hk
    rw [S0] at hk
    exact hc.four HO.out sz hk
  case tY =>
    rintro (h | h | h) <;> omega
  case t4 =>
    rintro i h ⟨h1, h2⟩
    rw [S0] at h1 h2
    rcases h with h | h | h <;> omega
  case assign =>
    intro l u W K hK
    simp only [Us.val, usCells, List.setIfInBounds_toArray, List.set_cons_succ, List.set_cons_zero] at hK ⊢
    gi_wp2
    exact hK
  case body =>
    intro l pre u rest bx W hu hc hs hb hx
    simp only [Us.val, List.setIfInBounds_toArray, List.set_cons_succ, List.set_cons_zero]
    have x0 : W.cell? ⟨bx, 0, .none⟩ = some (.int .i32 u.a) := by simp [World.cell?, hx, usCells]
    have x1 : W.cell? ⟨bx, 1, .none⟩ = some (.int .i32 ((u.p : Int) - 1)) := by simp [World.cell?, hx, usCells]
    have x2 : W.cell? ⟨bx, 2, .none⟩ = some (.int .u32 0) := by simp [World.cell?, hx, usCells]
    have x3 : W.cell? ⟨bx, 3, .none⟩ = some (.int .u32 0) := by simp [World.cell?, hx, usCells]
    have x4 : W.cell? ⟨bx, 4, .none⟩ = some (.int .u32 u.c) := by simp [World.cell?, hx, usCells]
    obtain ⟨v, hv, hr, -⟩ := hc.b7
    by_cases hp : u.p = 0
    · rw [show (u.p : Int) - 1 = -1 by omega] at x1 ⊢
      have huN : u.a < G.N := (HUS.out u (by rw [hu]; simp)).1
      have huC : u.c ≤ 512 := (HUS.out u (by rw [hu]; simp)).2.2.2
      have fx := HFX.out.keep HO.out hc.keep (fun i hi => free_g HO.out (by omega))
      have y0 := hc.b3.cell
      have y1 : W.cell? ⟨G.R, 1, .none⟩ = some (.slice (some ⟨G.K, 0, .none⟩) G.N G.N) := by simp [World.cell?, fx.rf]
      have y2 := hc.mt.k5 u.a huN
      have q1 : (0 : Int) ≤ (u.a : Int) := by omega
      have q2 : (u.a : Int) < (G.N : Int) := by omega
      have HV := hide hv
      have HR := hide hr
      have HC := hide hc
      have HP := hide hp
      have HFX2 := hide fx
      have hmix : Ybaf.prog.follows Departure.mixedOrders = true := by kernel_rfl
      have y3 := hc.b6.cell
      unfold clo at y3
      have huu : topCnt G.dfn pre < 100000 := by
        have h1 := topCnt_le (dfn := G.dfn) pre
        have h2 : us.length = pre.length + (rest.length + 1) := by rw [hu]; simp
        omega
      have TP : Hid (F0.answers W.tape) := by show F0.answers W.tape; rw [hc.keep.tape]; exact HF.out
      have q3 : (0 : Int) ≤ (u.c : Int) := by omega
      have q4 : (u.c : Int) < 4294967296 := by omega
      cases hd : G.dfn u.a
      · rw [hd] at y2
        have HD := hide hd
        clear hv hr hc hu hx hp fx hd
        gi_wp2
        gi_region_with_o (fail)
        all_goals gi_wp2_with fail
        all_goals refine ⟨trivial, (CallsIn.inRound l (callsIn_wide.2 (undefined_any F0 G HO.out W.drew used0 0 (topCnt G.dfn pre) 0 w.heap.size (w.heap.size + 2) (w.heap.size + 1) u.a (-1) u.c TP.out (HFX2.out.keep HO.out (Keep.refl No _).drew (fun _ h => h.elim)) (HC.out.mt.keep (Keep.refl No _).drew HO.out.n0 (fun _ h => h.elim)) huu huN HC.out.b3 HC.out.b5 HC.out.b4 q3 q4))).mono ?_⟩
        all_goals
          rintro e w5 ⟨rfl, hk5, hm5⟩
          have HCT := hide ((HC.out.no HO.out sz (Keep.refl No W).drew).told sz HP.out HD.out hk5 hm5)
          have HKT := hide (((Keep.refl (Tb G w.heap.size) W).drew).then hk5 (fun _ _ h => .inr (.inl h)))
          clear hk5 hm5
          gi_wp2
          exact ⟨HCT.out, HKT.out⟩
      · rw [hd] at y2
        have HD := hide hd
        clear hv hr hc hu hx hp fx hd
        gi_wp2
        gi_region_with_o (fail)
        all_goals gi_wp2
        all_goals exact ⟨(HC.out.no HO.out sz (Keep.refl No W).drew).skipU HP.out HD.out, (Keep.refl _ W).drew⟩
    · obtain ⟨pi, hpi⟩ : ∃ pi, u.p = pi + 1 := ⟨u.p - 1, by omega⟩
      rw [show (u.p : Int) - 1 = (pi : Int) by omega] at x1 ⊢
      have q0 : ((pi : Int) != -1) = true := by simp
      obtain ⟨av, cv, hav⟩ : ∃ av cv, v = .slice av (heldOf pre).length cv := by
        rcases hr.2 with ⟨h, h'⟩ | ⟨g, cap, cur, h, _⟩
        · exact ⟨_, _, by rw [h, h']⟩
        · exact ⟨_, _, h⟩
      subst hav
      have x5 := hv.cell
      have x6 := hv.frozen
      have hl1 : (heldOf pre).length ≤ 512 := by
        have h1 := heldOf_le pre
        have h2 : us.length = pre.length + (rest.length + 1) := by rw [hu]; simp
        omega
      have HV := hide hv
      have HR := hide hr
      have HC := hide hc
      have HPI := hide hpi
      have HP := hide hp
      clear hv hr hc hu hx hpi hp
      gi_wp2_with (gi_at_builtin; refine wpListIn_append_own _ rfl _ _ 82 rfl (w.heap.size + 10) 74 i0 _ 5 20 Ybaf.underlying82 hi0 hz0 hz1 hz2 rfl (by decide) _ _ _ rfl (by exact (HR.out.alloc _)) ⟨W.heap.size, 0, .none⟩ 1 1 (five ⟨u.a, pi, u.c⟩) rfl rfl ?qc2 ?qc3 ?qc4 ?qc5 ?qc6 ?_)
      case qc2 => exact cell_five_new _ ⟨u.a, pi, u.c⟩ _
      case qc3 => simp [five, Value.oneCell']
      case qc4 => unfold maxLen; omega
      case qc5 => omega
      case qc6 => simp; omega
      intro v' w1 hown hgrow _
      obtain ⟨g', cap', rfl⟩ := ownsRow_succ hown
      have hu5 : u.p - 1 = pi := by have := HPI.out; omega
      have hcol := (HC.out.no HO.out sz ((Keep.refl No W).alloc (.cells #[.int .i32 u.a, .int .i32 pi, .int .u32 0, .int .u32 0, .int .u32 u.c] 74))).push HO.out sz HP.out (HV.out.alloc _) (HR.out.alloc _) hgrow (by rw [hu5]; exact hown)
      have HCOL := hide hcol
      have kg := Keep.grown hgrow
      have hne : ¬ (some (w.heap.size + 4) = Value.ownBlock (.slice av (heldOf pre).length cv)) := fun e => by have := (HR.out.lt _ e.symm).1; omega
      have y5 := (kg.boxed (HV.out.alloc _) hne).cell
      have y6 := (kg.boxed (HV.out.alloc _) hne).frozen
      clear hown hgrow hcol kg hne x5 x6 x0 x1 x2 x3 x4
      gi_wp2
      exact ⟨HCOL.out.1, ((Keep.refl (Tb G w.heap.size) W).alloc _).trans HCOL.out.2⟩
  case done =>
    intro W hc hD
    rw [S0] at hD ⊢
    obtain ⟨vh, hvb, hsrt⟩ := sorted_any hc HO.out sz hlen hD
    have x7 := hvb.cell
    have HC := hide hc
    clear hc hD U0 HC0 HM
    obtain ⟨avh, cvh, lvh, hvf⟩ : ∃ av cv lv, vh = .slice av lv cv := by
      obtain ⟨v, hv, hr, -⟩ := HC.out.b7
      have e : v = vh := by have h1 := hv.cell; rw [x7] at h1; injection h1 with h1; exact h1.symm
      subst e
      rcases hr.2 with ⟨h, _⟩ | ⟨g, cap, cur, h, _⟩
      · exact ⟨_, _, _, h⟩
      · exact ⟨_, _, _, h⟩
    subst hvf
    go_wp2_with (go_at_call 15; refine hsrt.mono ?_; rintro e W1 ⟨rfl, gb, ah, ch, L, hvl, hperm, hpro⟩; have HPR := hide hpro; have HPM := hide hperm; injection hvl with hv1 hv2 hv3; subst hv1; subst hv2; subst hv3; have x3 := hpro.b3.cell; have x8 := (hpro.fix HO.out HFX.out).rf; have x9 : W1.cell? ⟨G.R, 2, .none⟩ = some (.slice G.da G.defs.length G.cd) := (by simp [World.cell?, x8]); clear hpro hperm hsrt x7 hvb x8)
    have sW : w.heap.size + 7 ≤ W1.heap.size := lt_of_heap HPR.out.dfr
    have HSZ := hide sz
    have HSW := hide sW
    have dl : G.defs.length ≤ 8 := Nat.le_trans (nodup_le G.N G.defs HO.out.dn fun x hx => ((HO.out.dN x).1 hx).1) hN8
    go_loopw [9, 55] (fun v q wr => ∃ k : Nat, k ≤ G.defs.length ∧ q = .int .i64 k ∧ Pro G w gb avh cvh L used0 0 (topCnt G.dfn us) 0 wr ∧ Stk w gb W1.heap.size v (startS L used0 (G.defs.take k)) wr) (fun _ q _ => G.defs.length - (intOf q).toNat)
    case atStart => exact ⟨0, Nat.zero_le _, rfl, HPR.out, World.ownsRow_nil _ _ _ _, HPR.out.gb1, sW, Nat.le_refl _⟩
    case round =>
      obtain ⟨k, hk, rfl, hp, hs⟩ := hrel
      clear x3 x9
      by_cases hlt : k < G.defs.length
      · obtain ⟨d, hd⟩ : ∃ d, G.defs[k]? = some d := ⟨_, List.getElem?_eq_getElem hlt⟩
        have hdN : d < G.N := ((HO.out.dN d).1 (List.mem_of_getElem? hd)).1
        obtain ⟨hda, -⟩ := HFX.out.df k d hd
        rw [hda]
        have fx := hp.fix HO.out HFX.out
        have x0 := hp.b3.cell
        have x1 : wr.cell? ⟨G.R, 1, .none⟩ = some (.slice (some ⟨G.K, 0, .none⟩) G.N G.N) := by simp [World.cell?, fx.rf]
        have x2 := (fx.df k d hd).2
        have x3 := hp.mt.k6 d hdN
        have x4 := hp.b7.cell
        have q0 : (k : Int) < (G.defs.length : Int) := by omega
        have q1 : (0 : Int) ≤ (d : Int) := by omega
        have q2 : (d : Int) < (G.N : Int) := by omega
        have HP := hide hp
        have HS := hide hs
        have HDK := hide hd
        clear hp hs hd fx
        cases hu : used0 d
        · rw [hu] at x3
          have HU := hide hu
          clear hu
          go_wp2
          go_roundw
          case rel => exact ⟨k + 1, by omega, by go_num, HP.out, by rw [startS_succ HDK.out, HU.out]; exact HS.out⟩
          case measure => simp [intOf]; omega
        · rw [hu] at x3
          have HU := hide hu
          clear hu
          by_cases he : ofL L d = []
          · have el : (ofL L d).length = 0 := by rw [he]; rfl
            have HE := hide he
            clear he
            go_wp2_with (go_at_call 18; refine (HP.out.hl.of d (by omega)).mono ?_; rintro e w2 ⟨x, rfl, hk2, hx⟩; obtain ⟨a2, c2, rfl, hc2⟩ := hx.form; rw [el]; have HK2 := hide hk2; clear hx hk2 hc2 x0 x1 x2 x3 x4)
            go_roundw
            case rel => exact ⟨k + 1, by omega, by go_num, HP.out.no HO.out sz HK2.out, by rw [startS_succ HDK.out, if_neg (by simp [HE.out])]; exact (HS.out.keep HK2.out (fun _ h => h.elim))⟩
            case measure => simp [intOf]; omega
          · have el : (0 : Int) < ((ofL L d).length : Int) := by have := List.length_pos_iff.2 he; omega
            have hll := startS_le (L := L) (used := used0) (l := G.defs) (k := k)
            have HE := hide he
            clear he
            go_wp2_with (first
              | (go_at_call 18; refine (HP.out.hl.of d (by omega)).mono ?_; rintro e w2 ⟨x, rfl, hk2, hx⟩; obtain ⟨a2, c2, rfl, hc2⟩ := hx.form; have HS2 := hide (HS.out.keep hk2 (fun _ h => h.elim)); have HP2 := hide (HP.out.no HO.out sz hk2); clear hx hk2 hc2 x0 x1 x2 x3 x4)
              | (at_builtin; refine wpList_append_own_at _ rfl _ _ 24 rfl W1.heap.size 21 i1 _ 1 4 Ybaf.underlying24 hi1 hy0 hy1 hy2 rfl (by decide) _ _ _ rfl (by exact (HS2.out.1.alloc _)) ⟨w2.heap.size, 0, .none⟩ 1 1 [.int .i32 d] rfl rfl ?qc2 ?qc3 ?qc4 ?qc5 ?qc6 ?_))
            case qc2 => exact cell_one_new _ _ _
            case qc3 => simp [Value.oneCell']
            case qc4 => unfold maxLen; omega
            case qc5 => omega
            case qc6 => have := HS2.out.2.2.2; simp; omega
            intro v' w3 hown hgrow _ _
            have ka : Keep No w2 (w2.alloc (.cells #[.int .i32 d] 21)) := (Keep.refl No w2).alloc _
            have HS3 := hide ((HS2.out.keep ka (fun _ h => h.elim)).push (n := d) hgrow (by rw [List.map_reverse]; exact hown))
            have HP3 := hide ((HP2.out.no HO.out sz ka).step HO.out sz ((HS2.out.keep ka (fun _ h => h.elim)).grown hgrow (T := fun i => w.heap.size + 7 ≤ i ∧ i ≠ gb) (fun i h h' => ⟨h, h'⟩)) (fun _ h => h))
            clear hown hgrow
            go_wp2
            go_roundw
            case rel =>
              refine ⟨k + 1, by omega, by go_num, HP3.out, ?_⟩
              rw [startS_succ HDK.out, if_pos (by rw [HU.out]; simp [HE.out])]
              exact HS3.out
            case measure => simp [intOf]; omega
      · have q0 : ¬ (k : Int) < (G.defs.length : Int) := by omega
        have ek : k = G.defs.length := by omega
        subst ek
        rw [List.take_length] at hs
        have HP := hide hp
        have HS := hide hs
        clear hp hs
        go_wp2
        have HGR : Hid (∀ h ∈ L, h.i < G.N ∧ h.a < G.N ∧ G.dfn h.i = true ∧ h.c ≤ 512) := by
          intro h hh
          have h1 := HPM.out.mem_iff.1 hh
          simp only [heldOf, List.mem_map, List.mem_filter] at h1
          obtain ⟨u, ⟨hu, hup⟩, rfl⟩ := h1
          have h2 := HUS.out u hu
          have h3 : u.p ≠ 0 := by simpa using hup
          exact ⟨by show u.p - 1 < G.N; omega, h2.1, h2.2.2.1 h3, h2.2.2.2⟩
        go_loopw [9] (fun v wr => ∃ vv n, vv = v ∧ Re2 G w gb avh cvh L used0 (topCnt G.dfn us) W1.heap.size n vv wr) (fun v wr => least fun n => Re2 G w gb avh cvh L used0 (topCnt G.dfn us) W1.heap.size n v wr)
        case atStart => exact ⟨_, _, rfl, _, [], used0, _, HP.out, HS.out, Rea.start HO.out, rfl⟩
        case round =>
          obtain ⟨vv, n0, hv, hn0⟩ := hrel
          subst hv
          obtain ⟨S, F, used, u, hp, hs, hr, hms⟩ := least_spec (P := fun n => Re2 G w gb avh cvh L used0 (topCnt G.dfn us) W1.heap.size n vv wr) ⟨n0, hn0⟩
          clear hn0 HP HS
          have hS8 : S.length ≤ 8 := by
            have h1 := nodup_le G.N S (List.nodup_append.1 hr.nd).1 (fun x hx => (hr.on x hx).2)
            omega
          cases S with
          | nil =>
            obtain ⟨av, cv, rfl⟩ := hs.form
            have HP := hide hp
            have HR := hide hr
            obtain ⟨hrch, hucnt, hgrf⟩ := hr.over (fun h hh => ⟨(HGR.out h hh).1, (HGR.out h hh).2.1, (HGR.out h hh).2.2.1⟩)
            have HRC := hide hrch
            have HUC := hide hucnt
            have HGF := hide hgrf
            have fx := hp.fix HO.out HFX.out
            have FX := hide fx
            have x0 := hp.b3.cell
            have x4 := hp.b4.cell
            have x5 : wr.cell? ⟨w.heap.size + 2, 0, .none⟩ = some (.func (.func 5) #[] #[.pointer (some ⟨G.g + 3, 0, .none⟩), .pointer (some ⟨G.g + 1, 0, .none⟩), .pointer (some ⟨G.s, 0, .none⟩), .pointer (some ⟨G.g, 0, .none⟩), .pointer (some ⟨G.g + 2, 0, .none⟩)]) := hp.b5.cell
            have x7 := hp.b7.cell
            have TP : Hid (F0.answers wr.tape) := by show F0.answers wr.tape; rw [hp.keep.tape]; exact HF.out
            have HCO : Hid (∀ h ∈ L, h.c < 4294967296) := fun h hh => by have := (HGR.out h hh).2.2.2; omega
            clear hp hr hs hms hrch hucnt hgrf fx
            go_wp2_with (go_at_call 19; refine (cycles_any F0 G HO.out wr used u 0 gb avh cvh L TP.out FX.out HP.out.mt HP.out.hl (by have := HP.out.gb0; have := HSZ.out; omega) HP.out.gb1 HGF.out HCO.out).mono ?_; rintro e w2 ⟨rfl, cc, hk2, hm2, hring⟩; have HRI := hide hring; have HP2 := hide (HP.out.told HO.out HSZ.out hk2 (fun i hi => .inr (by omega)) hm2); have y1 := HP2.out.b3.cell; have y2 : w2.cell? ⟨G.R, 2, .none⟩ = some (.slice G.da G.defs.length G.cd) := (by simp [World.cell?, (HP2.out.fix HO.out HFX.out).rf]); clear hk2 hm2 hring x0 x4 x5 x7)
            go_loopw [142] (fun q wr => ∃ k : Nat, k ≤ G.defs.length ∧ q = .int .i64 k ∧ Pro G w gb avh cvh L used cc u ((G.defs.take k).filter fun d => !used d).length wr) (fun q _ => G.defs.length - (intOf q).toNat)
            case atStart => exact ⟨0, Nat.zero_le _, rfl, HP2.out⟩
            case round =>
              clear HP2 HP y1 y2 FX TP
              obtain ⟨k, hk, rfl, hp⟩ := hrel
              by_cases hlt : k < G.defs.length
              · obtain ⟨d, hd⟩ : ∃ d, G.defs[k]? = some d := ⟨_, List.getElem?_eq_getElem hlt⟩
                have hdN : d < G.N := ((HO.out.dN d).1 (List.mem_of_getElem? hd)).1
                obtain ⟨hda, -⟩ := HFX.out.df k d hd
                rw [hda]
                have fx := hp.fix HO.out HFX.out
                have x0 := hp.b3.cell
                have x1 : wr.cell? ⟨G.R, 1, .none⟩ = some (.slice (some ⟨G.K, 0, .none⟩) G.N G.N) := by simp [World.cell?, fx.rf]
                have x2 := (fx.df k d hd).2
                have k0 := hp.mt.k0 d hdN
                obtain ⟨s, k1⟩ := hp.mt.k1 d hdN
                have k2 := hp.mt.k2 d hdN
                have k3 := hp.mt.k3 d hdN
                have k4 := hp.mt.k4 d hdN
                have k5 := hp.mt.k5 d hdN
                have k6 := hp.mt.k6 d hdN
                have q0 : (k : Int) < (G.defs.length : Int) := by omega
                have q1 : (0 : Int) ≤ (d : Int) := by omega
                have q2 : (d : Int) < (G.N : Int) := by omega
                have e1 : (G.defs.take (k + 1)).filter (fun d => !used d) = (G.defs.take k).filter (fun d => !used d) ++ (if used d = true then [] else [d]) := by
                  rw [List.take_add_one, hd, Option.toList_some, List.filter_append]
                  by_cases e : used d = true <;> simp [e]
                have HE1 := hide e1
                have HP := hide hp
                clear hd e1
                cases hu : used d
                · rw [hu] at k6
                  have HU := hide hu
                  have v2 := fx.v2
                  obtain ⟨ts, t2⟩ := fx.t2
                  have HT := hide t2
                  have FX := hide fx
                  have z0 := World.block_lt_of_cell? wr _ v2
                  have z1 := World.block_lt_of_cell? wr _ x0
                  simp only at z0 z1
                  have TP : Hid (F0.answers wr.tape) := by show F0.answers wr.tape; rw [hp.keep.tape]; exact HF.out
                  have p0 : wr.cell? ⟨w.heap.size + 2, 0, .none⟩ = some (.func (.func 5) #[] #[.pointer (some ⟨G.g + 3, 0, .none⟩), .pointer (some ⟨G.g + 1, 0, .none⟩), .pointer (some ⟨G.s, 0, .none⟩), .pointer (some ⟨G.g, 0, .none⟩), .pointer (some ⟨G.g + 2, 0, .none⟩)]) := hp.b5.cell
                  have r7 : wr.cell? ⟨G.R, 7, .none⟩ = some (.pointer (some ⟨G.L, 0, .none⟩)) := by simp [World.cell?, fx.rf]
                  clear fx hp hu t2
                  go_wp2_with (go_at_call 11; refine (errorfA F0 G.a2 (wr.heap.size + 1) ts s _ ?_ ?_ ?_ ?_).mono ?_; exact TP.out; exact (((Keep.refl No wr).alloc _).alloc _).got HT.out; simp; simp; rintro e w1 ⟨x, t, rfl, hx0, hx1, hxt, hxe, hbb⟩; have kk : Keep No wr w1 := (((Keep.refl No wr).alloc _).alloc _).later hbb; have KK := hide kk; have j0 := kk.got x0; have j1 := kk.got p0; have j2 := kk.got r7; have j62 : w1.cell? ⟨wr.heap.size, 2, .none⟩ = some (.int .u32 0) := (hbb.cell (by simp; omega)).trans (by simp); have j63 : w1.cell? ⟨wr.heap.size, 3, .none⟩ = some (.int .u32 0) := (hbb.cell (by simp; omega)).trans (by simp); have j64 : w1.cell? ⟨wr.heap.size, 4, .none⟩ = some (.int .u32 0) := (hbb.cell (by simp; omega)).trans (by simp); have HXE := hide hxe; clear kk hbb hxe hxt hx0 hx1 x0 x1 x2 k0 k1 k2 k3 k4 k5 k6 v2 p0 r7)
                  have FX1 := hide (FX.out.keep HO.out KK.out fun i h => h.elim)
                  have HP1 := hide (HP.out.no HO.out HSZ.out KK.out)
                  have LG := hide FX1.out.lg
                  have NM := hide FX1.out.nm
                  have nlt : ((G.defs.take k).filter fun d => !used d).length < 100000 := by
                    have h1 := List.length_filter_le (fun d => !used d) (G.defs.take k)
                    have h2 := List.length_take_le k G.defs
                    omega
                  have g1 : w.heap.size + 2 ≠ G.g + 2 := by have := HSZ.out; omega
                  have g2 : w.heap.size ≠ G.g + 2 := by have := HSZ.out; omega
                  have g3 : G.R ≠ G.g + 2 := by have := HO.out.rg; omega
                  have g4 : wr.heap.size ≠ G.g + 2 := by have := HSZ.out; have := HP.out.keep.size; omega
                  have HGN := hide (And.intro g1 (And.intro g2 (And.intro g3 g4)))
                  clear g1 g2 g3 g4
                  go_region_held3 (fun W => W.cell? ⟨w.heap.size + 2, 0, .none⟩ = some (.func (.func 5) #[] #[.pointer (some ⟨G.g + 3, 0, .none⟩), .pointer (some ⟨G.g + 1, 0, .none⟩), .pointer (some ⟨G.s, 0, .none⟩), .pointer (some ⟨G.g, 0, .none⟩), .pointer (some ⟨G.g + 2, 0, .none⟩)]) ∧ W.cell? ⟨w.heap.size, 0, .none⟩ = some (.pointer (some ⟨G.R, 0, .none⟩)) ∧ W.cell? ⟨G.R, 7, .none⟩ = some (.pointer (some ⟨G.L, 0, .none⟩)) ∧ W.cell? ⟨wr.heap.size, 2, .none⟩ = some (.int .u32 0) ∧ W.cell? ⟨wr.heap.size, 3, .none⟩ = some (.int .u32 0) ∧ W.cell? ⟨wr.heap.size, 4, .none⟩ = some (.int .u32 0))
                    (go_keep)
                    (first
                      | (go_at_call 13; refine (place_any G.L G.M ⟨#[102]⟩ 0 0 _ ?_ ?_ (by omega) (by omega) (by omega) (by omega)).mono ?_; exact LG.out; exact NM.out; rintro e w3 ⟨rfl, hbb⟩; have kk : Keep No w1 w3 := (Keep.refl No w1).drew.later hbb; have KK2 := hide kk; have i0 := kk.got j0; have i1 := kk.got j1; have i2 := kk.got j2; have i6 := kk.got j62; have i7 := kk.got j63; have i8 := kk.got j64; clear kk hbb)
                      | (go_at_call 12; refine (newProblem_any ⟨#[102]⟩ 0 0 ⟨x, 0, .none⟩ true _).mono ?_; rintro e w4 ⟨y, rfl, -, hbb, hy⟩; have kk : Keep No w1 w4 := KK2.out.later hbb; have KK3 := hide kk; have PB : Hid (Prb w4 y ⟨x, 0, .none⟩ true) := ⟨_, _, hy⟩; have l0 := kk.got j0; have l1 := kk.got j1; have l2 := kk.got j2; have l6 := kk.got j62; have l7 := kk.got j63; have l8 := kk.got j64; clear kk hbb hy)
                      | (go_at_call 5; refine (report_unused G HO.out _ used cc u ((G.defs.take k).filter fun d => !used d).length y x ?_ ?_ nlt ?_ ?_).mono ?_; exact FX1.out.keep HO.out KK3.out (fun _ h => h.elim); exact HP1.out.mt.keep KK3.out HO.out.n0 (fun _ h => h.elim); exact PB.out; exact KK3.out.got HXE.out; rintro e w5 ⟨rfl, hk5, hm5⟩; have HK5 := hide hk5; have HM5 := hide hm5; have m1 := hk5.got1 (p := ⟨w.heap.size + 2, 0, .none⟩) HGN.out.1 l1; have m2 := hk5.got1 (p := ⟨w.heap.size, 0, .none⟩) HGN.out.2.1 l0; have m3 := hk5.got1 (p := ⟨G.R, 7, .none⟩) HGN.out.2.2.1 l2; have m5 := hk5.got1 (p := ⟨wr.heap.size, 2, .none⟩) HGN.out.2.2.2 l6; have m6 := hk5.got1 (p := ⟨wr.heap.size, 3, .none⟩) HGN.out.2.2.2 l7; have m7 := hk5.got1 (p := ⟨wr.heap.size, 4, .none⟩) HGN.out.2.2.2 l8; clear hk5 hm5))
                  go_wp2
                  go_roundw
                  case rel => exact ⟨k + 1, by omega, by go_num, by rw [HE1.out, HU.out]; simpa using (HP1.out.no HO.out HSZ.out KK3.out).told HO.out HSZ.out HK5.out (fun i hi => .inr (by omega)) HM5.out⟩
                  case measure => simp [intOf]; omega
                · rw [hu] at k6
                  have HU := hide hu
                  clear fx hp hu
                  go_wp2
                  go_roundw
                  case rel => exact ⟨k + 1, by omega, by go_num, by rw [HE1.out, HU.out]; simpa using HP.out.no HO.out HSZ.out ((Keep.refl No wr).alloc _)⟩
                  case measure => simp [intOf]; omega
              · have q0 : ¬ (k : Int) < (G.defs.length : Int) := by omega
                have ek : k = G.defs.length := by omega
                subst ek
                rw [List.take_length] at hp
                have HP := hide hp
                clear hp
                go_wp2
                refine ⟨by simp, .inl ⟨_, _, rfl, run_takeDeferred HP.out.dfr, ?_⟩⟩
                have kp : Keep (fun i => i = w.heap.size + 6) wr (wr.putObj (w.heap.size + 6) (.deferred none)) := (Keep.refl (fun i => i = w.heap.size + 6) wr).putObj (fun _ => rfl) _
                refine ⟨_, results_none rfl _ _ _, rfl, HP.out.keep.then kp (fun i hi e => by omega), used, cc, u, _, HP.out.mt.keep kp HO.out.n0 (fun i hi => by have := HSZ.out; have := HO.out.kM; have := HO.out.mL; have := HO.out.lR; have := HO.out.rg; omega), fun n => (HRC.out n).trans (Rch.perm HPM.out), ?_, HRI.out.trans (Ring.perm HPM.out), rfl⟩
                rw [HUC.out, heldCnt_perm HPM.out]
          | cons nm S =>
            obtain ⟨g, cg, rfl, hcg, hgc, hs'⟩ := hs.top
            have hnN := (hr.on nm (by simp)).2
            have HP := hide hp
            have HS := hide hs'
            have HR := hide hr.pop
            have HMS := hide hms
            obtain ⟨m, hm⟩ : ∃ m, m = S.length := ⟨_, rfl⟩
            obtain ⟨kk, hkk⟩ : ∃ kk, kk = m + 1 := ⟨_, rfl⟩
            have ep : S.length + 1 = kk := by omega
            rw [ep]
            rw [← hm] at hgc
            have q3 : (0 : Int) < (kk : Int) := by omega
            have q4 : (kk : Int) - 1 = (m : Int) := by omega
            have q5 : IntKind.i64.wrap (m : Int) = (m : Int) := by
              simp at hS8
              rw [IntKind.wrap_i64]; omega
            have q6 : (m : Int) < (kk : Int) := by omega
            have q7 : (m : Int) ≤ (cg : Int) := by omega
            have q8 : (0 : Int) ≤ (m : Int) := by omega
            have x4 := hp.b7.cell
            have HMM := hide hm
            have HEP := hide ep
            clear hp hr hs hs' hms hm hkk ep
            go_wp2_with (go_at_call 18; refine (HP.out.hl.of nm (by omega)).mono ?_; rintro e w2 ⟨x, rfl, hk2, hx⟩; obtain ⟨a2, c2, rfl, hc2⟩ := hx.form; have HX := hide hx; have HK2 := hide hk2; clear hx hk2 hc2 x4 hgc)
            go_loopw [9, 97] (fun v q wr' => ∃ k : Nat, k ≤ (ofL L nm).length ∧ q = .int .i64 k ∧ In3 G w gb avh cvh L used0 (topCnt G.dfn us) W1.heap.size (least fun n => Re2 G w gb avh cvh L used0 (topCnt G.dfn us) W1.heap.size n (.slice (some ⟨g, 0, .none⟩) kk cg) wr) nm F (.slice a2 (ofL L nm).length c2) k v wr') (fun _ q _ => (ofL L nm).length - (intOf q).toNat)
            case atStart =>
              refine ⟨0, Nat.zero_le _, rfl, [], ofL L nm, S, used, u, rfl, HP.out.no HO.out sz HK2.out, ?_, HR.out, HX.out, ?_⟩
              · rw [HMM.out]; exact HS.out.keep HK2.out (fun _ h => h.elim)
              · rw [← HEP.out, ← HMS.out]; simp
            case round =>
              clear HP HS HR HX HK2
              obtain ⟨k, hk, rfl, P, Q, S', used', u', hPk, hp, hs, hr, hx, hms⟩ := hrel
              clear S used u hS8 hcg HMS HMM HEP
              by_cases hlt : k < (ofL L nm).length
              · obtain ⟨h, Q', rfl⟩ : ∃ h Q', Q = h :: Q' := by
                  cases Q with
                  | nil => have := hr.eq; rw [List.append_nil] at this; rw [this] at hlt; omega
                  | cons h Q' => exact ⟨h, Q', rfl⟩
                have hh : (ofL L nm)[k]? = some h := by rw [hr.eq, List.getElem?_append_right (by omega), hPk]; simp
                have hhL := hr.mem
                have hG := HGR.out h hhL.1
                have HPK := hide hPk
                have hPk' := hPk
                clear hPk
                obtain ⟨a3, c3, f, e3, hc2', hf1, hf2⟩ := hx
                injection e3 with e31 e32 e33
                subst e31
                subst e33
                have hne : ofL L nm ≠ [] := fun e => by rw [e] at hlt; simp at hlt
                have ha := hf1 hne
                subst ha
                have hhat := hf2 k h hh
                obtain ⟨u0, u1, u2, u3, u4⟩ := hhat
                have q0 : (k : Int) < ((ofL L nm).length : Int) := by omega
                have q1 : (0 : Int) ≤ (h.a : Int) := by omega
                have q2 : (h.a : Int) < (G.N : Int) := by have := hG.2.1; omega
                have fx := hp.fix HO.out HFX.out
                have x0 := hp.b3.cell
                have x1 : wr.cell? ⟨G.R, 1, .none⟩ = some (.slice (some ⟨G.K, 0, .none⟩) G.N G.N) := by simp [World.cell?, fx.rf]
                have x5 := hp.mt.k5 h.a hG.2.1
                have z1 := World.block_lt_of_cell? wr _ x0
                have z2 := World.block_lt_of_cell? wr _ x1
                have z3 := World.block_lt_of_cell? wr _ x5
                simp only at z1 z2 z3
                have HP := hide hp
                have HS := hide hs
                have HR := hide hr
                have HMS := hide hms
                have HHX : Hid (HSl wr gb (.slice (some ⟨gb, f * 5, .none⟩) (ofL L nm).length c2) (ofL L nm)) := ⟨_, _, f, rfl, hc2', fun _ => rfl, hf2⟩
                have HFX2 := hide fx
                have ule : u' < 100000 := by
                  have h1 := hr.le
                  have h2 := topCnt_le (dfn := G.dfn) us
                  have h3 := hp.hl.len
                  omega
                have HLT := hide hlt
                have hk9 : k < 1000 := by
                  have h1 : (ofL L nm).length ≤ L.length := List.length_filter_le _ _
                  have h2 := hp.hl.len
                  omega
                cases hd : G.dfn h.a
                · rw [hd] at x5
                  have HD := hide hd
                  have x7 := hp.b6.cell
                  unfold clo at x7
                  have z4 := World.block_lt_of_cell? wr _ x7
                  simp only at z4
                  have TP : Hid (F0.answers wr.tape) := by show F0.answers wr.tape; rw [hp.keep.tape]; exact HF.out
                  have q3 : (0 : Int) ≤ (h.c : Int) := by omega
                  have q4 : (h.c : Int) < 4294967296 := by have := hG.2.2.2; omega
                  have hhN := hG.2.1
                  clear hp hs hr hms hf1 hf2 hh hhL hG fx hd hne hPk'
                  go_wp2
                  go_quiet (fail)
                  have KD := hide (((Keep.refl No wr).alloc (.cells #[.int .i32 h.a, .int .i32 h.i, .int .u32 0, .int .u32 0, .int .u32 h.c] 74)).drewN nq)
                  go_wp2_with (go_at_call 10; refine (undefined_any F0 G HO.out ((wr.alloc (.cells #[.int .i32 h.a, .int .i32 h.i, .int .u32 0, .int .u32 0, .int .u32 h.c] 74)).drewN nq) used' 0 u' 0 w.heap.size (w.heap.size + 2) (w.heap.size + 1) h.a h.i h.c TP.out (HFX2.out.keep HO.out KD.out (fun _ h => h.elim)) (HP.out.mt.keep KD.out HO.out.n0 (fun _ h => h.elim)) ule hhN (KD.out.boxed HP.out.b3 (fun h => h)) (KD.out.boxed HP.out.b5 (fun h => h)) (KD.out.boxed HP.out.b4 (fun h => h)) q3 q4).mono ?_; rintro e w5 ⟨rfl, hk5, hm5⟩; have HK5 := hide hk5; have HM5 := hide hm5; clear hk5 hm5 x0 x1 x5 x7)
                  go_roundw
                  case rel =>
                    refine ⟨k + 1, HLT.out, by go_num, P ++ [h], Q', S', used', u' + 1, by simp [HPK.out], (HP.out.no HO.out sz KD.out).told HO.out sz HK5.out (fun i hi => .inr (by omega)) HM5.out, ?_, HR.out.undef HD.out, ?_, HMS.out⟩
                    · exact (HS.out.keep KD.out (fun _ h => h.elim)).keep HK5.out (fun i hi => by omega)
                    · exact (HHX.out.keep KD.out (fun h => h)).keep HK5.out (by have := HP.out.gb0; omega)
                  case measure => have := HLT.out; simp [intOf]; omega
                · rw [hd] at x5
                  have HD := hide hd
                  have x6 := hp.mt.k6 h.a hG.2.1
                  have hhN := hG.2.1
                  cases hu : used' h.a
                  · rw [hu] at x6
                    have HU := hide hu
                    clear hp hs hr hms hf1 hf2 hh hhL hG fx hd hne hPk' hu
                    have S8 : S'.length ≤ 8 := by
                      have h0 := HR.out.nd
                      simp only [List.nodup_cons, List.nodup_append] at h0
                      have h1 := nodup_le G.N S' h0.2.1 (fun x hx => (HR.out.on x hx).2)
                      omega
                    have xf := HP.out.mt.kf
                    go_wp2
                    go_quiet (fail)
                    have KD := hide (((Keep.refl No wr).alloc (.cells #[.int .i32 h.a, .int .i32 h.i, .int .u32 0, .int .u32 0, .int .u32 h.c] 74)).drewN nq)
                    have HP1 := hide ((HP.out.no HO.out sz KD.out).setUsed HO.out sz h.a)
                    have KU := hide ((Keep.refl (fun i => i = G.K) ((wr.alloc (.cells #[.int .i32 h.a, .int .i32 h.i, .int .u32 0, .int .u32 0, .int .u32 h.c] 74)).drewN nq)).setCell (p := ⟨G.K, h.a * 7 + 6, .none⟩) (fun _ => rfl) (.bool true))
                    have HS1 := hide ((HS.out.keep KD.out (fun _ h => h.elim)).keep KU.out (fun i hi => by have := HSZ.out; have := HSW.out; have := HO.out.kM; have := HO.out.mL; have := HO.out.lR; have := HO.out.rg; omega))
                    go_wp2_with (at_builtin; refine wpList_append_own_at _ rfl _ _ 24 rfl W1.heap.size 21 i1 _ 1 4 Ybaf.underlying24 hi1 hy0 hy1 hy2 rfl (by decide) _ _ _ rfl (by exact (HS1.out.1.alloc _)) ⟨wr.heap.size + 1, 0, .none⟩ 1 1 [.int .i32 h.a] rfl rfl ?qc2 ?qc3 ?qc4 ?qc5 ?qc6 ?_)
                    case qc2 =>
                      have e9 : (((wr.alloc (.cells #[.int .i32 h.a, .int .i32 h.i, .int .u32 0, .int .u32 0, .int .u32 h.c] 74)).drewN nq).setCell ⟨G.K, h.a * 7 + 6, .none⟩ (.bool true)).heap.size = wr.heap.size + 1 := by simp
                      rw [← e9]
                      exact cell_one_new _ _ _
                    case qc3 => simp [Value.oneCell']
                    case qc4 => unfold maxLen; omega
                    case qc5 => omega
                    case qc6 => have := HS1.out.2.2.2; simp at this ⊢; omega
                    intro v' w3 hown hgrow _ _
                    have ka : Keep No (((wr.alloc (.cells #[.int .i32 h.a, .int .i32 h.i, .int .u32 0, .int .u32 0, .int .u32 h.c] 74)).drewN nq).setCell ⟨G.K, h.a * 7 + 6, .none⟩ (.bool true)) _ := (Keep.refl No _).alloc (.cells #[.int .i32 h.a] 21)
                    have kg := (HS1.out.keep ka (fun _ h => h.elim)).grown hgrow (T := fun i => w.heap.size + 7 ≤ i ∧ i ≠ gb) (fun i h h' => ⟨h, h'⟩)
                    have HS3 := hide ((HS1.out.keep ka (fun _ h => h.elim)).push (n := h.a) hgrow (by rw [List.map_reverse]; exact hown))
                    have HP3 := hide ((HP1.out.no HO.out sz ka).step HO.out sz kg (fun _ h => h))
                    have HX3 := hide ((((HHX.out.keep KD.out (fun h => h)).keep KU.out (fun e => by have := HP.out.gb0; have := HSZ.out; have := HO.out.kM; have := HO.out.mL; have := HO.out.lR; have := HO.out.rg; omega)).keep ka (fun h => h)).keep kg (fun h => h.2 rfl))
                    clear hown hgrow ka kg
                    go_wp2
                    go_roundw
                    case rel =>
                      refine ⟨k + 1, HLT.out, by go_num, P ++ [h], Q', h.a :: S', _, u', by simp [HPK.out], HP3.out, HS3.out, HR.out.new HD.out HU.out hhN, HX3.out, ?_⟩
                      have h1 := unusedN_new hhN HU.out
                      have h2 := HMS.out
                      rw [List.length_cons]
                      omega
                    case measure => have := HLT.out; simp [intOf]; omega
                  · rw [hu] at x6
                    have HU := hide hu
                    clear hp hs hr hms hf1 hf2 hh hhL hG fx hd hne hPk' hu
                    go_wp2
                    go_quiet (fail)
                    have KD := hide (((Keep.refl No wr).alloc (.cells #[.int .i32 h.a, .int .i32 h.i, .int .u32 0, .int .u32 0, .int .u32 h.c] 74)).drewN nq)
                    go_wp2
                    go_roundw
                    case rel =>
                      refine ⟨k + 1, HLT.out, by go_num, P ++ [h], Q', S', used', u', by simp [HPK.out], HP.out.no HO.out sz KD.out, HS.out.keep KD.out (fun _ h => h.elim), HR.out.had HD.out HU.out, HHX.out.keep KD.out (fun h => h), HMS.out⟩
                    case measure => have := HLT.out; simp [intOf]; omega
              · have q0 : ¬ (k : Int) < ((ofL L nm).length : Int) := by omega
                have eQ : Q = [] := by
                  have := hr.eq
                  have h2 : (ofL L nm).length = P.length + Q.length := by rw [this, List.length_append]
                  exact List.length_eq_zero_iff.1 (by omega)
                subst eQ
                have HP := hide hp
                have HS := hide hs
                have HR := hide hr.fin
                have HMS := hide hms
                clear hp hs hr hx hms
                go_wp2
                go_roundw
                case rel => exact ⟨_, _, rfl, S', nm :: F, used', u', HP.out, HS.out, HR.out, rfl⟩
                case measure =>
                  have h1 : Re2 G w gb avh cvh L used0 (topCnt G.dfn us) W1.heap.size (2 * unusedN G.N used' + S'.length) _ _ := ⟨S', nm :: F, used', u', HP.out, HS.out, HR.out, rfl⟩
                  exact Nat.lt_of_le_of_lt (least_le h1) HMS.out
end Go.Proofs.YbulkatxsFmt.cnt
