/-
  Of LawS2267BCounts: the walk of cycles.
-/
import Derived.Test.YbulkatxsFmtCntInn
namespace Go.Proofs.YbulkatxsFmt.cnt
open Go.ChangeShapes Go.WideShapes Go.ChangeAt Go.RowKit Go
open Go.Extern.Stop Go.Stop Go.Extern

set_option maxHeartbeats 4000000 in
set_option maxRecDepth 100000 in
theorem cycles_any (F : Interp) (G : Geo) (o : G.Ok) (w : World) (used : Nat → Bool) (u nn : Nat) (b : Nat) (a : Option Addr) (c : Nat) (L : List Hu) (hF : F.answers w.tape) (hf : Fix G w) (hm : Mut G w used 0 u nn) (hL : Hld w b a c L) (hb : b ≠ G.g + 1) (hbl : b < w.heap.size) (hG : Grf L G.N G.dfn used) (hcol : ∀ h ∈ L, h.c < 4294967296) :
    Calls Ybaf.prog 19 #[.pointer (some ⟨G.R, 0, .none⟩), .slice a L.length c, .bool G.st, G.rep] w fun e w' => e = .returned (.tuple #[]) ∧ ∃ c', Keep (fun i => i = G.g + 1) w w' ∧ Mut G w' used c' u nn ∧ (0 < c' ↔ Ring L G.N G.dfn used) := by
  obtain ⟨i0, hi0, hz0, hz1, hz2⟩ := info_parts info116
  have r1 : w.cell? ⟨G.R, 1, .none⟩ = some (.slice (some ⟨G.K, 0, .none⟩) G.N G.N) := by simp [World.cell?, hf.rf]
  have r2 : w.cell? ⟨G.R, 2, .none⟩ = some (.slice G.da G.defs.length G.cd) := by simp [World.cell?, hf.rf]
  have z1 : G.R < w.heap.size := lt_of_heap hf.rf
  have hmk := makeState G.N o.n8
  have sz := hf.sz
  have hN8 := o.n8
  have HF := hide hF
  have HFX := hide hf
  have HM := hide hm
  have HO := hide o
  have HL := hide hL
  have HG := hide hG
  have HC := hide hcol
  have dl : G.defs.length ≤ 8 := Nat.le_trans (nodup_le G.N G.defs o.dn fun x hx => ((o.dN x).1 hx).1) o.n8
  clear hF hf hm o hL hG hcol
  unfold Geo.rep
  go_enter Ybaf.func19, Ybaf.ntmps19
  go_wp2
  go_loopw [9, 26] (fun v q wr => ∃ k : Nat, k ≤ G.defs.length ∧ q = .int .i64 k ∧ ∃ n c st xs, Lie G w b used u nn v wr c st [] xs ∧ Dfs L G.N G.dfn used c st [] ∧ potU L st (List.range G.N) = n ∧ c + n ≤ potU L (fun _ => 0) (List.range G.N) ∧ ∀ (j m : Nat), j < k → G.defs[j]? = some m → used m = true → st m = 2) (fun _ q _ => G.defs.length - (intOf q).toNat)
  case atStart =>
    have k0 : Keep (fun i => i = G.g + 1) w (w.alloc (.cells (madeCells #[.int .u8 0] G.N) 5)) := (Keep.refl _ w).alloc _
    have k1 : Keep No w (w.alloc (.cells (madeCells #[.int .u8 0] G.N) 5)) := (Keep.refl _ w).alloc _
    exact ⟨0, Nat.zero_le _, rfl, _, 0, fun _ => 0, [], ⟨k0, HM.out.keep k1 HO.out.n0 (fun _ h => h.elim), sta_new w G.N, by simp, World.ownsRow_nil _ _ _ _, rfl⟩, Dfs.start rfl, rfl, by omega, fun j m h => absurd h (Nat.not_lt_zero _)⟩
  case round =>
    obtain ⟨k, hk, rfl, n, c1, st, xs, hl, hd, hp, hbn, hdone⟩ := hrel
    have HLI := hide hl
    have HD := hide hd
    have HP := hide hp
    have HB := hide hbn
    have HDN := hide hdone
    clear hl hd hp hbn hdone
    by_cases hlt : k < G.defs.length
    · obtain ⟨d, hd⟩ : ∃ d, G.defs[k]? = some d := ⟨_, List.getElem?_eq_getElem hlt⟩
      have hdm := List.mem_of_getElem? hd
      have hdN : d < G.N := ((HO.out.dN d).1 hdm).1
      obtain ⟨hda, hdc⟩ := HFX.out.df k d hd
      rw [hda]
      have FX1 := hide (HFX.out.keep HO.out HLI.out.keep (fun i hi => free_g HO.out (by omega)))
      have c1' : wr.cell? ⟨G.R, 1, .none⟩ = some (.slice (some ⟨G.K, 0, .none⟩) G.N G.N) := by simp [World.cell?, FX1.out.rf]
      have c2' := (FX1.out.df k d hd).2
      have c3' := HLI.out.sta.1 d hdN
      have c4' := HLI.out.mt.k6 d hdN
      have q0 : (k : Int) < (G.defs.length : Int) := by omega
      have q1 : (0 : Int) ≤ (d : Int) := by omega
      have q2 : (d : Int) < (G.N : Int) := by omega
      have HDK := hide hd
      clear hdc hd r1 r2
      by_cases hs : st d = 0
      · rw [hs] at c3'
        have HS := hide hs
        cases hu : used d
        · rw [hu] at c4'
          have HU := hide hu
          clear hu hs
          go_wp2
          go_roundw
          case rel => 
            refine ⟨k + 1, by omega, by go_num, n, c1, st, xs, HLI.out, HD.out, HP.out, HB.out, fun j m hj hm hum => ?_⟩
            by_cases e : j = k
            · subst e
              have := HDK.out.symm.trans hm
              injection this with this
              subst this
              rw [HU.out] at hum
              cases hum
            · exact HDN.out j m (by omega) hm hum
          case measure => simp [intOf]; omega
        · rw [hu] at c4'
          have HU := hide hu
          have c5' := HLI.out.sta.2 d
          clear hu hs
          have LI1 := hide (HLI.out.mark HO.out sz hbl d 1)
          go_wp2_with (first
            | (go_at_call 18; refine (Hld.of (HL.out.keep LI1.out.keep hb) d (by omega)).mono ?_; rintro e w2 ⟨x, rfl, hk2, hx⟩; have LI2 := hide (LI1.out.keepNo HO.out sz hk2); obtain ⟨a2, c2, rfl, hc2⟩ := hx.form; have HX := hide hx; clear hx hk2 hc2 c1' c2' c3' c4' c5')
            | (at_builtin; refine wpList_append_own_at _ rfl _ _ 114 rfl (w.heap.size + 1) 116 i0 _ 2 32 Ybaf.underlying114 hi0 hz0 hz1 hz2 rfl (by decide) _ _ _ rfl (by exact (LI2.out.row.alloc _)) ⟨w2.heap.size, 0, .none⟩ 1 1 [.int .i32 d, .slice a2 (ofL L d).length c2] rfl rfl ?qc2 ?qc3 ?qc4 ?qc5 ?qc6 ?_))
          case qc2 => exact cell_two_new _ _ _ _
          case qc3 => simp [Value.oneCell']
          case qc4 => simp [maxLen]
          case qc5 => simp
          case qc6 => have := LI2.out.lt; simp; omega
          intro v' w3 hown hgrow _ _
          have LI3 := hide ((LI2.out.keepNo HO.out sz ((Keep.refl No w2).alloc (.cells #[.int .i32 d, .slice a2 (ofL L d).length c2] 116))).push HO.out sz hbl (HX.out.keep ((Keep.refl No w2).alloc _) (fun h => h)) (by simpa using hown) hgrow)
          clear hown hgrow LI2 HX
          go_wp2
          go_loopw [9] (fun v wr => ∃ vv n, vv = v ∧ Inn G w b L used u nn (potU L (fun _ => 0) (List.range G.N)) d st n vv wr) (fun v wr => least fun n => Inn G w b L used u nn (potU L (fun _ => 0) (List.range G.N)) d st n v wr)
          case atStart => 
            refine ⟨_, _, rfl, c1, fun n => if n = d then 1 else st n, [(d, ofL L d)], _, LI3.out, HD.out.root HS.out hdN HU.out, rfl, ?_, fun m hm => ?_, by simp⟩
            · have h1 := potU_seen (L := L) (st := st) (v := d) 1 (by omega) (List.nodup_range (n := G.N)) (List.mem_range.2 hdN) HS.out
              have h2 := HP.out
              have h3 := HB.out
              simp only [potP]
              omega
            · show (if m = d then 1 else st m) = 2
              rw [if_neg (fun e => by have := HS.out; rw [e, this] at hm; omega)]
              exact hm
          case round =>
            clear LI3 LI1
            obtain ⟨vv, n0, hv, hn0⟩ := hrel
            subst hv
            obtain ⟨c3, st3, p, xs3, li, dd, pp, bb, mo, nd⟩ := least_spec (P := fun n => Inn G w b L used u nn (potU L (fun _ => 0) (List.range G.N)) d st n vv wr) ⟨n0, hn0⟩
            clear hn0
            cases p with
            | nil =>
              obtain ⟨av, cv, rfl⟩ : ∃ av cv, vv = .slice av 0 cv := by
                rcases li.row.2 with ⟨h, _⟩ | ⟨g, cap, cur, h, _⟩
                · exact ⟨_, _, h⟩
                · exact ⟨_, _, h⟩
              have LI4 := hide li
              have D4 := hide dd
              have P4 := hide pp
              have B4 := hide bb
              have M4 := hide mo
              have N4 := hide nd
              clear li dd pp bb mo nd
              go_wp2
              go_roundw
              case rel => 
                refine ⟨k + 1, by omega, by go_num, _, c3, st3, xs3, LI4.out, D4.out, rfl, ?_, fun j m hj hm hum => ?_⟩
                · have h1 := P4.out
                  have h2 := B4.out
                  simp only [potP, Nat.add_zero] at h1
                  rw [h1]
                  exact h2
                · by_cases e : j = k
                  · subst e
                    have := HDK.out.symm.trans hm
                    injection this with this
                    subst this
                    have h1 := D4.out.le d
                    have h2 := D4.out.on d
                    have h3 := N4.out
                    have h4 : st3 d ≠ 1 := fun e => by have := h2.1 e; simp at this
                    omega
                  · exact M4.out m (HDN.out j m (by omega) hm hum)
              case measure => simp [intOf]; omega
            | cons y r =>
              obtain ⟨v, R⟩ := y
              obtain ⟨g, cap, x, ys, rfl, hg1, hg2, hcap, hxs, hpr, hx, k1, k2, k3⟩ := li.top
              obtain ⟨hvN, -⟩ := dd.us (v, R) (by simp)
              have HVN := hide hvN
              have LI4 := hide li
              have D4 := hide dd
              have P4 := hide pp
              have B4 := hide bb
              have M4 := hide mo
              have N4 := hide nd
              obtain ⟨m, hm⟩ : ∃ m, m = r.length := ⟨_, rfl⟩
              obtain ⟨kk, hkk⟩ : ∃ kk, kk = m + 1 := ⟨_, rfl⟩
              have ep : r.length + 1 = kk := by omega
              rw [ep]
              rw [← hm] at k1 k2
              have q3 : (0 : Int) < (kk : Int) := by omega
              have q4 : (kk : Int) - 1 = (m : Int) := by omega
              have q5 : IntKind.i64.wrap (m : Int) = (m : Int) := by
                have h1 := nodup_le G.N _ dd.nd fun x hx => by
                  obtain ⟨y, hy, rfl⟩ := List.mem_map.1 hx
                  exact (dd.us y hy).1
                simp at h1
                rw [IntKind.wrap_i64]; omega
              have q6 : (m : Int) < (kk : Int) := by omega
              have q7 : (m : Int) ≤ (cap : Int) := by omega
              have q8 : (0 : Int) ≤ (m : Int) := by omega
              have q9 : (0 : Int) ≤ (v : Int) := by omega
              have q10 : (v : Int) < (G.N : Int) := by exact_mod_cast hvN
              have HMM := hide hm
              have HKK := hide hkk
              have s1 := li.sta.1 v hvN
              have s2 := li.sta.2
              have n1 : w.heap.size < wr.heap.size := li.lt
              have n2 : g ≠ w.heap.size := by omega
              have n3 : w.heap.size ≠ g := by omega
              have n4 : g ≠ wr.heap.size := by omega
              have n5 : wr.heap.size ≠ g := by omega
              cases R with
              | nil =>
                obtain ⟨a4, c4, rfl, -⟩ := hx.form
                obtain ⟨n', hn', IN⟩ := Inn.pop HO.out sz hbl li dd pp bb mo nd
                rw [← hm] at IN
                rw [ep] at hn'
                have HIN := hide IN
                have HN' := hide hn'
                clear li dd pp bb mo nd hx hpr hxs hm hkk ep IN hn'
                go_wp2
                go_roundw
                case rel => exact ⟨_, n', rfl, HIN.out⟩
                case measure => exact Nat.lt_of_le_of_lt (least_le HIN.out) HN'.out
              | cons h R =>
                obtain ⟨a4, c4, rfl, hc4⟩ := hx.form
                obtain ⟨f, rfl, -, -, ⟨u0, u1, u2, u3, u4⟩, hR⟩ := hx.tail
                have hh := dd.named
                have hhN := (HG.out h hh.1).2.1
                have hhc := HC.out h hh.1
                rw [show (h :: R).length = R.length + 1 by simp] at k2 hc4
                have q11 : (0 : Int) ≤ (h.a : Int) := by omega
                have q12 : (h.a : Int) < (G.N : Int) := by exact_mod_cast hhN
                have q13 : (1 : Int) ≤ ((R.length + 1 : Nat) : Int) := by omega
                have q14 : ((R.length + 1 : Nat) : Int) ≤ (c4 : Int) := by omega
                have s3 := li.sta.1 h.a hhN
                have q15 : ((R.length + 1 : Nat) : Int) - 1 = (R.length : Int) := by omega
                have q16 : (((R.length + 1 : Nat) : Int) == 0) = false := by simp; omega
                have hslc := slice81 b (f * 5) R.length c4
                obtain ⟨o4, ho4⟩ : ∃ o4, o4 = if c4 = 1 then f * 5 else f * 5 + 5 := ⟨_, rfl⟩
                rw [← ho4] at hslc
                have hsl : HSl wr b (.slice (some ⟨b, o4, .none⟩) R.length (c4 - 1)) R := by
                  by_cases e : c4 = 1
                  · have e0 : R = [] := List.length_eq_zero_iff.1 (by omega)
                    subst e0
                    exact ⟨_, _, 0, rfl, by simp, fun h => absurd rfl h, fun j x hj => by simp at hj⟩
                  · exact ⟨_, _, f + 1, rfl, by omega, fun _ => by rw [ho4, if_neg e, show f * 5 + 5 = (f + 1) * 5 by omega], hR⟩
                have lir := (li.rest HO.out sz hbl hsl).keepNo HO.out sz ((Keep.refl No _).alloc (.cells #[.int .i32 h.a, .int .i32 h.i, .int .u32 0, .int .u32 0, .int .u32 h.c] 74))
                rw [← hm, ← hkk] at lir
                clear ho4
                have HLR := hide lir
                by_cases e2 : st3 h.a = 2
                · rw [e2] at s3
                  obtain ⟨n', hn', IN⟩ := Inn.skip lir dd pp bb mo nd e2
                  rw [ep] at hn'
                  have HIN := hide IN
                  have HN' := hide hn'
                  clear li dd pp bb mo nd hx hpr hxs hm hkk ep IN hn' lir hR hsl e2 hh
                  go_wp2
                  go_roundw
                  case rel => exact ⟨_, n', rfl, HIN.out⟩
                  case measure => exact Nat.lt_of_le_of_lt (least_le HIN.out) HN'.out
                · by_cases e1 : st3 h.a = 1
                  · rw [e1] at s3
                    have HE1 := hide e1
                    have HEP := hide ep
                    clear li dd pp bb mo nd hx hpr hxs hm hkk lir hR hsl e1 e2 hh ep
                    go_wp2
                    generalize hW1 : (wr.setCell ⟨g, m * 2 + 1, .none⟩ (.slice (some ⟨b, o4, .none⟩) R.length (c4 - 1))).alloc (.cells #[.int .i32 h.a, .int .i32 h.i, .int .u32 0, .int .u32 0, .int .u32 h.c] 74) = W1 at HLR ⊢
                    have j0 : W1.cell? ⟨wr.heap.size, 0, .none⟩ = some (.int .i32 h.a) := by rw [← hW1]; exact cell_new_at _ _ _ _ (by simp) 0
                    have j1 : W1.cell? ⟨wr.heap.size, 1, .none⟩ = some (.int .i32 h.i) := by rw [← hW1]; exact cell_new_at _ _ _ _ (by simp) 1
                    have j2 : W1.cell? ⟨wr.heap.size, 2, .none⟩ = some (.int .u32 0) := by rw [← hW1]; exact cell_new_at _ _ _ _ (by simp) 2
                    have j3 : W1.cell? ⟨wr.heap.size, 3, .none⟩ = some (.int .u32 0) := by rw [← hW1]; exact cell_new_at _ _ _ _ (by simp) 3
                    have j4 : W1.cell? ⟨wr.heap.size, 4, .none⟩ = some (.int .u32 h.c) := by rw [← hW1]; exact cell_new_at _ _ _ _ (by simp) 4
                    have j5 : W1.cell? ⟨g, m * 2, .none⟩ = some (.int .i32 v) := by
                      rw [← hW1]
                      exact ((Keep.refl No _).alloc _).got (by rw [World.cell?_setCell_other _ _ _ _ (by intro e; injection e with _ e2; omega)]; exact k1)
                    have FX2 := hide (HFX.out.keep HO.out HLR.out.keep (fun i hi => free_g HO.out (by omega)))
                    have TP2 : Hid (F.answers W1.tape) := by show F.answers W1.tape; rw [HLR.out.keep.tape]; exact HF.out
                    have hc3 : c3 < 100000 := by
                      have h1 := B4.out
                      have h2 := potU_le (L := L) (st := fun _ => 0) (List.range G.N)
                      rw [List.length_range] at h2
                      have h3 := HL.out.len
                      have h4 : G.N * (L.length + 2) ≤ 8 * 1002 := Nat.mul_le_mul hN8 (by omega)
                      omega
                    have gne : wr.heap.size ≠ G.g + 1 := by omega
                    have gne2 : g ≠ G.g + 1 := by omega
                    have q17 : (0 : Int) ≤ (h.c : Int) := by omega
                    have q18 : (h.c : Int) < 4294967296 := by omega
                    clear k1 k2 k3 u0 u1 u2 u3 u4 s1 s2 s3 hW1 hslc
                    go_region_held3 (fun W => W.cell? ⟨wr.heap.size, 0, .none⟩ = some (.int .i32 h.a) ∧ W.cell? ⟨wr.heap.size, 1, .none⟩ = some (.int .i32 h.i) ∧ W.cell? ⟨wr.heap.size, 2, .none⟩ = some (.int .u32 0) ∧ W.cell? ⟨wr.heap.size, 3, .none⟩ = some (.int .u32 0) ∧ W.cell? ⟨wr.heap.size, 4, .none⟩ = some (.int .u32 h.c) ∧ W.cell? ⟨g, m * 2, .none⟩ = some (.int .i32 v))
                      (go_keep)
                      (first
                        | (go_at_call 29; refine (cycle_any F G HO.out _ used c3 u nn h.a v h.i h.c ?_ ?_ ?_ hhN hvN q17 q18).mono ?_; exact TP2.out; exact FX2.out.keep HO.out (Keep.refl No _).drew (fun _ h => h.elim); exact HLR.out.mt.keep (Keep.refl No _).drew HO.out.n0 (fun _ h => h.elim); rintro e w5 ⟨y, x5, rfl, hk5, hpb, hcy⟩; have kk5 : Keep No W1 w5 := (Keep.refl No W1).drew.trans hk5; have KK5 := hide kk5; have PB := hide hpb; have CY := hide hcy; have i0 := kk5.got j0; have i1 := kk5.got j1; have i2 := kk5.got j2; have i3 := kk5.got j3; have i4 := kk5.got j4; have i5 := kk5.got j5; clear kk5 hk5 hpb hcy)
                        | (go_at_call 5; refine (report_cycle G HO.out _ used c3 u nn y x5 ?_ ?_ hc3 ?_ ?_).mono ?_; exact FX2.out.keep HO.out KK5.out (fun _ h => h.elim); exact HLR.out.mt.keep KK5.out HO.out.n0 (fun _ h => h.elim); exact PB.out; exact CY.out; rintro e w6 ⟨rfl, hk6, hm6⟩; have HK6 := hide hk6; have HM6 := hide hm6; have o0 := hk6.got1 (p := ⟨wr.heap.size, 0, .none⟩) gne i0; have o1 := hk6.got1 (p := ⟨wr.heap.size, 1, .none⟩) gne i1; have o2 := hk6.got1 (p := ⟨wr.heap.size, 2, .none⟩) gne i2; have o3 := hk6.got1 (p := ⟨wr.heap.size, 3, .none⟩) gne i3; have o4 := hk6.got1 (p := ⟨wr.heap.size, 4, .none⟩) gne i4; have o5 := hk6.got1 (p := ⟨g, m * 2, .none⟩) gne2 i5; clear hk6 hm6))
                    go_wp2
                    go_roundw
                    case rel =>
                      obtain ⟨n', hn', IN⟩ := Inn.back HG.out ((HLR.out.keepNo HO.out sz KK5.out).told HK6.out sz hb HM6.out) D4.out P4.out B4.out M4.out N4.out HE1.out
                      exact ⟨_, n', rfl, IN⟩
                    case measure =>
                      obtain ⟨n', hn', IN⟩ := Inn.back HG.out ((HLR.out.keepNo HO.out sz KK5.out).told HK6.out sz hb HM6.out) D4.out P4.out B4.out M4.out N4.out HE1.out
                      rw [HEP.out] at hn'
                      exact Nat.lt_of_le_of_lt (least_le IN) hn'
                  · have e0 : st3 h.a = 0 := by have := dd.le h.a; omega
                    rw [e0] at s3
                    have HE0 := hide e0
                    have lip := ((li.rest HO.out sz hbl hsl).mark HO.out sz hbl h.a 1).keepNo HO.out sz ((Keep.refl No _).alloc (.cells #[.int .i32 h.a, .int .i32 h.i, .int .u32 0, .int .u32 0, .int .u32 h.c] 74))
                    rw [← hm, ← hkk] at lip
                    have LI1 := hide lip
                    have HEP := hide ep
                    have q19 : kk ≤ 8 := by
                      have h1 := nodup_le G.N _ dd.nd fun x hx => by
                        obtain ⟨y, hy, rfl⟩ := List.mem_map.1 hx
                        exact (dd.us y hy).1
                      simp at h1
                      omega
                    clear li dd pp bb mo nd hx hpr hxs hm hkk lir lip hR hsl e1 e2 e0 hh HLR
                    go_wp2_with (first
                      | (go_at_call 18; refine (Hld.of (HL.out.keep LI1.out.keep hb) h.a (by omega)).mono ?_; rintro e w2 ⟨x, rfl, hk2, hx⟩; have LI2 := hide (LI1.out.keepNo HO.out sz hk2); obtain ⟨a2, c2, rfl, hc2⟩ := hx.form; have HX := hide hx; clear hx hk2 hc2 k1 k2 k3 u0 u1 u2 u3 u4 s1 s2 s3 hslc)
                      | (at_builtin; refine wpList_append_own_at _ rfl _ _ 114 rfl (w.heap.size + 1) 116 i0 _ 2 32 Ybaf.underlying114 hi0 hz0 hz1 hz2 rfl (by decide) _ _ _ rfl (by exact (LI2.out.row.alloc _)) ⟨w2.heap.size, 0, .none⟩ 1 1 [.int .i32 h.a, .slice a2 (ofL L h.a).length c2] rfl rfl ?qc2 ?qc3 ?qc4 ?qc5 ?qc6 ?_))
                    case qc2 => exact cell_two_new _ _ _ _
                    case qc3 => simp [Value.oneCell']
                    case qc4 => have := HEP.out; simp [maxLen]; omega
                    case qc5 => have := HEP.out; simp; omega
                    case qc6 => have := LI2.out.lt; simp; omega
                    intro v' w3 hown hgrow _ _
                    have LI3 := hide ((LI2.out.keepNo HO.out sz ((Keep.refl No w2).alloc (.cells #[.int .i32 h.a, .slice a2 (ofL L h.a).length c2] 116))).push HO.out sz hbl (HX.out.keep ((Keep.refl No w2).alloc _) (fun h => h)) (d := h.a) (by have h9 := hown; rw [← HEP.out] at h9; exact h9) hgrow)
                    clear hown hgrow LI2 HX LI1
                    go_wp2
                    go_roundw
                    case rel =>
                      obtain ⟨n', hn', IN⟩ := Inn.push HG.out LI3.out D4.out P4.out B4.out M4.out N4.out HE0.out
                      exact ⟨_, n', rfl, IN⟩
                    case measure =>
                      obtain ⟨n', hn', IN⟩ := Inn.push HG.out LI3.out D4.out P4.out B4.out M4.out N4.out HE0.out
                      rw [HEP.out] at hn'
                      exact Nat.lt_of_le_of_lt (least_le IN) hn'
      · have q3 : ((st d : Int) != 0) = true := by simp; omega
        have HS := hide hs
        clear hs
        go_wp2
        go_roundw
        case rel => 
          refine ⟨k + 1, by omega, by go_num, n, c1, st, xs, HLI.out, HD.out, HP.out, HB.out, fun j m hj hm hum => ?_⟩
          by_cases e : j = k
          · subst e
            have := HDK.out.symm.trans hm
            injection this with this
            subst this
            have h1 := HD.out.le d
            have h2 := HD.out.on d
            have h3 := HS.out
            have h4 : st d ≠ 1 := fun e => by have := h2.1 e; simp at this
            omega
          · exact HDN.out j m (by omega) hm hum
        case measure => simp [intOf]; omega
    · have q0 : ¬ (k : Int) < (G.defs.length : Int) := by omega
      go_wp2
      go_end0
      refine ⟨rfl, HLI.out.keep, c1, HLI.out.mt, HD.out.over fun m hm hdm hum => ?_⟩
      obtain ⟨j, hj⟩ := List.getElem?_of_mem ((HO.out.dN m).2 ⟨hm, hdm⟩)
      exact HDN.out j m (by have := (List.getElem?_eq_some_iff.1 hj).1; omega) hj hum
end Go.Proofs.YbulkatxsFmt.cnt
