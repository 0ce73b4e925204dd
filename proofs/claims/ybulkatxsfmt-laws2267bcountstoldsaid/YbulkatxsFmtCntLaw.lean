/-
  Of LawS2267BCounts: the law.
-/
import Derived.Test.YbulkatxsFmtCntLaw3
import Derived.Deep.DeepCutAuto
namespace Go.Proofs.YbulkatxsFmt.cnt
open Go.ChangeShapes Go.WideShapes Go.ChangeAt Go.RowKit Go
open Go.Extern.Stop Go.Stop Go.Extern

set_option maxHeartbeats 8000000 in
set_option maxRecDepth 100000 in
theorem law_any (F0 : Interp) (w : World) (n : Nat) (ad au ak : Option Addr) (ld cd lu cu ck : Nat) (fd fu : Nat → Bool) (inp : List Inp) (st : Bool) (a0 a1 a2 : Addr) (hS : Sent w a0 a1 a2) (hF : F0.answers w.tape) (hn : n < 256)
    (hd : Bls w ad ld fd) (hu : Bls w au lu fu) (hk : Uss w ak inp) (hl : inp.length ≤ 512) :
    Calls Ybaf.prog 3 #[.int .u8 n, .slice ad ld cd, .slice au lu cu, .slice ak inp.length ck, .bool st] w fun e w' => e = .returned (.bool true) ∧ Below w.heap.size w w' := by
  obtain ⟨i1, hi1, hy0, hy1, hy2⟩ := info_parts info21'
  obtain ⟨r, hr⟩ : ∃ r, r = n % 8 := ⟨_, rfl⟩
  obtain ⟨N, hN⟩ : ∃ N, N = 1 + r := ⟨_, rfl⟩
  have hN8 : N ≤ 8 := by omega
  have hN0 : 0 < N := by omega
  have q0 : ¬ (512 : Int) < (inp.length : Int) := by omega
  have q1 : (1 : Int) + (r : Int) = (N : Int) := by omega
  have q2 : (n : Int) % 8 = (r : Int) := by omega
  have q3 : (r : Int) < 8 := by omega
  have q4 : (N : Int) ≤ 8 := by omega
  clear hN hr
  have hm1 := make22 N hN8
  have hm2 := make24 inp.length hl
  have hm3 := make30 N hN8
  have HF := hide hF
  have HSE := hide hS
  have HD := hide hd
  have HU := hide hu
  have HK := hide hk
  clear hF hd hu hk hS
  go_enter Ybaf.func3, Ybaf.ntmps3
  go_wp2
  simp only [Nat.add_assoc, Nat.reduceAdd]
  go_loopw [14] (fun q wr => ∃ k : Nat, k ≤ N ∧ q = .int .i64 k ∧ Lm1 w st N (fun i => decide (i < k) && pad ld fd i) (fun i => decide (i < k) && pad lu fu i) wr) (fun q _ => N - (intOf q).toNat)
  case atStart =>
    have e1 : (w.alloc (.cells #[.bool st] 4)).heap.size = w.heap.size + 1 := by simp
    have e2 : ((w.alloc (.cells #[.bool st] 4)).alloc (.cells (madeCells #[.bool false] N) 4)).heap.size = w.heap.size + 2 := by simp
    refine ⟨0, Nat.zero_le _, rfl, (((Keep.refl No w).alloc _).alloc _).alloc _, ?_, ?_, ?_, by simp⟩
    · exact heap_alloc_lt (heap_alloc_lt (heap_alloc_at _ _ _ rfl) _) _
    · have := arr_new (w.alloc (.cells #[.bool st] 4)) N (.bool false) 4
      rw [e1] at this
      exact (this.keep ((Keep.refl No _).alloc _) (fun h => h) (by simp)).congr fun i _ => by simp
    · have := arr_new ((w.alloc (.cells #[.bool st] 4)).alloc (.cells (madeCells #[.bool false] N) 4)) N (.bool false) 4
      rw [e2] at this
      exact this.congr fun i _ => by simp
  case round =>
    obtain ⟨k, hk, rfl, hm⟩ := hrel
    have HM := hide hm
    by_cases hlt : k < N
    · as_aux_lemma =>
        have p0 : (k : Int) < (N : Int) := by omega
        have p1 : (0 : Int) ≤ (k : Int) := by omega
        have f1 := hm.da.1 k hlt
        have f2 := hm.da.2
        have f3 := hm.ua.1 k hlt
        have f4 := hm.ua.2
        clear hm
        by_cases h1 : k < ld
        · obtain ⟨b1, o1, rfl, hc1⟩ : ∃ b o, ad = some ⟨b, o, .none⟩ ∧ ∀ k, k < ld → w.cell? ⟨b, o + k, .none⟩ = some (.bool (fd k)) := by
            rcases HD.out with h | h
            · omega
            · exact h
          have c1 := HM.out.keep.got (hc1 k h1)
          have p2 : (k : Int) < (ld : Int) := by omega
          have n1 : b1 < w.heap.size := World.block_lt_of_cell? w _ (hc1 k h1)
          have pd : pad ld fd k = fd k := by simp [pad, h1]
          by_cases h2 : k < lu
          · obtain ⟨b2, o2, rfl, hc2⟩ : ∃ b o, au = some ⟨b, o, .none⟩ ∧ ∀ k, k < lu → w.cell? ⟨b, o + k, .none⟩ = some (.bool (fu k)) := by
              rcases HU.out with h | h
              · omega
              · exact h
            have c2 := HM.out.keep.got (hc2 k h2)
            have p3 : (k : Int) < (lu : Int) := by omega
            have n2 : b2 < w.heap.size := World.block_lt_of_cell? w _ (hc2 k h2)
            have pu : pad lu fu k = fu k := by simp [pad, h2]
            have n3 : w.heap.size + 1 ≠ b2 := by omega
            clear hc1 hc2
            go_wp2
            go_roundw
            case rel =>
              refine ⟨k + 1, by omega, by go_num, ?_⟩
              have h3 := HM.out.setD k (fd k) (by rw [← pd]; exact HM.out.da.fillT)
              exact h3.setU k (fu k) (by rw [← pu]; exact h3.ua.fillT)
            case measure => simp [intOf]; omega
          · as_aux_lemma =>
              have p3 : ¬ (k : Int) < (lu : Int) := by omega
              have pu : pad lu fu k = false := by simp [pad, h2]
              clear hc1
              go_wp2
              go_roundw
              case rel =>
                refine ⟨k + 1, by omega, by go_num, ?_⟩
                have h3 := HM.out.setD k (fd k) (by rw [← pd]; exact HM.out.da.fillT)
                exact ⟨h3.keep, h3.sb, h3.da, h3.ua.fillF pu, h3.sz⟩
              case measure => simp [intOf]; omega
        · have p2 : ¬ (k : Int) < (ld : Int) := by omega
          have pd : pad ld fd k = false := by simp [pad, h1]
          by_cases h2 : k < lu
          · obtain ⟨b2, o2, rfl, hc2⟩ : ∃ b o, au = some ⟨b, o, .none⟩ ∧ ∀ k, k < lu → w.cell? ⟨b, o + k, .none⟩ = some (.bool (fu k)) := by
              rcases HU.out with h | h
              · omega
              · exact h
            have c2 := HM.out.keep.got (hc2 k h2)
            have p3 : (k : Int) < (lu : Int) := by omega
            have n2 : b2 < w.heap.size := World.block_lt_of_cell? w _ (hc2 k h2)
            have pu : pad lu fu k = fu k := by simp [pad, h2]
            clear hc2
            go_wp2
            go_roundw
            case rel =>
              refine ⟨k + 1, by omega, by go_num, ?_⟩
              have h3 := HM.out.setU k (fu k) (by rw [← pu]; exact HM.out.ua.fillT)
              exact ⟨h3.keep, h3.sb, h3.da.fillF pd, h3.ua, h3.sz⟩
            case measure => simp [intOf]; omega
          · as_aux_lemma =>
              have p3 : ¬ (k : Int) < (lu : Int) := by omega
              have pu : pad lu fu k = false := by simp [pad, h2]
              go_wp2
              go_roundw
              case rel =>
                refine ⟨k + 1, by omega, by go_num, ?_⟩
                have h3 := HM.out
                exact ⟨h3.keep, h3.sb, h3.da.fillF pd, h3.ua.fillF pu, h3.sz⟩
              case measure => simp [intOf]; omega
    · have p0 : ¬ (k : Int) < (N : Int) := by omega
      have ek : k = N := by omega
      subst ek
      have hm' : Lm1 w st k (pad ld fd) (pad lu fu) wr := ⟨hm.keep, hm.sb, hm.da.congr fun i hi => by simp [hi], hm.ua.congr fun i hi => by simp [hi], hm.sz⟩
      generalize pad ld fd = dfn at hm' ⊢
      generalize pad lu fu = use0 at hm' ⊢
      have HM1 := hide hm'
      clear HM hm hm' HD HU
      go_wp2
      go_loopw [15, 16] (fun v q wr' => ∃ i : Nat, i ≤ k ∧ q = .int .i64 i ∧ Lm1 w st k dfn use0 wr' ∧ wr'.ownsRow (w.heap.size + 3) 21 1 v (((List.range i).filter dfn)).length (((List.range i).filter dfn).map fun n : Nat => Value.int .i32 n) ∧ ((List.range i).filter dfn = [] → v = .slice .none 0 0)) (fun _ q _ => k - (intOf q).toNat)
      case atStart => exact ⟨0, Nat.zero_le _, rfl, HM1.out, World.ownsRow_nil _ _ _ _, fun _ => rfl⟩
      case round =>
        clear HM1
        obtain ⟨i, hi, rfl, hm, hrow, hnil⟩ := hrel
        have HM := hide hm
        have HRO := hide hrow
        have HNI := hide hnil
        by_cases hlt : i < k
        · as_aux_lemma =>
            have p0 : (i : Int) < (k : Int) := by omega
            have p1 : (0 : Int) ≤ (i : Int) := by omega
            have f1 : wr.cell? ⟨w.heap.size + 1, i, .none⟩ = some (.bool (dfn i)) := hm.da.1 i hlt
            have er : (List.range (i + 1)).filter dfn = (List.range i).filter dfn ++ (if dfn i = true then [i] else []) := by
              rw [List.range_succ, List.filter_append]
              by_cases e : dfn i = true <;> simp [e]
            have HER := hide er
            have ll : ((List.range i).filter dfn).length ≤ 8 := by
              have := List.length_filter_le dfn (List.range i)
              rw [List.length_range] at this
              omega
            have sz := hm.sz
            clear hm hrow hnil er
            cases hd : dfn i
            · rw [hd] at f1
              have HDI := hide hd
              clear hd
              go_wp2
              go_roundw
              case rel => exact ⟨i + 1, by omega, by go_num, HM.out, by rw [HER.out, HDI.out]; simpa using HRO.out, by rw [HER.out, HDI.out]; simpa using HNI.out⟩
              case measure => simp [intOf]; omega
            · rw [hd] at f1
              have HDI := hide hd
              clear hd
              go_wp2_with (at_builtin; refine wpList_append_own_at _ rfl _ _ 24 rfl (w.heap.size + 3) 21 i1 _ 1 4 Ybaf.underlying24 hi1 hy0 hy1 hy2 rfl (by decide) _ _ _ rfl (by exact (HRO.out.alloc _)) ⟨wr.heap.size, 0, .none⟩ 1 1 [.int .i32 i] rfl rfl ?qc2 ?qc3 ?qc4 ?qc5 ?qc6 ?_)
              case qc2 => exact cell_one_new _ _ _
              case qc3 => simp [Value.oneCell']
              case qc4 => unfold maxLen; omega
              case qc5 => omega
              case qc6 => simp; omega
              intro v' w3 hown hgrow _ _
              have kg : Keep (fun j => w.heap.size + 3 ≤ j) (wr.alloc (.cells #[.int .i32 i] 21)) w3 := (Keep.grown hgrow).mono fun j _ hj => (HRO.out.lt j hj.symm).1
              have HM3 := hide ((HM.out.step ((Keep.refl No wr).alloc _) (fun _ h => h.elim)).step kg (fun _ h => h))
              have HO3 := hide hown
              clear hown hgrow kg
              go_wp2
              go_roundw
              case rel =>
                refine ⟨i + 1, by omega, by go_num, HM3.out, ?_, ?_⟩
                · rw [HER.out, HDI.out]
                  simpa using HO3.out
                · rw [HER.out, HDI.out]
                  simp
              case measure => simp [intOf]; omega
        · have p0 : ¬ (i : Int) < (k : Int) := by omega
          have ei : i = k := by omega
          subst ei
          clear hm hrow hnil
          obtain ⟨defs, hdefs⟩ : ∃ defs, defs = (List.range i).filter dfn := ⟨_, rfl⟩
          have hdN : ∀ d, d ∈ defs ↔ d < i ∧ dfn d = true := fun d => by rw [hdefs]; simp [List.mem_filter]
          have hdnd : defs.Nodup := by rw [hdefs]; exact List.nodup_range.filter _
          have hdl : defs.length ≤ 8 := by
            have := List.length_filter_le dfn (List.range i)
            rw [List.length_range] at this
            rw [hdefs]; omega
          rw [← hdefs] at HRO HNI
          have HDN := hide hdN
          have HDD := hide hdnd
          obtain ⟨da, cdd, D, hvf, hD0, hDc⟩ := row_form HRO.out
          subst hvf
          have HD0 := hide hD0
          have HDC := hide hDc
          have HDE := hide hdefs
          clear hdN hdnd hD0 hDc hdefs
          obtain ⟨us, hus⟩ : ∃ us, us = mkUs i defs inp := ⟨_, rfl⟩
          have hul : us.length = inp.length := by rw [hus]; exact mkUs_length _ _ _
          have hug : ∀ (k : Nat) x, inp[k]? = some x → us[k]? = some (mkU i defs k x) := fun k x h => by rw [hus]; exact mkUs_get h
          have hok : ∀ u ∈ us, u.a < i ∧ u.p ≤ i ∧ (u.p ≠ 0 → dfn (u.p - 1) = true) ∧ u.c ≤ 512 := by
            intro u hu
            rw [hus, mkUs] at hu
            obtain ⟨k, hk, e⟩ := List.mem_mapIdx.1 hu
            subst e
            refine ⟨Nat.mod_lt _ hN0, ?_, ?_, by show k + 1 ≤ 512; omega⟩
            · show (if inp[k].t = false ∧ defs ≠ [] then _ else 0) ≤ i
              split
              · rename_i h
                have h1 : inp[k].i % defs.length < defs.length := Nat.mod_lt _ (List.length_pos_iff.2 h.2)
                rw [List.getElem?_eq_getElem h1]
                have := ((HDN.out _).1 (List.getElem_mem h1)).1
                simp; omega
              · omega
            · show (if inp[k].t = false ∧ defs ≠ [] then _ else 0) ≠ 0 → dfn ((if inp[k].t = false ∧ defs ≠ [] then _ else 0) - 1) = true
              split
              · rename_i h
                have h1 : inp[k].i % defs.length < defs.length := Nat.mod_lt _ (List.length_pos_iff.2 h.2)
                rw [List.getElem?_eq_getElem h1]
                intro _
                exact ((HDN.out _).1 (List.getElem_mem h1)).2
              · intro h; exact absurd rfl h
          have HOK := hide hok
          have HUG := hide hug
          have HUO : Hid (∀ u ∈ us, u.Ok) := fun u hu => by
            have := HOK.out u hu
            exact ⟨by omega, by omega, by omega⟩
          have HUL := hide hul
          clear hok hug hus hul
          obtain ⟨A, hA⟩ : ∃ A, A = wr.heap.size := ⟨_, rfl⟩
          have HA := hide hA
          clear hA
          go_wp2
          rw [← HA.out]
          go_loopw [19, 20] (fun v q wr' => ∃ j : Nat, j ≤ inp.length ∧ q = .int .i64 j ∧ Lm3 w st i dfn (useK use0 (us.take j)) A D defs inp.length (valA us j) (valI us j) wr' ∧ wr'.ownsRow (A + 2) 5 1 v (bytesOf (us.take j)).length (Lib.byteCells (bytesOf (us.take j))) ∧ (j = 0 → v = .slice .none 0 0)) (fun _ q _ => inp.length - (intOf q).toNat)
          case atStart =>
            have hA := HA.out
            subst hA
            have e1 : (wr.alloc (.cells (madeCells #[.int .i32 0] inp.length) 21)).heap.size = wr.heap.size + 1 := by simp
            refine ⟨0, Nat.zero_le _, rfl, ⟨?_, ?_, ?_, ?_, HM.out.sz, fun h => (HD0.out h).2, by simp⟩, World.ownsRow_nil _ _ _ _, fun _ => rfl⟩
            · have : useK use0 (us.take 0) = use0 := by funext j; simp [useK]
              rw [this]
              exact (HM.out.step ((Keep.refl No wr).alloc _) (fun _ h => h.elim)).step ((Keep.refl No _).alloc _) (fun _ h => h.elim)
            · intro j d hj
              exact (((Keep.refl No wr).alloc _).alloc _).got (HDC.out j d hj)
            · exact ((arr_new wr inp.length (.int .i32 0) 21).keep ((Keep.refl No _).alloc _) (fun h => h) (by simp)).congr fun j _ => by simp [valA]
            · have := arr_new (wr.alloc (.cells (madeCells #[.int .i32 0] inp.length) 21)) inp.length (.int .i32 0) 21
              rw [e1] at this
              exact this.congr fun j _ => by simp [valI]
          case round =>
            obtain ⟨j, hj, rfl, hlm, hbf, hnl⟩ := hrel
            have HL := hide hlm
            have HBF := hide hbf
            have HNL := hide hnl
            by_cases hlt : j < inp.length
            · as_aux_lemma =>
                obtain ⟨x, hx⟩ : ∃ x, inp[j]? = some x := ⟨_, List.getElem?_eq_getElem hlt⟩
                obtain ⟨b4, o4, rfl, hc4⟩ : ∃ b o, ak = some ⟨b, o, .none⟩ ∧ ∀ k x, inp[k]? = some x → x.a < 256 ∧ x.i < 256 ∧ w.cell? ⟨b, o + k * 3, .none⟩ = some (.int .u8 x.a) ∧ w.cell? ⟨b, o + k * 3 + 1, .none⟩ = some (.int .u8 x.i) ∧ w.cell? ⟨b, o + k * 3 + 2, .none⟩ = some (.bool x.t) := by
                  rcases HK.out with h | h
                  · rw [h] at hlt; simp at hlt
                  · exact h
                obtain ⟨hxa, hxi, e1, e2, e3⟩ := hc4 j x hx
                have g1 := hlm.m1.keep.got e1
                have g2 := hlm.m1.keep.got e2
                have g3 := hlm.m1.keep.got e3
                have hu := HUG.out j x hx
                obtain ⟨am, ham⟩ : ∃ am, am = x.a % i := ⟨_, rfl⟩
                have m1 : (x.a : Int) % (i : Int) = (am : Int) := by omega
                have m2 : am < i := by rw [ham]; exact Nat.mod_lt _ hN0
                have m3 : (am : Int) < (i : Int) := by omega
                have m4 : (0 : Int) ≤ (am : Int) := by omega
                have m5 : (0 : Int) < (i : Int) := by omega
                have p0 : (j : Int) < (inp.length : Int) := by omega
                have p1 : (0 : Int) ≤ (j : Int) := by omega
                have hbl : (bytesOf (us.take j)).length ≤ 29000 := by
                  have h1 := bytesOf_le (us.take j) (fun u hu => HUO.out u (List.mem_of_mem_take hu))
                  have h2 := List.length_take_le j us
                  omega
                have f3 : wr.cell? ⟨w.heap.size + 2, am, .none⟩ = some (.bool (useK use0 (us.take j) am)) := hlm.m1.ua.1 am m2
                have f4 := hlm.m1.ua.2
                have f5 := hlm.ua.1 j hlt
                have f6 := hlm.ua.2
                have f7 := hlm.ui.1 j hlt
                have f8 := hlm.ui.2
                have n1 : b4 < w.heap.size := World.block_lt_of_cell? w _ e1
                have z1 := hlm.sz
                have z2 := hlm.a0
                have n5 : A < wr.heap.size := by omega
                have n6 : A + 1 < wr.heap.size := by omega
                have n7 : w.heap.size + 2 < wr.heap.size := by omega
                have n8 : b4 < wr.heap.size := by omega
                have l1 := Lib.uvarint_length64 (x := am) (by omega)
                have l0 := Lib.uvarint_length64 (x := 0) (by omega)
                by_cases hheld : x.t = false ∧ defs ≠ []
                · as_aux_lemma =>
                    obtain ⟨ht, hne⟩ := hheld
                    obtain ⟨im, him⟩ : ∃ im, im = x.i % defs.length := ⟨_, rfl⟩
                    have dpos := List.length_pos_iff.2 hne
                    have k1 : (x.i : Int) % (defs.length : Int) = (im : Int) := by omega
                    have k2 : im < defs.length := by rw [him]; exact Nat.mod_lt _ dpos
                    have k3 : (im : Int) < (defs.length : Int) := by omega
                    have k4 : (0 : Int) ≤ (im : Int) := by omega
                    have k5 : (0 : Int) < (defs.length : Int) := by omega
                    obtain ⟨dn, hdn⟩ : ∃ dn, defs[im]? = some dn := ⟨_, List.getElem?_eq_getElem k2⟩
                    have k6 : dn < i := ((HDN.out dn).1 (List.mem_of_getElem? hdn)).1
                    have k7 : (0 : Int) ≤ (dn : Int) := by omega
                    have k8 : ((dn : Int) == -1) = false := by simp
                    have f9 := hlm.df im dn hdn
                    have l2 := Lib.uvarint_length64 (x := dn + 1) (by omega)
                    obtain ⟨rfl, hD1, hD2⟩ := HD0.out hne
                    rw [ht] at g3
                    have HUU : Hid (us[j]? = some ⟨am, dn + 1, j + 1⟩) := by
                      show us[j]? = _
                      rw [hu, mkU, if_pos ⟨ht, hne⟩, ← him, hdn, ← ham]
                      rfl
                    have HL1 := hide (((hlm.setA j (.int .i32 am)).setI j (.int .i32 dn)).step ((Keep.refl No _).alloc (.cells #[.int .u8 x.a, .int .u8 x.i, .bool false] 27)) (fun _ h => h.elim))
                    have HB1 := hide (((ownsRow_setCell_below (ownsRow_setCell_below hbf (a := ⟨A, j, .none⟩) (by show A < A + 2; omega) (.int .i32 am)) (a := ⟨A + 1, j, .none⟩) (by show A + 1 < A + 2; omega) (.int .i32 dn))).alloc (.cells #[.int .u8 x.a, .int .u8 x.i, .bool false] 27))
                    have n2 : D < wr.heap.size := by have := (hlm.d0 hne).2; omega
                    clear hlm hbf hnl hc4 e1 e2 e3 hu him hdn ham ht hne hx

                    have hl1 := HL1.out
                    have hb1 := HB1.out
                    go_wp2_with fail
                    refine (app_any (A + 2) (bytesOf (us.take j)).length am _ rfl (by omega) _ _ _ hb1 (by have := hl1.sz; omega) (by omega)).mono ?_
                    rintro e w1 ⟨v1, rfl, hb2, hk2⟩
                    have HL2 := hide (HL1.out.step hk2 (fun _ h => h))
                    have HB2 := hide hb2
                    clear hb2 hk2 hb1 hl1 g1 g2 g3 f3 f4 f5 f6 f7 f8
                    go_wp2_with fail
                    refine (app_any (A + 2) _ (dn + 1) _ (by omega) (by omega) _ _ _ HB2.out HL2.out.sz (by omega)).mono ?_
                    rintro e w2 ⟨v2, rfl, hb3, hk3⟩
                    have HL3 := hide (HL2.out.step hk3 (fun _ h => h))
                    have HB3 := hide hb3
                    clear hb3 hk3
                    go_wp2_with fail
                    refine (app_any (A + 2) _ 0 _ (by omega) (by omega) _ _ _ HB3.out HL3.out.sz (by omega)).mono ?_
                    rintro e w3 ⟨v3, rfl, hb4, hk4⟩
                    have HL4 := hide (HL3.out.step hk4 (fun _ h => h))
                    have HB4 := hide hb4
                    clear hb4 hk4
                    go_wp2_with fail
                    refine (app_any (A + 2) _ (j + 1) _ (by omega) (by omega) _ _ _ HB4.out HL4.out.sz (by omega)).mono ?_
                    rintro e w4 ⟨v4, rfl, hb5, hk5⟩
                    have HL5 := hide (HL4.out.step hk5 (fun _ h => h))
                    have HB5 := hide hb5
                    clear hb5 hk5
                    go_wp2
                    go_roundw
                    case rel =>
                      refine ⟨j + 1, by omega, by go_num, ?_, ?_, fun e => by omega⟩
                      · have h8 := HL5.out
                        rw [← useK_held HUU.out (by simp)] at h8
                        exact ⟨h8.m1, h8.df, h8.ua.congr fun i _ => valA_succ HUU.out i, h8.ui.congr fun i _ => by rw [← valI_succ HUU.out i]; simp, h8.a0, h8.d0, h8.sz⟩
                      · have e9 : us.take (j + 1) = us.take j ++ [⟨am, dn + 1, j + 1⟩] := by rw [List.take_add_one, HUU.out, Option.toList_some]
                        have e10 : bytesOf (us.take (j + 1)) = bytesOf (us.take j) ++ (Lib.uvarint am ++ (Lib.uvarint (dn + 1) ++ (Lib.uvarint 0 ++ (Lib.uvarint (j + 1) ++ [])))) := by rw [e9, bytesOf_append]; rfl
                        have h9 := HB5.out
                        rw [e10]
                        simp only [Lib.byteCells, List.map_append, List.length_append, List.append_nil, List.append_assoc, Nat.add_assoc] at h9 ⊢
                        exact h9
                    case measure => simp [intOf]; omega
                · as_aux_lemma =>
                    have HUU : Hid (us[j]? = some ⟨am, 0, j + 1⟩) := by
                      show us[j]? = _
                      rw [hu, mkU, if_neg hheld, ← ham]
                    have HL1 := hide ((((hlm.setU am true ((hlm.m1.ua.set am (.bool true)).congr (v' := fun i => .bool (useK use0 (us.take (j + 1)) i)) fun i _ => by rw [← useK_top HUU.out rfl i]; show (if i = am then _ else _) = _; split <;> rfl)).setA j (.int .i32 am)).setI j (.int .i32 (-1))).step ((Keep.refl No _).alloc (.cells #[.int .u8 x.a, .int .u8 x.i, .bool x.t] 27)) (fun _ h => h.elim))
                    have HB1 := hide (((ownsRow_setCell_below (ownsRow_setCell_below (ownsRow_setCell_below hbf (a := ⟨w.heap.size + 2, am, .none⟩) (by show w.heap.size + 2 < A + 2; omega) (.bool true)) (a := ⟨A, j, .none⟩) (by show A < A + 2; omega) (.int .i32 am)) (a := ⟨A + 1, j, .none⟩) (by show A + 1 < A + 2; omega) (.int .i32 (-1)))).alloc (.cells #[.int .u8 x.a, .int .u8 x.i, .bool x.t] 27))
                    have n9 : w.heap.size + 2 ≠ A := by omega
                    have n10 : A ≠ w.heap.size + 2 := by omega
                    have n11 : w.heap.size + 2 ≠ A + 1 := by omega
                    have n12 : A + 1 ≠ w.heap.size + 2 := by omega
                    cases ht : x.t
                    · as_aux_lemma =>
                        have hz : defs.length = 0 := by
                          rcases Nat.eq_zero_or_pos defs.length with h | h
                          · exact h
                          · exact absurd ⟨ht, List.length_pos_iff.1 h⟩ hheld
                        rw [hz]
                        rw [ht] at g3 HL1 HB1
                        clear hlm hbf hnl hc4 e1 e2 e3 hu ham ht hheld hx hz hdl
                        have hl1 := HL1.out
                        have hb1 := HB1.out
                        go_wp2_with fail
                        refine (app_any (A + 2) (bytesOf (us.take j)).length am _ rfl (by omega) _ _ _ hb1 (by have := hl1.sz; omega) (by omega)).mono ?_
                        rintro e w1 ⟨v1, rfl, hb2, hk2⟩
                        have HL2 := hide (HL1.out.step hk2 (fun _ h => h))
                        have HB2 := hide hb2
                        clear hb2 hk2 hb1 hl1 g1 g2 g3 f3 f4 f5 f6 f7 f8
                        go_wp2_with fail
                        refine (app_any (A + 2) _ 0 _ (by omega) (by omega) _ _ _ HB2.out HL2.out.sz (by omega)).mono ?_
                        rintro e w2 ⟨v2, rfl, hb3, hk3⟩
                        have HL3 := hide (HL2.out.step hk3 (fun _ h => h))
                        have HB3 := hide hb3
                        clear hb3 hk3
                        go_wp2_with fail
                        refine (app_any (A + 2) _ 0 _ (by omega) (by omega) _ _ _ HB3.out HL3.out.sz (by omega)).mono ?_
                        rintro e w3 ⟨v3, rfl, hb4, hk4⟩
                        have HL4 := hide (HL3.out.step hk4 (fun _ h => h))
                        have HB4 := hide hb4
                        clear hb4 hk4
                        go_wp2_with fail
                        refine (app_any (A + 2) _ (j + 1) _ (by omega) (by omega) _ _ _ HB4.out HL4.out.sz (by omega)).mono ?_
                        rintro e w4 ⟨v4, rfl, hb5, hk5⟩
                        have HL5 := hide (HL4.out.step hk5 (fun _ h => h))
                        have HB5 := hide hb5
                        clear hb5 hk5
                        go_wp2
                        go_roundw
                        case rel =>
                          refine ⟨j + 1, by omega, by go_num, ?_, ?_, fun e => by omega⟩
                          · have h8 := HL5.out
                            exact ⟨h8.m1, h8.df, h8.ua.congr fun i _ => valA_succ HUU.out i, h8.ui.congr fun i _ => by rw [← valI_succ HUU.out i]; simp, h8.a0, h8.d0, h8.sz⟩
                          · have e9 : us.take (j + 1) = us.take j ++ [⟨am, 0, j + 1⟩] := by rw [List.take_add_one, HUU.out, Option.toList_some]
                            have e10 : bytesOf (us.take (j + 1)) = bytesOf (us.take j) ++ (Lib.uvarint am ++ (Lib.uvarint 0 ++ (Lib.uvarint 0 ++ (Lib.uvarint (j + 1) ++ [])))) := by rw [e9, bytesOf_append]; rfl
                            have h9 := HB5.out
                            rw [e10]
                            simp only [Lib.byteCells, List.map_append, List.length_append, List.append_nil, List.append_assoc, Nat.add_assoc] at h9 ⊢
                            exact h9
                        case measure => simp [intOf]; omega
                    · as_aux_lemma =>
                        rw [ht] at g3 HL1 HB1
                        clear hlm hbf hnl hc4 e1 e2 e3 hu ham ht hheld hx
                        have hl1 := HL1.out
                        have hb1 := HB1.out
                        go_wp2_with fail
                        refine (app_any (A + 2) (bytesOf (us.take j)).length am _ rfl (by omega) _ _ _ hb1 (by have := hl1.sz; omega) (by omega)).mono ?_
                        rintro e w1 ⟨v1, rfl, hb2, hk2⟩
                        have HL2 := hide (HL1.out.step hk2 (fun _ h => h))
                        have HB2 := hide hb2
                        clear hb2 hk2 hb1 hl1 g1 g2 g3 f3 f4 f5 f6 f7 f8
                        go_wp2_with fail
                        refine (app_any (A + 2) _ 0 _ (by omega) (by omega) _ _ _ HB2.out HL2.out.sz (by omega)).mono ?_
                        rintro e w2 ⟨v2, rfl, hb3, hk3⟩
                        have HL3 := hide (HL2.out.step hk3 (fun _ h => h))
                        have HB3 := hide hb3
                        clear hb3 hk3
                        go_wp2_with fail
                        refine (app_any (A + 2) _ 0 _ (by omega) (by omega) _ _ _ HB3.out HL3.out.sz (by omega)).mono ?_
                        rintro e w3 ⟨v3, rfl, hb4, hk4⟩
                        have HL4 := hide (HL3.out.step hk4 (fun _ h => h))
                        have HB4 := hide hb4
                        clear hb4 hk4
                        go_wp2_with fail
                        refine (app_any (A + 2) _ (j + 1) _ (by omega) (by omega) _ _ _ HB4.out HL4.out.sz (by omega)).mono ?_
                        rintro e w4 ⟨v4, rfl, hb5, hk5⟩
                        have HL5 := hide (HL4.out.step hk5 (fun _ h => h))
                        have HB5 := hide hb5
                        clear hb5 hk5
                        go_wp2
                        go_roundw
                        case rel =>
                          refine ⟨j + 1, by omega, by go_num, ?_, ?_, fun e => by omega⟩
                          · have h8 := HL5.out
                            exact ⟨h8.m1, h8.df, h8.ua.congr fun i _ => valA_succ HUU.out i, h8.ui.congr fun i _ => by rw [← valI_succ HUU.out i]; simp, h8.a0, h8.d0, h8.sz⟩
                          · have e9 : us.take (j + 1) = us.take j ++ [⟨am, 0, j + 1⟩] := by rw [List.take_add_one, HUU.out, Option.toList_some]
                            have e10 : bytesOf (us.take (j + 1)) = bytesOf (us.take j) ++ (Lib.uvarint am ++ (Lib.uvarint 0 ++ (Lib.uvarint 0 ++ (Lib.uvarint (j + 1) ++ [])))) := by rw [e9, bytesOf_append]; rfl
                            have h9 := HB5.out
                            rw [e10]
                            simp only [Lib.byteCells, List.map_append, List.length_append, List.append_nil, List.append_assoc, Nat.add_assoc] at h9 ⊢
                            exact h9
                        case measure => simp [intOf]; omega
            · have p0 : ¬ (j : Int) < (inp.length : Int) := by omega
              have ej : j = inp.length := by omega
              subst ej
              have et : us.take inp.length = us := List.take_of_length_le (by rw [HUL.out]; exact Nat.le_refl _)
              rw [et] at hlm hbf
              have HL := hide hlm
              have HBF := hide hbf
              have HNL : Hid (us = [] → u19 = .slice .none 0 0) := fun h => hnl (by rw [← HUL.out, h]; rfl)
              clear hlm hbf hnl et hm1 hm2
              obtain ⟨K, hK⟩ : ∃ K, K = wr.heap.size := ⟨_, rfl⟩
              have HKK := hide hK
              clear hK
              go_wp2
              rw [← HKK.out]
              obtain ⟨Y, hbuf⟩ := buf_of HBF.out HNL.out
              have HBU := hide hbuf
              clear hbuf HBF HNL
              go_loopw [25] (fun q wr' => ∃ m : Nat, m ≤ i ∧ q = .int .i64 m ∧ ∃ g, Lm4 w st i dfn (useK use0 us) A D defs inp.length (valA us inp.length) (valI us inp.length) K Y us u19 g wr' ∧ KOk i dfn (useK use0 us) m g) (fun q _ => i - (intOf q).toNat)
              case atStart =>
                have hK := HKK.out
                subst hK
                exact ⟨0, Nat.zero_le _, rfl, _, ⟨HL.out.step ((Keep.refl No wr).alloc _) (fun _ h => h.elim), HBU.out.keep ((Keep.refl No wr).alloc _) (fun _ h => h.elim), arr_new7 wr (i * 7), HL.out.sz, by simp⟩, KOk.start _ _ _⟩
              case round =>
                clear HL HBU HKK
                obtain ⟨m, hm, rfl, g, hlm, hko⟩ := hrel
                by_cases hlt : m < i
                · have p0 : (m : Int) < (i : Int) := by omega
                  have p1 : (0 : Int) ≤ (m : Int) := by omega
                  have f1 : wr.cell? ⟨w.heap.size + 1, m, .none⟩ = some (.bool (dfn m)) := hlm.m3.m1.da.1 m hlt
                  have f2 : wr.cell? ⟨w.heap.size + 2, m, .none⟩ = some (.bool (useK use0 us m)) := hlm.m3.m1.ua.1 m hlt
                  have k0 := hlm.ka.1 (m * 7) (by omega)
                  have k1 := hlm.ka.1 (m * 7 + 1) (by omega)
                  have k2 := hlm.ka.1 (m * 7 + 2) (by omega)
                  have k3 := hlm.ka.1 (m * 7 + 3) (by omega)
                  have k4 := hlm.ka.1 (m * 7 + 4) (by omega)
                  have k5 := hlm.ka.1 (m * 7 + 5) (by omega)
                  have k6 := hlm.ka.1 (m * 7 + 6) (by omega)
                  have kf := hlm.ka.2
                  have HL := hide hlm
                  have HKO := hide hko
                  clear hlm hko
                  go_wp2
                  go_region
                  go_wp2
                  go_roundw
                  case rel => exact ⟨m + 1, by omega, by go_num, _, (((((((HL.out.setK _ _).setK _ _).setK _ _).setK _ _).setK _ _).setK _ _).setK _ _).step (Keep.refl No _).drew (fun _ h => h.elim), HKO.out.put _⟩
                  case measure => simp [intOf]; omega
                · as_aux_lemma =>
                    have p0 : ¬ (m : Int) < (i : Int) := by omega
                    have em : m = i := by omega
                    subst em
                    have HL := hide hlm
                    have HKO := hide hko
                    obtain ⟨H, hH⟩ : ∃ H, H = wr.heap.size := ⟨_, rfl⟩
                    have HHH := hide hH
                    clear hH hlm hko
                    obtain ⟨ab, cb, hform, hl0⟩ := HL.out.bf.form
                    subst hform
                    have HL0 := hide hl0
                    clear hl0
                    go_upto_if 201 with fail
                    rw [← HHH.out]
                    simp only [Nat.add_assoc, Nat.reduceAdd]
                    go_cut [] from 199 to 208 (fun wx => ∃ bv, Lm5 w st m dfn (useK use0 us) A D defs inp.length (valA us inp.length) (valI us inp.length) K Y us (.slice ab (bytesOf us).length cb) g H da cdd bv wx)
                    case first =>
                      by_cases hus : us = []
                      · as_aux_lemma =>
                          have q9 : (bytesOf us).length = 0 := HL0.out.2 hus
                          have q10 : ¬ (0 : Int) < ((bytesOf us).length : Int) := by omega
                          have HN := hide (Lm5.ofNil (da := da) (cdd := cdd) HL.out HHH.out hus)
                          clear hus q9
                          go_wp2
                          go_meet
                          exact ⟨_, HN.out⟩
                      · as_aux_lemma =>
                          have q10 : (0 : Int) < ((bytesOf us).length : Int) := by
                            have : (bytesOf us).length ≠ 0 := fun h => hus (HL0.out.1 h)
                            omega
                          have HN := hide (Lm5.ofSome (da := da) (cdd := cdd) HL.out HHH.out hus)
                          have hH := HHH.out
                          generalize hW5 : ((wr.alloc (.cells #[.string ⟨#[102]⟩] 9)).alloc (.cells #[.nilFunc, .slice (some ⟨H, 0, .none⟩) 1 1, .map .none, .slice .none 0 0, .slice .none 0 0, .map .none, .slice .none 0 0, .slice .none 0 0, .slice .none 0 0, .nilIface, .slice .none 0 0, .bool false, .bool false] 52)).alloc (.cells #[.map .none, .slice (some ⟨K, 0, .none⟩) m m, .slice da defs.length cdd, .slice .none 0 0, .int .u32 0, .int .u32 0, .int .u32 0, .pointer (some ⟨H + 1, 0, .none⟩)] 60) = W5
                          have HN' : Hid (Lm5 w st m dfn (useK use0 us) A D defs inp.length (valA us inp.length) (valI us inp.length) K Y us (.slice ab (bytesOf us).length cb) g H da cdd (.slice (some ⟨H + 3, 0, .none⟩) 1 1) ((W5.setCell ⟨H + 2, 3, .none⟩ (.slice (some ⟨H + 3, 0, .none⟩) 1 1)).alloc (.cells #[.slice ab (bytesOf us).length cb] 25))) := by rw [← hW5]; exact HN.out
                          have s5 : W5.heap.size = H + 3 := by rw [← hW5, hH]; simp
                          have hR : W5.heap[H + 2]? = some (refsO K m da defs.length cdd (.slice .none 0 0) (H + 1)) := by rw [← hW5]; exact heap_alloc_at _ _ _ (by rw [hH]; simp)
                          have c3 : W5.cell? ⟨H + 2, 3, .none⟩ = some (.slice .none 0 0) := by unfold World.cell?; rw [hR]; rfl
                          have z3 : W5.frozen? ⟨H + 2, 3, .none⟩ = false := by unfold World.frozen?; rw [hR]; rfl
                          have l3 : H + 2 < W5.heap.size := by omega
                          clear hus hW5 HN hR hH
                          go_wp2
                          go_meet
                          exact ⟨_, HN'.out⟩
                    case rest =>
                    obtain ⟨bv, hl5⟩ := hcut
                    have H5 := hide hl5
                    obtain ⟨Fb, hFb⟩ : ∃ Fb, Fb = wc.heap.size := ⟨_, rfl⟩
                    have HFB := hide hFb
                    have lts := hl5.lts
                    obtain ⟨useF, huF⟩ : ∃ useF, useF = useK use0 us := ⟨_, rfl⟩
                    rw [← huF] at H5 hl5 HKO
                    obtain ⟨W6, hcp, hk6, ha6, hz6⟩ := copy_use (P := Ybaf.prog) wc wc.heap.size (w.heap.size + 2) m useF hl5.m4.m3.m1.ua Ybaf.underlying22 (by kernel_rfl) (by omega) rfl
                    rw [← hFb] at hk6 ha6 hz6
                    have HFS : Hid (Fs wc Fb m useF W6) := ⟨hk6, ha6, hz6⟩
                    clear hl5 hFb HL HL0 HHH hm3 hk6 ha6 hz6 huF
                    have hm1 := make22 m hN8
                    go_wp2
                    rw [← HFB.out]
                    go_loopw [28] (fun q wr => ∃ r : Nat, r ≤ m + 1 ∧ q = .int .i64 r ∧ ∃ f, Fs wc Fb m f wr ∧ FinO us m dfn useF f r) (fun q _ => m + 1 - (intOf q).toNat)
                    case atStart => exact ⟨0, Nat.zero_le _, rfl, useF, HFS.out, FinO.start⟩
                    case round =>
                      obtain ⟨r, hr, rfl, f, hfs, hfo⟩ := hrel
                      have HS := hide hfs
                      have HO := hide hfo
                      clear hfs hfo HFS
                      by_cases hlr : r ≤ m
                      · as_aux_lemma =>
                          have p0 : (r : Int) ≤ (m : Int) := by omega
                          go_wp2
                          go_loopw [29] (fun q wr => ∃ k : Nat, k ≤ inp.length ∧ q = .int .i64 k ∧ ∃ f', Fs wc Fb m f' wr ∧ FinI us m dfn useF f f' k) (fun q _ => inp.length - (intOf q).toNat)
                          case atStart => exact ⟨0, Nat.zero_le _, rfl, f, HS.out, HO.out.begin⟩
                          case round =>
                            clear HS
                            obtain ⟨k, hk, rfl, f', hfs, hfi⟩ := hrel
                            have HS := hide hfs
                            have HI := hide hfi
                            by_cases hlt : k < inp.length
                            · as_aux_lemma =>
                                obtain ⟨x, hx⟩ : ∃ x, us[k]? = some x := ⟨_, List.getElem?_eq_getElem (by rw [HUL.out]; exact hlt)⟩
                                have hl6 := H5.out.step hfs.keep HFB.out (fun _ h => h)
                                have hxo := HOK.out x (List.mem_of_getElem? hx)
                                have xa := hxo.1
                                have xp := hxo.2.1
                                have g1 := hl6.cA hlt hx
                                have g2 := hl6.cI hlt hx
                                have g3 : wr.cell? ⟨w.heap.size + 1, x.a, .none⟩ = some (.bool (dfn x.a)) := hl6.m4.m3.m1.da.1 x.a xa
                                have g4 : wr.cell? ⟨Fb, x.a, .none⟩ = some (.bool (f' x.a)) := hfs.arr.1 x.a xa
                                have g5 := hfs.arr.2
                                have p1 : (k : Int) < (inp.length : Int) := by omega
                                have p2 : (0 : Int) ≤ (k : Int) := by omega
                                have p3 : (0 : Int) ≤ (x.a : Int) := by omega
                                have p4 : (x.a : Int) < (m : Int) := by omega
                                have HX := hide hx
                                by_cases hp : x.p = 0
                                · rw [hp] at g2
                                  have HP := hide hp
                                  clear hl6 hxo hfs hfi hx hp
                                  go_wp2
                                  go_roundw
                                  case rel => exact ⟨k + 1, by omega, by go_num, f', HS.out, HI.out.same HX.out (fun h => absurd HP.out h)⟩
                                  case measure => simp [intOf]; omega
                                · obtain ⟨pi, hpi⟩ : ∃ pi, x.p = pi + 1 := ⟨x.p - 1, by omega⟩
                                  rw [show (x.p : Int) - 1 = (pi : Int) by omega] at g2
                                  have hpm : pi < m := by omega
                                  have g6 : wr.cell? ⟨Fb, pi, .none⟩ = some (.bool (f' pi)) := hfs.arr.1 pi hpm
                                  have p5 : (0 : Int) ≤ (pi : Int) := by omega
                                  have p6 : (pi : Int) < (m : Int) := by omega
                                  have p7 : ((pi : Int) != -1) = true := by simp
                                  have HP := hide hp
                                  have HPI := hide hpi
                                  clear hl6 hxo hfs hfi hx hp hpi
                                  cases hf : f' pi
                                  · rw [hf] at g6
                                    have HF1 := hide hf
                                    clear hf
                                    go_wp2
                                    go_roundw
                                    case rel => exact ⟨k + 1, by omega, by go_num, f', HS.out, HI.out.same HX.out (fun _ h => by rw [HPI.out, Nat.add_sub_cancel, HF1.out] at h; cases h)⟩
                                    case measure => simp [intOf]; omega
                                  · rw [hf] at g6
                                    have HF1 := hide hf
                                    clear hf
                                    cases hd : dfn x.a
                                    · rw [hd] at g3
                                      have HD1 := hide hd
                                      clear hd
                                      go_wp2
                                      go_roundw
                                      case rel => exact ⟨k + 1, by omega, by go_num, f', HS.out, HI.out.same HX.out (fun _ _ h => by rw [HD1.out] at h; cases h)⟩
                                      case measure => simp [intOf]; omega
                                    · rw [hd] at g3
                                      have HD1 := hide hd
                                      clear hd
                                      go_wp2
                                      go_roundw
                                      case rel =>
                                        refine ⟨k + 1, by omega, by go_num, fun i => if i = x.a then true else f' i, HS.out.set x.a true (fun _ => rfl), ?_⟩
                                        have hfp : f' (x.p - 1) = true := by rw [HPI.out, Nat.add_sub_cancel]; exact HF1.out
                                        cases ha : f' x.a
                                        · exact HI.out.set HX.out HP.out hfp HD1.out ha xa
                                        · have e : (fun i => if i = x.a then true else f' i) = f' := by
                                            funext i
                                            by_cases e : i = x.a
                                            · rw [e, if_pos rfl, ha]
                                            · rw [if_neg e]
                                          rw [e]
                                          exact HI.out.same HX.out (fun _ _ _ => ha)
                                      case measure => simp [intOf]; omega
                            · as_aux_lemma =>
                                have p1 : ¬ (k : Int) < (inp.length : Int) := by omega
                                have ek : k = us.length := by rw [HUL.out]; omega
                                subst ek
                                clear hfs hfi
                                go_wp2
                                go_roundw
                                case rel => exact ⟨r + 1, by omega, by go_num, f', HS.out, HI.out.over HO.out⟩
                                case measure => simp [intOf]; omega
                      · as_aux_lemma =>
                          have p0 : ¬ (r : Int) ≤ (m : Int) := by omega
                          have er : r = m + 1 := by omega
                          subst er
                          have HFR := hide HO.out.over
                          clear HO
                          go_wp2
                          -- wantU
                          go_loopw [30, 31] (fun c q wr => ∃ k : Nat, k ≤ inp.length ∧ q = .int .i64 k ∧ c = .int .i64 (wantK dfn f (us.take k)) ∧ Fs wc Fb m f wr) (fun _ q _ => inp.length - (intOf q).toNat)
                          case atStart => exact ⟨0, Nat.zero_le _, rfl, rfl, HS.out⟩
                          case round =>
                            clear HS
                            obtain ⟨k, hk, rfl, rfl, hfs⟩ := hrel
                            have HS := hide hfs
                            by_cases hlt : k < inp.length
                            · as_aux_lemma =>
                                obtain ⟨x, hx⟩ : ∃ x, us[k]? = some x := ⟨_, List.getElem?_eq_getElem (by rw [HUL.out]; exact hlt)⟩
                                have hl6 := H5.out.step hfs.keep HFB.out (fun _ h => h)
                                have hxo := HOK.out x (List.mem_of_getElem? hx)
                                have xa := hxo.1
                                have xp := hxo.2.1
                                have g1 := hl6.cA hlt hx
                                have g2 := hl6.cI hlt hx
                                have g3 : wr.cell? ⟨w.heap.size + 1, x.a, .none⟩ = some (.bool (dfn x.a)) := hl6.m4.m3.m1.da.1 x.a xa
                                have p1 : (k : Int) < (inp.length : Int) := by omega
                                have p2 : (0 : Int) ≤ (k : Int) := by omega
                                have p3 : (0 : Int) ≤ (x.a : Int) := by omega
                                have p4 : (x.a : Int) < (m : Int) := by omega
                                have hwl : wantK dfn f (us.take k) ≤ 1024 := by
                                  have h1 := wantK_le (dfn := dfn) (f := f) (us.take k)
                                  have h2 := List.length_take_le k us
                                  omega
                                have HX := hide hx
                                cases hd : dfn x.a
                                · rw [hd] at g3
                                  have HD1 := hide hd
                                  by_cases hp : x.p = 0
                                  · rw [hp] at g2
                                    have HP := hide hp
                                    clear hl6 hxo hfs hx hp hd
                                    generalize hwk : wantK dfn f (us.take k) = wk at hwl ⊢
                                    have HWK := hide hwk
                                    clear hwk
                                    go_wp2
                                    go_roundw
                                    case rel => exact ⟨k + 1, by omega, by go_num, by rw [wantK_top HX.out HD1.out HP.out, HWK.out]; go_num, HS.out⟩
                                    case measure => simp [intOf]; omega
                                  · obtain ⟨pi, hpi⟩ : ∃ pi, x.p = pi + 1 := ⟨x.p - 1, by omega⟩
                                    rw [show (x.p : Int) - 1 = (pi : Int) by omega] at g2
                                    have hpm : pi < m := by omega
                                    have g6 : wr.cell? ⟨Fb, pi, .none⟩ = some (.bool (f pi)) := hfs.arr.1 pi hpm
                                    have p5 : (0 : Int) ≤ (pi : Int) := by omega
                                    have p6 : (pi : Int) < (m : Int) := by omega
                                    have p7 : ((pi : Int) == -1) = false := by simp
                                    have HP := hide hp
                                    have HPI := hide hpi
                                    clear hl6 hxo hfs hx hp hpi hd
                                    generalize hwk : wantK dfn f (us.take k) = wk at hwl ⊢
                                    have HWK := hide hwk
                                    clear hwk
                                    cases hf : f pi
                                    · rw [hf] at g6
                                      have HF1 := hide hf
                                      clear hf
                                      go_wp2
                                      go_roundw
                                      case rel => exact ⟨k + 1, by omega, by go_num, by rw [wantK_not HX.out HP.out (by rw [HPI.out, Nat.add_sub_cancel]; exact HF1.out), HWK.out], HS.out⟩
                                      case measure => simp [intOf]; omega
                                    · rw [hf] at g6
                                      have HF1 := hide hf
                                      clear hf
                                      go_wp2
                                      go_roundw
                                      case rel => exact ⟨k + 1, by omega, by go_num, by rw [wantK_fin HX.out HD1.out HP.out (by rw [HPI.out, Nat.add_sub_cancel]; exact HF1.out), HWK.out]; go_num, HS.out⟩
                                      case measure => simp [intOf]; omega
                                · rw [hd] at g3
                                  have HD1 := hide hd
                                  clear hl6 hxo hfs hx hd
                                  generalize hwk : wantK dfn f (us.take k) = wk at hwl ⊢
                                  have HWK := hide hwk
                                  clear hwk
                                  go_wp2
                                  go_roundw
                                  case rel => exact ⟨k + 1, by omega, by go_num, by rw [wantK_def HX.out HD1.out, HWK.out], HS.out⟩
                                  case measure => simp [intOf]; omega
                            · as_aux_lemma =>
                                have p1 : ¬ (k : Int) < (inp.length : Int) := by omega
                                have ek : k = inp.length := by omega
                                subst ek
                                have et : us.take inp.length = us := List.take_of_length_le (by rw [HUL.out]; exact Nat.le_refl _)
                                rw [et]
                                clear hfs et
                                go_wp2
                                -- wantN
                                go_loopw [32, 33] (fun c q wr => ∃ k : Nat, k ≤ m ∧ q = .int .i64 k ∧ c = .int .i64 (((List.range k).filter dfn).filter fun d => !f d).length ∧ Fs wc Fb m f wr) (fun _ q _ => m - (intOf q).toNat)
                                case atStart => exact ⟨0, Nat.zero_le _, rfl, rfl, HS.out⟩
                                case round =>
                                  clear HS
                                  obtain ⟨k, hk, rfl, rfl, hfs⟩ := hrel
                                  have HS := hide hfs
                                  by_cases hlt : k < m
                                  · as_aux_lemma =>
                                      have hl6 := H5.out.step hfs.keep HFB.out (fun _ h => h)
                                      have g3 : wr.cell? ⟨w.heap.size + 1, k, .none⟩ = some (.bool (dfn k)) := hl6.m4.m3.m1.da.1 k hlt
                                      have g4 : wr.cell? ⟨Fb, k, .none⟩ = some (.bool (f k)) := hfs.arr.1 k hlt
                                      have p1 : (k : Int) < (m : Int) := by omega
                                      have p2 : (0 : Int) ≤ (k : Int) := by omega
                                      have er : ((List.range (k + 1)).filter dfn).filter (fun d => !f d) = ((List.range k).filter dfn).filter (fun d => !f d) ++ (if dfn k = true ∧ f k = false then [k] else []) := by
                                        rw [List.range_succ, List.filter_append, List.filter_append]
                                        by_cases e1 : dfn k = true <;> by_cases e2 : f k = true <;> simp [e1, e2]
                                      have hwl : (((List.range k).filter dfn).filter fun d => !f d).length ≤ 8 := by
                                        have h1 := List.length_filter_le (fun d => !f d) ((List.range k).filter dfn)
                                        have h2 := List.length_filter_le dfn (List.range k)
                                        rw [List.length_range] at h2
                                        omega
                                      have HER := hide er
                                      clear hl6 hfs er
                                      generalize hwk : ((List.range k).filter dfn).filter (fun d => !f d) = wk at hwl HER ⊢
                                      clear hwk
                                      cases hd : dfn k
                                      · rw [hd] at g3
                                        have HD1 := hide hd
                                        clear hd
                                        go_wp2
                                        go_roundw
                                        case rel => exact ⟨k + 1, by omega, by go_num, by rw [HER.out, HD1.out]; simp, HS.out⟩
                                        case measure => simp [intOf]; omega
                                      · rw [hd] at g3
                                        have HD1 := hide hd
                                        clear hd
                                        cases hf : f k
                                        · rw [hf] at g4
                                          have HF1 := hide hf
                                          clear hf
                                          go_wp2
                                          go_roundw
                                          case rel => exact ⟨k + 1, by omega, by go_num, by rw [HER.out, HD1.out, HF1.out]; simp; try go_num, HS.out⟩
                                          case measure => simp [intOf]; omega
                                        · rw [hf] at g4
                                          have HF1 := hide hf
                                          clear hf
                                          go_wp2
                                          go_roundw
                                          case rel => exact ⟨k + 1, by omega, by go_num, by rw [HER.out, HD1.out, HF1.out]; simp, HS.out⟩
                                          case measure => simp [intOf]; omega
                                  · as_aux_lemma =>
                                      have p1 : ¬ (k : Int) < (m : Int) := by omega
                                      have ek : m = k := by omega
                                      subst ek
                                      clear hfs
                                      rw [← HDE.out]
                                      obtain ⟨Vb, hVb⟩ : ∃ Vb, Vb = wr.heap.size := ⟨_, rfl⟩
                                      have HVB := hide hVb
                                      clear hVb
                                      go_wp2
                                      rw [← HVB.out]
                                      -- alive
                                      go_loopw [35] (fun q wr => ∃ k : Nat, k ≤ m ∧ q = .int .i64 k ∧ Vs wc Fb Vb m f (fun i => decide (i < k) && (dfn i && f i)) wr) (fun q _ => m - (intOf q).toNat)
                                      case atStart =>
                                        have hVb := HVB.out
                                        subst hVb
                                        have hs := HS.out
                                        refine ⟨0, Nat.zero_le _, rfl, ⟨hs.keep.alloc _, hs.arr.keep ((Keep.refl No wr).alloc _) (fun h => h) hs.lt, by simp; have := hs.lt; omega⟩, (arr_new wr m (.bool false) 4).congr fun i _ => by simp, hs.lt, by simp⟩
                                      case round =>
                                        clear HS HVB
                                        obtain ⟨k, hk, rfl, hvs⟩ := hrel
                                        have HV := hide hvs
                                        by_cases hlt : k < m
                                        · as_aux_lemma =>
                                            have hl6 := H5.out.step hvs.fs.keep HFB.out (fun _ h => h)
                                            have g3 : wr.cell? ⟨w.heap.size + 1, k, .none⟩ = some (.bool (dfn k)) := hl6.m4.m3.m1.da.1 k hlt
                                            have g4 : wr.cell? ⟨Fb, k, .none⟩ = some (.bool (f k)) := hvs.fs.arr.1 k hlt
                                            have g5 := hvs.arr.1 k hlt
                                            have g6 := hvs.arr.2
                                            have p1 : (k : Int) < (m : Int) := by omega
                                            have p2 : (0 : Int) ≤ (k : Int) := by omega
                                            have hfill : ∀ i, (if i = k then (dfn k && f k) else (decide (i < k) && (dfn i && f i))) = (decide (i < k + 1) && (dfn i && f i)) := by
                                              intro i
                                              by_cases e : i = k
                                              · subst e; simp
                                              · have : (i < k + 1) ↔ (i < k) := by omega
                                                simp [e, this]
                                            have HFI := hide hfill
                                            clear hl6 hvs hfill
                                            cases hd : dfn k
                                            · rw [hd] at g3
                                              have HD1 := hide hd
                                              clear hd
                                              go_wp2
                                              go_roundw
                                              case rel => exact ⟨k + 1, by omega, by go_num, HV.out.set k false (fun i => by have := HFI.out i; rw [HD1.out] at this; exact this)⟩
                                              case measure => simp [intOf]; omega
                                            · rw [hd] at g3
                                              have HD1 := hide hd
                                              clear hd
                                              go_wp2
                                              go_roundw
                                              case rel => exact ⟨k + 1, by omega, by go_num, HV.out.set k (f k) (fun i => by have := HFI.out i; rw [HD1.out] at this; exact this)⟩
                                              case measure => simp [intOf]; omega
                                        · as_aux_lemma =>
                                            have p1 : ¬ (k : Int) < (m : Int) := by omega
                                            have ek : m = k := by omega
                                            subst ek
                                            have HV2 : Hid (Vs wc Fb Vb m f (fun i => dfn i && f i) wr) := ⟨hvs.fs, hvs.arr.congr fun i hi => by simp [hi], hvs.lo, hvs.lt⟩
                                            clear hvs HV
                                            go_wp2
                                            go_loopw [36] (fun q wr => ∃ r : Nat, r ≤ m + 1 ∧ q = .int .i64 r ∧ ∃ a, Vs wc Fb Vb m f a wr ∧ AlvO us m dfn f a r) (fun q _ => m + 1 - (intOf q).toNat)
                                            case atStart => exact ⟨0, Nat.zero_le _, rfl, _, HV2.out, AlvO.start⟩
                                            case round =>
                                              clear HV2
                                              obtain ⟨r, hr, rfl, a, hvs, hao⟩ := hrel
                                              have HV := hide hvs
                                              have HAO := hide hao
                                              clear hvs hao
                                              by_cases hlr : r ≤ m
                                              · as_aux_lemma =>
                                                  have p0 : (r : Int) ≤ (m : Int) := by omega
                                                  go_wp2
                                                  go_loopw [37] (fun q wr => ∃ k : Nat, k ≤ m ∧ q = .int .i64 k ∧ ∃ a', Vs wc Fb Vb m f a' wr ∧ AlvI us m dfn f a a' k) (fun q _ => m - (intOf q).toNat)
                                                  case atStart => exact ⟨0, Nat.zero_le _, rfl, a, HV.out, HAO.out.begin⟩
                                                  case round =>
                                                    clear HV
                                                    obtain ⟨k, hk, rfl, a', hvs, hai⟩ := hrel
                                                    have HV := hide hvs
                                                    have HAI := hide hai
                                                    by_cases hlt : k < m
                                                    · as_aux_lemma =>
                                                        have g5 : wr.cell? ⟨Vb, k, .none⟩ = some (.bool (a' k)) := hvs.arr.1 k hlt
                                                        have p1 : (k : Int) < (m : Int) := by omega
                                                        have p2 : (0 : Int) ≤ (k : Int) := by omega
                                                        clear hvs hai
                                                        cases ha : a' k
                                                        · rw [ha] at g5
                                                          have HA1 := hide ha
                                                          clear ha
                                                          go_wp2
                                                          go_roundw
                                                          case rel => exact ⟨k + 1, by omega, by go_num, a', HV.out, HAI.out.same (fun h => by rw [HA1.out] at h; cases h)⟩
                                                          case measure => simp [intOf]; omega
                                                        · rw [ha] at g5
                                                          have HA1 := hide ha
                                                          clear ha
                                                          go_wp2
                                                          go_loopw [38, 39] (fun h q wr => ∃ j : Nat, j ≤ inp.length ∧ q = .int .i64 j ∧ ∃ hb : Bool, h = .bool hb ∧ (hb = true ↔ ∃ u ∈ us.take j, u.p = k + 1 ∧ a' u.a = true) ∧ Vs wc Fb Vb m f a' wr) (fun _ q _ => inp.length - (intOf q).toNat)
                                                          case atStart => exact ⟨0, Nat.zero_le _, rfl, false, rfl, by simp, HV.out⟩
                                                          case round =>
                                                            clear HV g5
                                                            obtain ⟨j, hj, rfl, hb, rfl, hiff, hvs⟩ := hrel
                                                            have HV := hide hvs
                                                            have HIF := hide hiff
                                                            by_cases hlt2 : j < inp.length
                                                            · as_aux_lemma =>
                                                                obtain ⟨x, hx⟩ : ∃ x, us[j]? = some x := ⟨_, List.getElem?_eq_getElem (by rw [HUL.out]; exact hlt2)⟩
                                                                have hl6 := H5.out.step hvs.fs.keep HFB.out (fun _ h => h)
                                                                have xa := (HOK.out x (List.mem_of_getElem? hx)).1
                                                                have xp := (HOK.out x (List.mem_of_getElem? hx)).2.1
                                                                have g1 := hl6.cA hlt2 hx
                                                                have g2 := hl6.cI hlt2 hx
                                                                have g4 : wr.cell? ⟨Vb, x.a, .none⟩ = some (.bool (a' x.a)) := hvs.arr.1 x.a xa
                                                                obtain ⟨pv, hpv⟩ : ∃ pv, pv = (x.p : Int) - 1 := ⟨_, rfl⟩
                                                                rw [← hpv] at g2
                                                                have p3 : (j : Int) < (inp.length : Int) := by omega
                                                                have p4 : (0 : Int) ≤ (j : Int) := by omega
                                                                have p5 : (0 : Int) ≤ (x.a : Int) := by omega
                                                                have p6 : (x.a : Int) < (m : Int) := by omega
                                                                have ets : ∀ Q : Us → Prop, (∃ u ∈ us.take (j + 1), Q u) ↔ (∃ u ∈ us.take j, Q u) ∨ Q x := by
                                                                  intro Q
                                                                  rw [take_snoc hx]
                                                                  constructor
                                                                  · rintro ⟨u, hu, hq⟩
                                                                    rcases List.mem_append.1 hu with hu | hu
                                                                    · exact .inl ⟨u, hu, hq⟩
                                                                    · rw [List.mem_singleton.1 hu] at hq; exact .inr hq
                                                                  · rintro (⟨u, hu, hq⟩ | hq)
                                                                    · exact ⟨u, List.mem_append.2 (.inl hu), hq⟩
                                                                    · exact ⟨x, List.mem_append.2 (.inr (by simp)), hq⟩
                                                                have HET := hide ets
                                                                by_cases he : x.p = k + 1
                                                                · have q5 : (pv == (k : Int)) = true := by simp; omega
                                                                  have HE := hide he
                                                                  clear hl6 hvs hiff hx hpv ets he
                                                                  cases hax : a' x.a
                                                                  · rw [hax] at g4
                                                                    have HX1 := hide hax
                                                                    clear hax
                                                                    go_wp2
                                                                    go_roundw
                                                                    case rel => exact ⟨j + 1, by omega, by go_num, hb, rfl, by rw [HET.out, HX1.out]; simpa using HIF.out, HV.out⟩
                                                                    case measure => simp [intOf]; omega
                                                                  · rw [hax] at g4
                                                                    have HX1 := hide hax
                                                                    clear hax
                                                                    go_wp2
                                                                    go_roundw
                                                                    case rel => exact ⟨j + 1, by omega, by go_num, true, rfl, by rw [HET.out]; exact ⟨fun _ => .inr ⟨HE.out, HX1.out⟩, fun _ => rfl⟩, HV.out⟩
                                                                    case measure => simp [intOf]; omega
                                                                · have q5 : (pv == (k : Int)) = false := by simp; omega
                                                                  have HE := hide he
                                                                  clear hl6 hvs hiff hx hpv ets he
                                                                  go_wp2
                                                                  go_roundw
                                                                  case rel => exact ⟨j + 1, by omega, by go_num, hb, rfl, by rw [HET.out, HIF.out]; exact ⟨.inl, fun h => h.elim id (fun h => absurd h.1 HE.out)⟩, HV.out⟩
                                                                  case measure => simp [intOf]; omega
                                                            · as_aux_lemma =>
                                                                have p3 : ¬ (j : Int) < (inp.length : Int) := by omega
                                                                have ej : j = inp.length := by omega
                                                                subst ej
                                                                have et : us.take inp.length = us := List.take_of_length_le (by rw [HUL.out]; exact Nat.le_refl _)
                                                                rw [et] at HIF
                                                                have g5 : wr.cell? ⟨Vb, k, .none⟩ = some (.bool (a' k)) := hvs.arr.1 k hlt
                                                                have g6 := hvs.arr.2
                                                                clear hvs hiff et
                                                                cases hb with
                                                                | false =>
                                                                  go_wp2
                                                                  go_roundw
                                                                  case rel => exact ⟨k + 1, by omega, by go_num, _, HV.out.set k false (fun _ => rfl), HAI.out.drop hlt HA1.out (fun h => by have := HIF.out.2 h; cases this)⟩
                                                                  case measure => simp [intOf]; omega
                                                                | true =>
                                                                  go_wp2
                                                                  go_roundw
                                                                  case rel => exact ⟨k + 1, by omega, by go_num, a', HV.out, HAI.out.same (fun _ => HIF.out.1 rfl)⟩
                                                                  case measure => simp [intOf]; omega
                                                    · as_aux_lemma =>
                                                        have p1 : ¬ (k : Int) < (m : Int) := by omega
                                                        have ek : m = k := by omega
                                                        subst ek
                                                        clear hvs hai
                                                        go_wp2
                                                        go_roundw
                                                        case rel => exact ⟨r + 1, by omega, by go_num, a', HV.out, HAI.out.over HAO.out⟩
                                                        case measure => simp [intOf]; omega
                                              · as_aux_lemma =>
                                                  have p0 : ¬ (r : Int) ≤ (m : Int) := by omega
                                                  have er : r = m + 1 := by omega
                                                  subst er
                                                  have HAV := hide (HAO.out.over (fun u hu => (HOK.out u hu).1))
                                                  clear HAO
                                                  go_wp2
                                                  go_loopw [40, 41] (fun h q wr => ∃ k : Nat, k ≤ m ∧ q = .int .i64 k ∧ ∃ hb : Bool, h = .bool hb ∧ (hb = true ↔ ∃ i, i < k ∧ a i = true) ∧ Vs wc Fb Vb m f a wr) (fun _ q _ => m - (intOf q).toNat)
                                                  case atStart => exact ⟨0, Nat.zero_le _, rfl, false, rfl, by simp, HV.out⟩
                                                  case round =>
                                                    clear HV
                                                    obtain ⟨k, hk, rfl, hb, rfl, hiff, hvs⟩ := hrel
                                                    have HV := hide hvs
                                                    have HIF := hide hiff
                                                    by_cases hlt : k < m
                                                    · as_aux_lemma =>
                                                        have g5 : wr.cell? ⟨Vb, k, .none⟩ = some (.bool (a k)) := hvs.arr.1 k hlt
                                                        have p1 : (k : Int) < (m : Int) := by omega
                                                        have p2 : (0 : Int) ≤ (k : Int) := by omega
                                                        clear hvs hiff
                                                        cases ha : a k
                                                        · rw [ha] at g5
                                                          have HA1 := hide ha
                                                          clear ha
                                                          go_wp2
                                                          go_roundw
                                                          case rel =>
                                                            refine ⟨k + 1, by omega, by go_num, hb, rfl, ?_, HV.out⟩
                                                            rw [HIF.out]
                                                            constructor
                                                            · rintro ⟨i, hi, h⟩; exact ⟨i, by omega, h⟩
                                                            · rintro ⟨i, hi, h⟩
                                                              have : i ≠ k := fun e => by rw [e, HA1.out] at h; cases h
                                                              exact ⟨i, by omega, h⟩
                                                          case measure => simp [intOf]; omega
                                                        · rw [ha] at g5
                                                          have HA1 := hide ha
                                                          clear ha
                                                          go_wp2
                                                          go_roundw
                                                          case rel => exact ⟨k + 1, by omega, by go_num, true, rfl, ⟨fun _ => ⟨k, by omega, HA1.out⟩, fun _ => rfl⟩, HV.out⟩
                                                          case measure => simp [intOf]; omega
                                                    · as_aux_lemma =>
                                                        have p1 : ¬ (k : Int) < (m : Int) := by omega
                                                        have ek : m = k := by omega
                                                        subst ek
                                                        have HCY : Hid (hb = true ↔ Ring (heldOf us) m dfn f) := hiff.trans HAV.out
                                                        clear hvs hiff HIF HAV
                                                        have hl6 := H5.out.step HV.out.fs.keep HFB.out (fun _ h => h)
                                                        have HL6 := hide hl6
                                                        have g9 := hl6.m4.m3.m1.sb.cell
                                                        have n9 : w.heap.size < wr.heap.size := by have := hl6.lts; omega
                                                        have n10 : w.heap.size < wr.heap.size + 1 := by omega
                                                        have n11 : w.heap.size < wr.heap.size + 1 + 1 := by omega
                                                        have n12 : w.heap.size < wr.heap.size + 1 + 1 + 1 := by omega
                                                        clear hl6
                                                        go_wp2_with (go_at_call 7; refine (call7 F0 (gg := wr.heap.size) HF.out HSE.out HL6.out HV.out.fs HFB.out lts.2.2.2 HKO.out (fun h => (HD0.out h).1) HDN.out HDD.out hN8 hN0 (by rw [HUL.out]; exact hl) HOK.out HFR.out HCY.out rfl).mono ?_; rintro e w7 ⟨rfl, hdn⟩; have HDO := hide hdn; obtain ⟨c, d4, hcd⟩ := hdn.gc; have d1 : w7.cell? ⟨wr.heap.size + 1 + 1 + 1, 0, .none⟩ = some (.bool true) := hdn.ok; have d2 := hdn.gu; have d3 : w7.cell? ⟨wr.heap.size + 1 + 1, 0, .none⟩ = some (.int .i64 (defs.filter fun d => !f d).length) := hdn.gn; have hcd2 : decide ((0 : Int) < (c : Int)) = hb := (by rw [← hcd]; simp); clear hdn g9 n9 n10 n11 n12)
                                                        clear d1 d2 d3 d4 hcd hcd2
                                                        go_loopw [47] (fun q wx => ∃ k : Nat, k ≤ m ∧ q = .int .i64 k ∧ LDone w m dfn useF f hb K H wr.heap.size Fb defs us wx) (fun q _ => m - (intOf q).toNat)
                                                        case atStart => exact ⟨0, Nat.zero_le _, rfl, HDO.out⟩
                                                        case round =>
                                                          clear HDO
                                                          obtain ⟨k, hk, rfl, hdo⟩ := hrel
                                                          have HDO := hide hdo
                                                          by_cases hlt : k < m
                                                          · as_aux_lemma =>
                                                              have e1 := hdo.rf
                                                              have e2 := hdo.k5 k hlt
                                                              have e3 := hdo.k6 k hlt
                                                              have e4 := hdo.da k hlt
                                                              have p1 : (k : Int) < (m : Int) := by omega
                                                              have p2 : (0 : Int) ≤ (k : Int) := by omega
                                                              cases hd : dfn k
                                                              · have e5 := hdo.ua k hlt
                                                                rw [hdo.fu k hd] at e3
                                                                rw [hd] at e2 e4
                                                                clear hdo hd
                                                                go_wp2
                                                                go_quiet (fail)
                                                                go_wp2
                                                                go_quiet (fail)
                                                                go_wp2
                                                                go_quiet (fail)
                                                                go_wp2
                                                                go_roundw
                                                                case rel => exact ⟨k + 1, by omega, by go_num, HDO.out.drewN _⟩
                                                                case measure => simp [intOf]; omega
                                                              · have e5 := hdo.fa k hlt
                                                                rw [hd] at e2 e4
                                                                clear hdo hd
                                                                go_wp2
                                                                go_quiet (fail)
                                                                go_wp2
                                                                go_quiet (fail)
                                                                go_wp2
                                                                go_quiet (fail)
                                                                go_wp2
                                                                go_roundw
                                                                case rel => exact ⟨k + 1, by omega, by go_num, HDO.out.drewN _⟩
                                                                case measure => simp [intOf]; omega
                                                          · as_aux_lemma =>
                                                              have p1 : ¬ (k : Int) < (m : Int) := by omega
                                                              clear hdo
                                                              go_wp2
                                                              go_ret
                                                              exact ⟨rfl, HDO.out.keep.below (Nat.le_refl _) (fun _ h => h)⟩

set_option maxHeartbeats 2000000 in
set_option maxRecDepth 100000 in
theorem law_long (w : World) (n : Nat) (ad au ak : Option Addr) (ld cd lu cu lk ck : Nat) (st : Bool) (hl : 512 < lk) :
    Calls Ybaf.prog 3 #[.int .u8 n, .slice ad ld cd, .slice au lu cu, .slice ak lk ck, .bool st] w fun e w' => e = .returned (.bool true) ∧ Below w.heap.size w w' := by
  have q0 : (512 : Int) < (lk : Int) := by omega
  go_enter Ybaf.func3, Ybaf.ntmps3
  go_wp2
  go_ret
  exact ⟨rfl, (Below.refl _ w).alloc (Nat.le_refl _) _⟩
end Go.Proofs.YbulkatxsFmt.cnt
