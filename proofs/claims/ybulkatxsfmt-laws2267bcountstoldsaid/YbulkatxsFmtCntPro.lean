/-
  Of LawS2267BCounts: what lies in memory while problems goes on.
-/
import Derived.Test.YbulkatxsFmtCntHeld
import Derived.Test.YbulkatxsFmtCntReach
import Derived.Test.YbulkatxsFmtCntCycs
import Derived.Test.YbulkatxsFmtCntStab
namespace Go.Proofs.YbulkatxsFmt.cnt
open Go.ChangeShapes Go.WideShapes Go.ChangeAt Go.RowKit Go
open Go.Extern.Stop Go.Stop Go.Extern

def Cnt4 (G : Geo) (i : Nat) : Prop := i = G.K ∨ G.g ≤ i ∧ i ≤ G.g + 2

structure Pro (G : Geo) (w : World) (gb : Nat) (a : Option Addr) (cap : Nat) (L : List Hu) (used : Nat → Bool) (c u nn : Nat) (W : World) : Prop where
  keep : Keep (Cnt4 G) w W
  mt : Mut G W used c u nn
  b3 : Boxed W w.heap.size 39 (.pointer (some ⟨G.R, 0, .none⟩))
  b4 : Boxed W (w.heap.size + 1) 4 (.bool G.st)
  b5 : Boxed W (w.heap.size + 2) 42 G.rep
  b6 : Boxed W (w.heap.size + 3) 80 (clo w.heap.size)
  b7 : Boxed W (w.heap.size + 4) 82 (.slice a L.length cap)
  hl : Hld W gb a cap L
  gb0 : w.heap.size + 5 ≤ gb
  gb1 : gb < W.heap.size
  gb2 : gb ≠ w.heap.size + 6
  dfr : W.heap[w.heap.size + 6]? = some (.deferred (some []))

section
variable {G : Geo} {w : World} {gb : Nat} {a : Option Addr} {cap : Nat} {L : List Hu} {used : Nat → Bool} {c u nn : Nat} {W W' : World}

theorem Pro.fix (h : Pro G w gb a cap L used c u nn W) (o : G.Ok) (hf : Fix G w) : Fix G W :=
  hf.keep o h.keep fun i hi => by
    obtain ⟨_, _, _, _, _, _, _, s0, d0, sK, dK, kM, mL, lR, rg, _, _, _, _⟩ := o
    rcases hi with rfl | ⟨h1, h2⟩ <;> (refine ⟨?_, ?_, ?_, ?_, ?_, ?_⟩ <;> omega)

/-- all but the counters and the flags may turn from B' on -/
theorem Pro.step {T : Nat → Prop} (h : Pro G w gb a cap L used c u nn W) (o : G.Ok) (sz : G.g + 3 < w.heap.size) (k : Keep T W W') (hT : ∀ i, T i → w.heap.size + 7 ≤ i ∧ i ≠ gb) : Pro G w gb a cap L used c u nn W' := by
  have e1 := o.rg; have e2 := o.lR; have e3 := o.mL; have e4 := o.kM
  have f : ∀ b, b < w.heap.size + 7 → ¬ T b := fun b hb ht => by have := hT b ht; omega
  exact ⟨h.keep.then k (fun i hi ht => absurd ht (f i (by omega))), h.mt.keep k o.n0 (fun i ht => by have := hT i ht; omega), k.boxed h.b3 (f _ (by omega)), k.boxed h.b4 (f _ (by omega)), k.boxed h.b5 (f _ (by omega)), k.boxed h.b6 (f _ (by omega)), k.boxed h.b7 (f _ (by omega)),
    h.hl.keep k (fun ht => (hT _ ht).2 rfl), h.gb0, Nat.lt_of_lt_of_le h.gb1 k.size, h.gb2, (k.block _ (lt_of_heap h.dfr) (f _ (by omega))).trans h.dfr⟩
theorem Pro.no (h : Pro G w gb a cap L used c u nn W) (o : G.Ok) (sz : G.g + 3 < w.heap.size) (k : Keep No W W') : Pro G w gb a cap L used c u nn W' := h.step o sz k (fun _ hi => hi.elim)

/-- a counter or a flag turns -/
theorem Pro.told {used' : Nat → Bool} {c' u' nn' : Nat} {T : Nat → Prop} (h : Pro G w gb a cap L used c u nn W) (o : G.Ok) (sz : G.g + 3 < w.heap.size) (k : Keep T W W') (hT : ∀ i, T i → Cnt4 G i) (m : Mut G W' used' c' u' nn') : Pro G w gb a cap L used' c' u' nn' W' := by
  have e1 := o.rg; have e2 := o.lR; have e3 := o.mL; have e4 := o.kM
  have f : ∀ b, w.heap.size ≤ b → ¬ T b := fun b hb ht => by rcases hT b ht with h | ⟨h, h'⟩ <;> omega
  have g0 := h.gb0
  exact ⟨h.keep.then k (fun i hi ht => hT i ht), m, k.boxed h.b3 (f _ (by omega)), k.boxed h.b4 (f _ (by omega)), k.boxed h.b5 (f _ (by omega)), k.boxed h.b6 (f _ (by omega)), k.boxed h.b7 (f _ (by omega)),
    h.hl.keep k (f _ (by omega)), h.gb0, Nat.lt_of_lt_of_le h.gb1 k.size, h.gb2, (k.block _ (lt_of_heap h.dfr) (f _ (by omega))).trans h.dfr⟩
theorem Pro.setUsed (h : Pro G w gb a cap L used c u nn W) (o : G.Ok) (sz : G.g + 3 < w.heap.size) (n : Nat) : Pro G w gb a cap L (fun i => used i || i == n) c u nn (W.setCell ⟨G.K, n * 7 + 6, .none⟩ (.bool true)) :=
  h.told o sz ((Keep.refl (fun i => i = G.K) W).setCell (p := ⟨G.K, n * 7 + 6, .none⟩) (fun _ => rfl) _) (fun _ hi => .inl hi) (h.mt.setUsed o n)
end

theorem holdA_of {W : World} {base g cap : Nat} {H : List Hu} (hr : W.ownsRow base 74 5 (.slice (some ⟨g, 0, .none⟩) H.length cap) H.length (cellsOf H)) : HoldA W g H.toArray := by
  refine ⟨fun k hk => ?_, fun j => hr.frozenAt j⟩
  have hk' : k < H.length := by simpa using hk
  have e : H[k]? = some H[k] := List.getElem?_eq_getElem hk'
  have e2 : H.toArray[k]! = H[k] := by simp [hk']
  have c : ∀ i, i < 5 → W.cell? ⟨g, k * 5 + i, .none⟩ = (five H[k])[i]? := fun i hi => by
    rw [hr.cellAt (k * 5 + i) (by omega)]; exact cellsOf_get H k i _ e hi
  rw [e2]
  exact ⟨c 0 (by omega), c 1 (by omega), c 2 (by omega), c 3 (by omega), c 4 (by omega)⟩

open Go.Sort (PermIn) in
theorem sorted_any {G : Geo} {w : World} {used : Nat → Bool} {us : List Us} {W : World} (h : Col G w used us W) (o : G.Ok) (sz : G.g + 3 < w.heap.size) (hlen : us.length ≤ 512) (hD : W.heap[w.heap.size + 6]? = some (.deferred (some []))) :
    ∃ v, Boxed W (w.heap.size + 4) 82 v ∧ Calls Ybaf.prog 15 #[v, .func (.func 16) #[] #[]] W fun e W' => e = .returned (.tuple #[]) ∧ ∃ gb a cap L, v = .slice a L.length cap ∧ L.Perm (heldOf us) ∧ Pro G w gb a cap L used 0 (topCnt G.dfn us) 0 W' := by
  have e1 := o.rg; have e2 := o.lR; have e3 := o.mL; have e4 := o.kM
  obtain ⟨v, hv, hr, hn⟩ := h.b7
  refine ⟨v, hv, ?_⟩
  have hlt := lt_of_heap hD
  by_cases hh : heldOf us = []
  · have ev := hn hh
    subst ev
    refine (sort_none W).mono ?_
    rintro e W' ⟨rfl, rfl⟩
    exact ⟨rfl, w.heap.size + 5, .none, 0, [], rfl, by rw [hh], ⟨h.keep.mono (fun i _ hi => .inr (by omega)), h.mt, h.b3, h.b4, h.b5, h.b6, hv, ⟨by simp, by simp, fun _ => ⟨rfl, rfl⟩, fun e => absurd rfl e, fun j x hj => by simp at hj, fun j k x y _ hj => by simp at hj⟩, by omega, by omega, by omega, hD⟩⟩
  · obtain ⟨g, cap, ev⟩ : ∃ g cap, v = .slice (some ⟨g, 0, .none⟩) (heldOf us).length cap := by
      rcases hr.2 with ⟨_, h0⟩ | ⟨g, cap, cur, e, _⟩
      · exact absurd (List.length_eq_zero_iff.1 h0) hh
      · exact ⟨g, cap, e⟩
    subst ev
    have hcap : (heldOf us).length ≤ cap := by
      rcases hr.2 with ⟨h0, _⟩ | ⟨g', cap', cur, e, _, _, hc, _⟩
      · simp at h0
      · injection e with _ _ e; subst e; exact hc
    have hg := hr.lt g rfl
    have hsz : (heldOf us).toArray.size = (heldOf us).length := by simp
    have hcon := sort_any g cap (heldOf us).toArray W (by rw [hsz]; have := heldOf_le us; omega) (holdA_of hr) hg.2
    rw [hsz] at hcon
    refine hcon.mono ?_
    rintro e W' ⟨rfl, d, hS, hP, hA⟩
    have hds : d.size = (heldOf us).length := by rw [hS.size, hsz]
    have hLn : d.toList.length = (heldOf us).length := by simpa using hds
    have hk := hS.keep
    have el : ∀ (j : Nat) x, d.toList[j]? = some x → d[j]! = x ∧ j < d.size := fun j x hj => by
      have h1 := List.getElem?_eq_some_iff.1 hj
      obtain ⟨h2, h3⟩ := h1
      have h4 : j < d.size := by simpa using h2
      exact ⟨by rw [getElem!_pos d j h4]; simpa using h3, h4⟩
    refine ⟨rfl, g, some ⟨g, 0, .none⟩, cap, d.toList, by rw [hLn], ?_, ?_⟩
    · have := hP.2.2
      rw [Array.extract_eq_self_of_le (by rw [hds]; exact Nat.le_refl _)] at this
      rw [Array.extract_eq_self_of_le (by rw [hsz]; exact Nat.le_refl _)] at this
      simpa using this
    · refine ⟨(h.keep.mono (fun i _ hi => .inr (by omega))).then hk (fun i hi ht => by omega), h.mt.keep hk o.n0 (fun i hi => by omega), hk.boxed h.b3 (by omega), hk.boxed h.b4 (by omega), hk.boxed h.b5 (by omega), hk.boxed h.b6 (by omega), by rw [hLn]; exact hk.boxed hv (by omega),
        ⟨by rw [hLn]; have := heldOf_le us; omega, by rw [hLn]; exact hcap, fun e => ?_, fun _ => rfl, fun j x hj => ?_, fun j k x y hjk hj hk' => ?_⟩, by omega, Nat.lt_of_lt_of_le hg.2 hk.size, by omega, (hk.block _ hlt (by omega)).trans hD⟩
      · have : d.toList.length = 0 := by rw [e]; rfl
        rw [hLn] at this
        exact absurd (List.length_eq_zero_iff.1 this) hh
      · have := hS.hold.1 j (el j x hj).2
        rw [(el j x hj).1] at this
        simpa using this
      · rcases Nat.lt_or_ge j k with hlt' | hge
        · have := hA j k (Nat.zero_le _) hlt' (by have := (el k y hk').2; omega)
          rw [(el j x hj).1, (el k y hk').1] at this
          exact this
        · have : j = k := by omega
          subst this
          rw [hj] at hk'
          injection hk' with hk'
          rw [hk']
          exact Nat.le_refl _

/-- the stack, as it lies -/
def Stk (w : World) (gb Bw : Nat) (v : Value) (S : List Nat) (W : World) : Prop := W.ownsRow Bw 21 1 v S.length (S.reverse.map fun n : Nat => Value.int .i32 n) ∧ gb < Bw ∧ w.heap.size + 7 ≤ Bw ∧ Bw ≤ W.heap.size

section
variable {G : Geo} {w : World} {gb Bw : Nat} {v v' : Value} {S : List Nat} {W W' : World}
theorem Stk.keep {T : Nat → Prop} (h : Stk w gb Bw v S W) (k : Keep T W W') (hT : ∀ i, T i → i < Bw) : Stk w gb Bw v S W' :=
  ⟨ownsRow_keep h.1 k (fun g hg ht => by have := (h.1.lt g hg).1; have := hT g ht; omega), h.2.1, h.2.2.1, Nat.le_trans h.2.2.2 k.size⟩
theorem Stk.push {n : Nat} (h : Stk w gb Bw v S W) (hg : W.grownBy W' v.ownBlock) (hr : W'.ownsRow Bw 21 1 v' (S.length + 1) ((S.reverse.map fun n : Nat => Value.int .i32 n) ++ [.int .i32 n])) : Stk w gb Bw v' (n :: S) W' :=
  ⟨by simpa using hr, h.2.1, h.2.2.1, Nat.le_trans h.2.2.2 hg.size⟩
theorem Stk.grown {T : Nat → Prop} (h : Stk w gb Bw v S W) (hg : W.grownBy W' v.ownBlock) (hT : ∀ i, w.heap.size + 7 ≤ i → i ≠ gb → T i) : Keep T W W' :=
  (Keep.grown hg).mono fun i _ hi => hT i (by have := (h.1.lt i hi.symm).1; have := h.2.2.1; omega) (by have := (h.1.lt i hi.symm).1; have := h.2.1; omega)
theorem Stk.top {n : Nat} (h : Stk w gb Bw v (n :: S) W) : ∃ g c, v = .slice (some ⟨g, 0, .none⟩) (S.length + 1) c ∧ S.length + 1 ≤ c ∧ W.cell? ⟨g, S.length, .none⟩ = some (.int .i32 n) ∧ Stk w gb Bw (.slice (some ⟨g, 0, .none⟩) S.length c) S W := by
  obtain ⟨hr, h1, h2, h3⟩ := h
  obtain ⟨g, c, ev, hc⟩ : ∃ g c, v = .slice (some ⟨g, 0, .none⟩) (S.length + 1) c ∧ S.length + 1 ≤ c := by
    rcases hr.2 with ⟨_, h0⟩ | ⟨g, cap, cur, e, _, _, hc, _⟩
    · simp at h0
    · exact ⟨g, cap, e, hc⟩
  subst ev
  refine ⟨g, c, rfl, hc, ?_, ?_, h1, h2, h3⟩
  · rw [hr.cellAt S.length (by show _ < (S.length + 1) * 1; omega)]
    simp
  · have := ownsRow_cut hr S.length (by simp)
    have e : (((n :: S).reverse.map fun n : Nat => Value.int .i32 n).take (S.length * 1)) = S.reverse.map fun n : Nat => Value.int .i32 n := by
      rw [List.reverse_cons, List.map_append, Nat.mul_one, List.take_append_of_le_length (by simp), List.take_of_length_le (by simp)]
    rw [e] at this
    exact this
theorem Stk.form (h : Stk w gb Bw v S W) : ∃ a c, v = .slice a S.length c := by
  rcases h.1.2 with ⟨h, h'⟩ | ⟨g, cap, cur, h, _⟩
  · exact ⟨_, _, by rw [h, h']⟩
  · exact ⟨_, _, h⟩
end

theorem sumF_le {L : List Hu} {dfn : Nat → Bool} {F : List Nat} (h : F.Nodup) : sumF L dfn F ≤ L.length := by
  rw [sumF_eq h]; exact List.length_filter_le _ _
theorem ReaI.le {L : List Hu} {N : Nat} {dfn used0 : Nat → Bool} {u0 n : Nat} {P Q : List Hu} {S F : List Nat} {used : Nat → Bool} {u : Nat} (r : ReaI L N dfn used0 u0 n P Q S F used u) : u ≤ u0 + L.length := by
  have h1 : (n :: F).Nodup := by
    have := r.nd
    simp only [List.nodup_cons, List.mem_append, not_or] at this ⊢
    exact ⟨this.1.2, (List.nodup_append.1 this.2).2.1⟩
  have h2 := sumF_le (L := L) (dfn := dfn) h1
  have h3 : sumF L dfn (n :: F) = badCnt dfn (ofL L n) + sumF L dfn F := rfl
  have h4 : badCnt dfn P ≤ badCnt dfn (ofL L n) := by
    rw [r.eq]; unfold badCnt; rw [List.filter_append, List.length_append]; omega
  rw [r.cnt]
  omega
end Go.Proofs.YbulkatxsFmt.cnt
