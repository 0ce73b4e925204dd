/-
  Of LawS2267BCounts: the law's call of problems.
-/
import Derived.Test.YbulkatxsFmtCntLaw2
import Derived.Test.YbulkatxsFmtCntProblems
namespace Go.Proofs.YbulkatxsFmt.cnt
open Go.ChangeShapes Go.WideShapes Go.ChangeAt Go.RowKit Go
open Go.Extern.Stop Go.Stop Go.Extern

/-- the three sentinels, as they lie -/
structure Sent (w : World) (a0 a1 a2 : Addr) : Prop where
  v0 : w.cell? ⟨0, 0, .none⟩ = some (.iface 119 (.pointer (some a0)))
  v1 : w.cell? ⟨1, 0, .none⟩ = some (.iface 119 (.pointer (some a1)))
  v2 : w.cell? ⟨2, 0, .none⟩ = some (.iface 119 (.pointer (some a2)))
  t0 : ∃ s : ByteArray, w.cell? a0 = some (.string s)
  t1 : ∃ s : ByteArray, w.cell? a1 = some (.string s)
  t2 : ∃ s : ByteArray, w.cell? a2 = some (.string s)
  h0 : ∃ c t, w.heap[a0.block]? = some (.cells c t (0, 0))
  h1 : ∃ c t, w.heap[a1.block]? = some (.cells c t (0, 0))
  h2 : ∃ c t, w.heap[a2.block]? = some (.cells c t (0, 0))
  n01 : a0 ≠ a1
  n02 : a0 ≠ a2
  n12 : a1 ≠ a2

def geo (w : World) (st : Bool) (a0 a1 a2 : Addr) (m : Nat) (dfn : Nat → Bool) (D : Nat) (defs : List Nat) (K H gg : Nat) (da : Option Addr) (cdd : Nat) (bv : Value) : Geo :=
  { B := w.heap.size, s := w.heap.size, D := D, K := K, M := H, L := H + 1, R := H + 2, g := gg, N := m, st := st, a0 := a0, a1 := a1, a2 := a2, da := da, cd := cdd, defs := defs, dfn := dfn, bv := bv }

/-- the world in which problems is called -/
def callW (wr : World) : World := (((wr.alloc (.cells #[.int .i64 0] 3)).alloc (.cells #[.int .i64 0] 3)).alloc (.cells #[.int .i64 0] 3)).alloc (.cells #[.bool true] 4)
theorem callW_keep (wr : World) : Keep No wr (callW wr) := ((((Keep.refl No wr).alloc _).alloc _).alloc _).alloc _
theorem callW_size (wr : World) : (callW wr).heap.size = wr.heap.size + 4 := by simp [callW]
theorem callW_0 (wr : World) : Boxed (callW wr) wr.heap.size 3 (.int .i64 ((0 : Nat) : Int)) := heap_alloc_lt (heap_alloc_lt (heap_alloc_lt (heap_alloc_at _ _ _ rfl) _) _) _
theorem callW_1 (wr : World) : Boxed (callW wr) (wr.heap.size + 1) 3 (.int .i64 ((0 : Nat) : Int)) := heap_alloc_lt (heap_alloc_lt (heap_alloc_at _ _ _ (by simp)) _) _
theorem callW_2 (wr : World) : Boxed (callW wr) (wr.heap.size + 2) 3 (.int .i64 ((0 : Nat) : Int)) := heap_alloc_lt (heap_alloc_at _ _ _ (by simp)) _
theorem callW_3 (wr : World) : Boxed (callW wr) (wr.heap.size + 3) 4 (.bool true) := heap_alloc_at _ _ _ (by simp)

theorem Rch.top {H : List Hu} {dfn use : Nat → Bool} {n : Nat} (r : Rch H dfn use n) (hd : dfn n = false) : use n = true := by
  cases r with
  | base _ h => exact h
  | step h _ _ hd' => rw [hd] at hd'; cases hd'

structure LDone (w : World) (m : Nat) (dfn useF f : Nat → Bool) (hb : Bool) (K H gg Fb : Nat) (defs : List Nat) (us : List Us) (w' : World) : Prop where
  keep : Keep (fun i => w.heap.size ≤ i) w w'
  ok : w'.cell? ⟨gg + 3, 0, .none⟩ = some (.bool true)
  gu : w'.cell? ⟨gg, 0, .none⟩ = some (.int .i64 (wantK dfn f us))
  gn : w'.cell? ⟨gg + 2, 0, .none⟩ = some (.int .i64 (defs.filter fun d => !f d).length)
  gc : ∃ c : Nat, w'.cell? ⟨gg + 1, 0, .none⟩ = some (.int .i64 c) ∧ decide (0 < c) = hb
  rf : w'.cell? ⟨H + 2, 1, .none⟩ = some (.slice (some ⟨K, 0, .none⟩) m m)
  k5 : ∀ i, i < m → w'.cell? ⟨K, i * 7 + 5, .none⟩ = some (.bool (dfn i))
  k6 : ∀ i, i < m → w'.cell? ⟨K, i * 7 + 6, .none⟩ = some (.bool (f i))
  da : ∀ i, i < m → w'.cell? ⟨w.heap.size + 1, i, .none⟩ = some (.bool (dfn i))
  ua : ∀ i, i < m → w'.cell? ⟨w.heap.size + 2, i, .none⟩ = some (.bool (useF i))
  fa : ∀ i, i < m → w'.cell? ⟨Fb, i, .none⟩ = some (.bool (f i))
  fu : ∀ i, dfn i = false → f i = useF i

theorem call7 (F0 : Interp) {w wc : World} {st : Bool} {a0 a1 a2 : Addr} {m : Nat} {dfn useF f : Nat → Bool} {hb : Bool} {A D : Nat} {defs : List Nat} {n : Nat} {K Y : Nat} {us : List Us} {v : Value} {g : Nat → Value} {H : Nat} {da : Option Addr} {cdd : Nat} {bv : Value} {Fb gg : Nat} {wr : World}
    (hF : F0.answers w.tape) (hS : Sent w a0 a1 a2) (h5 : Lm5 w st m dfn useF A D defs n (valA us n) (valI us n) K Y us v g H da cdd bv wr) (hfs : Fs wc Fb m f wr) (hFb : Fb = wc.heap.size) (hH : H + 2 < wc.heap.size) (hko : KOk m dfn useF m g) (hD0 : defs ≠ [] → da = some ⟨D, 0, .none⟩) (hdN : ∀ d, d ∈ defs ↔ d < m ∧ dfn d = true) (hdd : defs.Nodup) (hm8 : m ≤ 8) (hm0 : 0 < m)
    (hlen : us.length ≤ 512) (hok : ∀ u ∈ us, u.a < m ∧ u.p ≤ m ∧ (u.p ≠ 0 → dfn (u.p - 1) = true) ∧ u.c ≤ 512) (hfr : ∀ x, f x = true ↔ Rch (heldOf us) dfn useF x) (hcy : hb = true ↔ Ring (heldOf us) m dfn f) (hgg : gg = wr.heap.size) :
    Calls Ybaf.prog 7 #[.pointer (some ⟨H + 2, 0, .none⟩), .bool st, .func (.func 5) #[] #[.pointer (some ⟨gg + 3, 0, .none⟩), .pointer (some ⟨gg + 1, 0, .none⟩), .pointer (some ⟨w.heap.size, 0, .none⟩), .pointer (some ⟨gg, 0, .none⟩), .pointer (some ⟨gg + 2, 0, .none⟩)]] (callW wr) fun e w' =>
      e = .returned (.tuple #[]) ∧ LDone w m dfn useF f hb K H gg Fb defs us w' := by
  subst hgg
  have lts := h5.lts
  have hfl := hfs.lt
  have kc := callW_keep wr
  have kw : Keep No w (callW wr) := h5.m4.m3.m1.keep.trans kc
  obtain ⟨D', hD1, hD2, hD3, hD4⟩ : ∃ D', w.heap.size ≤ D' ∧ D' < K ∧ (defs ≠ [] → da = some ⟨D', 0, .none⟩) ∧ ∀ (i d : Nat), defs[i]? = some d → wr.cell? ⟨D', i, .none⟩ = some (.int .i32 d) := by
    by_cases e : defs = []
    · exact ⟨w.heap.size, Nat.le_refl _, by omega, fun h => absurd e h, fun i d hi => by rw [e] at hi; simp at hi⟩
    · have := h5.m4.m3.d0 e
      exact ⟨D, by omega, by omega, fun _ => hD0 e, h5.m4.m3.df⟩
  obtain ⟨G, hG⟩ : ∃ G, G = geo w st a0 a1 a2 m dfn D' defs K H wr.heap.size da cdd bv := ⟨_, rfl⟩
  have b3 := World.block_lt_of_cell? w _ hS.v2
  simp only at b3
  have lt0 : a0.block < w.heap.size := by obtain ⟨s, h⟩ := hS.t0; exact World.block_lt_of_cell? w _ h
  have lt1 : a1.block < w.heap.size := by obtain ⟨s, h⟩ := hS.t1; exact World.block_lt_of_cell? w _ h
  have lt2 : a2.block < w.heap.size := by obtain ⟨s, h⟩ := hS.t2; exact World.block_lt_of_cell? w _ h
  have ok : G.Ok := by
    subst hG
    exact ⟨by show 3 ≤ w.heap.size; omega, lt0, lt1, lt2, hS.n01, hS.n02, hS.n12, Nat.le_refl _, hD1, by show w.heap.size < K; omega, hD2, lts.2.2.1, by show H < H + 1; omega, by show H + 1 < H + 2; omega, by show H + 2 < wr.heap.size; omega, hm8, hm0, hdN, hdd⟩
  have bo : ∀ {a : Addr}, (∃ c t, w.heap[a.block]? = some (.cells c t (0, 0))) → ∃ c t, (callW wr).heap[a.block]? = some (.cells c t (0, 0)) := fun {a} ⟨c, t, h⟩ => ⟨c, t, (kw.block _ (lt_of_heap h) fun h => h).trans h⟩
  have st' : ∀ {a : Addr}, (∃ s : ByteArray, w.cell? a = some (.string s)) → ∃ s : ByteArray, (callW wr).cell? a = some (.string s) := fun {a} ⟨s, h⟩ => ⟨s, kw.got h⟩
  have fx : Fix G (callW wr) := by
    subst hG
    exact ⟨kw.got hS.v0, kw.got hS.v1, kw.got hS.v2, st' hS.t0, st' hS.t1, st' hS.t2, bo hS.h0, bo hS.h1, bo hS.h2, kc.boxed h5.m4.m3.m1.sb (fun h => h), (kc.block _ (lt_of_heap h5.mR) fun h => h).trans h5.mR, kc.got h5.mL, kc.got h5.mM,
      fun j x hj => ⟨hD3 (ne_nil_of hj), kc.got (hD4 j x hj)⟩, by show wr.heap.size + 3 < (callW wr).heap.size; rw [callW_size]; omega⟩
  have ka := h5.m4.ka.keep kc (fun h => h) h5.m4.k1
  have mt : Mut G (callW wr) useF 0 0 0 := by
    subst hG
    have kk : ∀ i, i < m → _ := fun i hi => hko i hi
    refine ⟨fun i hi => ?_, fun i hi => ?_, fun i hi => ?_, fun i hi => ?_, fun i hi => ?_, fun i hi => ?_, fun i hi => ?_, ka.2, callW_0 wr, callW_1 wr, callW_2 wr, callW_3 wr⟩ <;> change i < m at hi <;> obtain ⟨e0, ⟨s, e1⟩, e2, e3, e4, e5, e6⟩ := hko i hi
    · exact (ka.1 (i * 7) (by omega)).trans (by rw [e0])
    · exact ⟨s, (ka.1 (i * 7 + 1) (by omega)).trans (by rw [e1])⟩
    · exact (ka.1 (i * 7 + 2) (by omega)).trans (by rw [e2])
    · exact (ka.1 (i * 7 + 3) (by omega)).trans (by rw [e3])
    · exact (ka.1 (i * 7 + 4) (by omega)).trans (by rw [e4])
    · exact (ka.1 (i * 7 + 5) (by omega)).trans (by rw [e5]; simp [hi]; rfl)
    · exact (ka.1 (i * 7 + 6) (by omega)).trans (by rw [e6]; simp [hi])
  have cbv : (callW wr).cell? ⟨H + 2, 3, .none⟩ = some bv := kc.got (by unfold World.cell?; rw [h5.mR]; rfl)
  obtain ⟨Y', hY1, hY2, hlog⟩ : ∃ Y', Y' ≠ wr.heap.size ∧ Y' < (callW wr).heap.size ∧ ((us = [] ∧ (callW wr).cell? ⟨H + 2, 3, .none⟩ = some (.slice .none 0 0)) ∨ ∃ X bs, (callW wr).cell? ⟨H + 2, 3, .none⟩ = some (.slice (some ⟨X, 0, .none⟩) 1 1) ∧ (callW wr).cell? ⟨X, 0, .none⟩ = some bs ∧ BSl (callW wr) Y' bs (bytesOf us) ∧ Y' < (callW wr).heap.size) := by
    rw [cbv, callW_size]
    rcases h5.lg with ⟨e1, e2⟩ | ⟨X, e1, e2, e3, e4⟩
    · exact ⟨0, by omega, by omega, .inl ⟨e1, by rw [e2]⟩⟩
    · rcases h5.m4.bf with ⟨e5, _⟩ | ⟨_, e6, e7, e8⟩
      · exact absurd e5 e3
      · exact ⟨Y, by omega, by omega, .inr ⟨X, v, by rw [e1], kc.got e2, e6.keep kc (fun h => h), by omega⟩⟩
  have hF' : F0.answers (callW wr).tape := by rw [kw.tape]; exact hF
  have hcon := problems_any F0 G ok (callW wr) useF us Y' hF' fx mt (by rw [hG]; exact hlog) (by rw [hG]; exact hY1) hY2 hlen (by rw [hG]; exact hok)
  rw [hG] at hcon
  refine Calls.mono hcon ?_
  rintro e w' ⟨rfl, used, c, u, nn, hk, hmt, hrc, hu, hri, hn⟩
  have euf : used = f := by
    funext x
    have h1 := (hrc x).trans (hfr x).symm
    cases hx : used x <;> cases hy : f x
    · rfl
    · rw [hx, hy] at h1; exact absurd (h1.2 rfl) (by simp)
    · rw [hx, hy] at h1; exact absurd (h1.1 rfl) (by simp)
    · rfl
  subst euf
  have c4 : ∀ i, Cnt4 (geo w st a0 a1 a2 m dfn D' defs K H wr.heap.size da cdd bv) i → i = K ∨ wr.heap.size ≤ i := fun i hi => by
    rcases hi with h | ⟨h, _⟩
    · exact .inl h
    · exact .inr h
  have gk : ∀ {p : Addr} {x : Value}, p.block ≠ K → wr.cell? p = some x → w'.cell? p = some x := fun {p x} hp hx => by
    have h1 := World.block_lt_of_cell? wr _ hx
    refine (hk.cell (World.block_lt_of_cell? (callW wr) _ (kc.got hx)) fun h => ?_).trans (kc.got hx)
    rcases c4 _ h with h | h
    · exact hp h
    · omega
  refine ⟨rfl, ⟨(kw.mono fun _ _ h => h.elim).then hk (fun i _ hi => by rcases c4 i hi with h | h <;> omega), hmt.co.cell, ?_, ?_, ⟨c, hmt.cc.cell, ?_⟩, ?_, hmt.k5, hmt.k6, fun i hi => gk (by show w.heap.size + 1 ≠ K; omega) (h5.m4.m3.m1.da.1 i hi), fun i hi => gk (by show w.heap.size + 2 ≠ K; omega) (h5.m4.m3.m1.ua.1 i hi), fun i hi => gk (by show Fb ≠ K; omega) (hfs.arr.1 i hi), fun i hi => ?_⟩⟩
  · have := hmt.cu.cell
    rw [hu] at this
    exact this
  · have := hmt.cn.cell
    rw [hn] at this
    exact this
  · have h1 := hri.trans hcy.symm
    cases hb
    · simpa using h1
    · simpa using h1
  · exact gk (by show H + 2 ≠ K; omega) (by unfold World.cell?; rw [h5.mR]; rfl)
  · have h1 := hfr i
    cases hx : useF i
    · cases hy : used i
      · rfl
      · have := (h1.1 hy).top hi
        rw [hx] at this; cases this
    · exact h1.2 (.base i hx)
theorem LDone.drewN {w : World} {m : Nat} {dfn useF f : Nat → Bool} {hb : Bool} {K H gg Fb : Nat} {defs : List Nat} {us : List Us} {w' : World} (h : LDone w m dfn useF f hb K H gg Fb defs us w') (k : Nat) : LDone w m dfn useF f hb K H gg Fb defs us (w'.drewN k) :=
  ⟨h.keep.drewN k, h.ok, h.gu, h.gn, h.gc, h.rf, h.k5, h.k6, h.da, h.ua, h.fa, h.fu⟩
end Go.Proofs.YbulkatxsFmt.cnt
