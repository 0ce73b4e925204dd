/-
  Of LawS2267BCounts: the range over the uses.
-/
import Derived.Test.YbulkatxsFmtCntAll
namespace Go.Proofs.YbulkatxsFmt.cnt
open Go.ChangeShapes Go.WideShapes Go.ChangeAt Go.RowKit Go
open Go.Extern.Stop Go.Stop Go.Extern
open Go.Shelf

theorem Keep.putObj {S : Nat → Prop} {a w : World} (h : Keep S a w) {l : Nat} (hl : l < a.heap.size → S l) (o : Obj) : Keep S a (w.putObj l o) :=
  ⟨h.os, h.tape, h.output, by simpa [World.putObj] using h.size, fun i hi hn => (World.putObj_heap_other (fun e => hn (by subst e; exact hl hi))).trans (h.block i hi hn)⟩

/-- the blocks that the loop and the iterator hold -/
def Four (b : Nat) (i : Nat) : Prop := b ≤ i ∧ i < b + 4

/-- what lies where the log is -/
def Log (w : World) (U Rr : Nat) (us : List Us) (Y : Nat) : Prop :=
  w.cell? ⟨U, 0, .none⟩ = some (.pointer (some ⟨Rr, 3, .none⟩)) ∧ ((us = [] ∧ w.cell? ⟨Rr, 3, .none⟩ = some (.slice .none 0 0)) ∨
    ∃ X bs, w.cell? ⟨Rr, 3, .none⟩ = some (.slice (some ⟨X, 0, .none⟩) 1 1) ∧ w.cell? ⟨X, 0, .none⟩ = some bs ∧ BSl w Y bs (bytesOf us) ∧ Y < w.heap.size)

theorem range_uses {g : Operand} {ps : Array Tmp} {assign body : Code} {Q : Exit → Act → World → Prop} {a : Act} {w : World} {n U Rr Y : Nat} (us : List Us) (hus : ∀ u ∈ us, u.Ok)
    (hg : a.eval g = .func (.func 23) #[] #[.pointer (some ⟨U, 0, .none⟩)]) (hps : ps.size = 1) (hlog : Log w U Rr us Y)
    (I : List Us → World → Prop) (hI : ∀ pre W W', I pre W → Keep (Four w.heap.size) W W' → I pre W') (h0 : I [] w) (Tb : Nat → Prop) (hTY : ¬ Tb Y) (hT4 : ∀ i, Tb i → ¬ Four w.heap.size i)
    (Ax : Us → Act → World → Prop) (hAx : ∀ u a' W W', Ax u a' W → Keep (Four w.heap.size) W W' → Ax u a' W')
    (hassign : ∀ (l : Nat) (pre : List Us) (u : Us) (W : World) (K : Act → World → Prop), I pre W → w.heap.size + 3 < W.heap.size → (∀ a' W', Keep No W W' → I pre W' → Ax u a' W' → K a' W') →
      assign.wpIn (Fence.wide.inRound l) (n - 1 - 1) Ybaf.prog (Exit.then K (fun _ _ _ => False)) { tmps := (ps.zip #[u.val]).foldl (fun t (p, v) => t.setIfInBounds p v) a.tmps, defers := [] } W)
    (hbody : ∀ (l : Nat) (pre : List Us) (u : Us) (rest : List Us) (a' : Act) (W : World), us = pre ++ u :: rest → I pre W → w.heap.size + 3 < W.heap.size → Ax u a' W →
      body.wpIn (Fence.wide.inRound l) (n - 1 - 1) Ybaf.prog (Exit.then (fun _ W3 => I (pre ++ [u]) W3 ∧ Keep Tb W W3) (fun _ _ _ => False)) a' W)
    (hdone : ∀ W, I us W → W.heap[w.heap.size]? = some (.deferred (some [])) → Q .normal { a with defers := { target := .collected w.heap.size, args := #[] } :: a.defers } W) :
    (Code.rangeFunc g ps assign body).wpIn Fence.wide n Ybaf.prog Q a w := by
  refine wpIn_rangeFunc ?_
  intro fn hfn
  obtain ⟨rec, hrec⟩ : ∃ rec : LoopState → Option Code → Loop, rec = fun st pe => { state := st, pending := pe, fn, tmps := a.tmps, params := ps, assign, body, defers := w.heap.size } := ⟨_, rfl⟩
  obtain ⟨W1, hW1⟩ : ∃ W1, (w.alloc (.deferred (some []))).alloc (.loop (rec .ready none)) = W1 := ⟨_, rfl⟩
  have hs1 : W1.heap.size = w.heap.size + 2 := by rw [← hW1]; simp
  have hL1 : W1.heap[w.heap.size + 1]? = some (.loop (rec .ready none)) := by
    rw [← hW1]; have := World.alloc_heap_new (w.alloc (.deferred (some []))) (.loop (rec .ready none)); rwa [World.size_alloc] at this
  have hK1 : W1.heap[w.heap.size]? = some (.deferred (some [])) := by
    rw [← hW1]; exact (Below.heap_alloc _ _ _ (by simp)).trans (World.alloc_heap_new w _)
  have k1 : Keep No w W1 := by rw [← hW1]; exact ((Keep.refl No w).alloc _).alloc _
  have hI1 : I [] W1 := hI _ _ _ h0 (k1.mono fun _ _ h => h.elim)
  refine ⟨w.heap.size + 1, [{ target := .collected w.heap.size, args := #[] }], W1, { target := .fn (.func 23) #[.pointer (some ⟨U, 0, .none⟩)], args := #[.func (.yield (w.heap.size + 1)) #[] #[]] }, W1, 23,
    #[.func (.yield (w.heap.size + 1)) #[] #[]] ++ #[.pointer (some ⟨U, 0, .none⟩)], W1, ?_, ?_, ?_, ?_, fun h => (by cases h), ?_⟩
  · rw [← hW1, hrec]; exact run_enterLoop_outer _ _ _ _ _
  · simp only [resolve, hg]
    simp [go_sem]
  · intro f' _; trivial
  · have eg : ∀ args w, (callFunc 23 args).run Ybaf.prog w = .ok (.enter 23 args) w := enters_of Ybaf.func23 (by kernel_rfl) rfl
    simp [invoke, go_sem, eg]
  · have jabides : ∀ pre W' W'', (I pre W' ∧ W'.heap[w.heap.size + 1]? = some (.loop (rec .ready none)) ∧ W'.heap[w.heap.size]? = some (.deferred (some []))) → Keep (Own2 W1.heap.size) W' W'' →
        (I pre W'' ∧ W''.heap[w.heap.size + 1]? = some (.loop (rec .ready none)) ∧ W''.heap[w.heap.size]? = some (.deferred (some []))) := by
      rintro pre W' W'' ⟨hi, hl, hk⟩ kk
      refine ⟨hI _ _ _ hi (kk.mono fun i _ hi => ?_), (kk.block _ (lt_of_heap hl) ?_).trans hl, (kk.block _ (lt_of_heap hk) ?_).trans hk⟩
      · rcases hi with h | h <;> (rw [hs1] at h; exact ⟨by omega, by omega⟩)
      · rintro (h | h) <;> omega
      · rintro (h | h) <;> omega
    have key : CallsIn Fence.wide (n - 1) Ybaf.prog 23 #[.func (.yield (w.heap.size + 1)) #[] #[], .pointer (some ⟨U, 0, .none⟩)] W1 fun e W' => (∃ v, e = .returned v) ∧ (I us W' ∧ W'.heap[w.heap.size + 1]? = some (.loop (rec .ready none)) ∧ W'.heap[w.heap.size]? = some (.deferred (some []))) := by
      obtain ⟨hU, hlog⟩ := hlog
      rcases hlog with ⟨rfl, hR⟩ | ⟨X, bs, hR, hX, hbs, hYl⟩
      · exact all_none (w.heap.size + 1) U Rr (n - 1) (fun pre W => I pre W ∧ W.heap[w.heap.size + 1]? = some (.loop (rec .ready none)) ∧ W.heap[w.heap.size]? = some (.deferred (some []))) W1 (k1.got hU) (k1.got hR) jabides ⟨hI1, hL1, hK1⟩
      · refine all_any (w.heap.size + 1) U Rr X Y (n - 1) us hus (fun pre W => I pre W ∧ W.heap[w.heap.size + 1]? = some (.loop (rec .ready none)) ∧ W.heap[w.heap.size]? = some (.deferred (some []))) (fun i => Tb i ∨ i = w.heap.size + 1) _ bs W1 (k1.got hU) (k1.got hR) rfl (k1.got hX) (hbs.keep k1 fun h => h)
          ?_ (fun h => h.elim hTY (by omega)) (fun h => h.elim (fun h => hT4 _ h ⟨by omega, by omega⟩) (by omega)) (fun h => h.elim (fun h => hT4 _ h ⟨by omega, by omega⟩) (by omega)) (by omega) jabides ⟨hI1, hL1, hK1⟩
        rintro pre u rest W hu hsz ⟨hi, hl, hk⟩
        have hlt : w.heap.size + 1 < W.heap.size := lt_of_heap hl
        have hy := run_yield (P := Ybaf.prog) (args := #[u.val]) hl (by rw [hrec]; exact hps.symm)
        rw [hrec] at hy
        refine ⟨fn, _, assign, body, hy, roundIn_of_wpIn hfn (hassign _ pre u W _ hi (by omega) ?_)⟩
        clear hy
        intro a' Wa hkfa hia hax
        have hla := (hkfa.block _ hlt fun h => h).trans hl
        have hka := (hkfa.block _ (lt_of_heap hk) fun h => h).trans hk
        refine ⟨_, run_beginRound hla (by rw [hrec]), ?_⟩
        have hlta : w.heap.size + 1 < Wa.heap.size := lt_of_heap hla
        have kb : Keep (Four w.heap.size) Wa (Wa.putObj (w.heap.size + 1) (.loop { rec .ready none with state := .busy })) := (Keep.refl _ Wa).putObj (fun _ => ⟨by omega, by omega⟩) _
        have kb' : Keep (fun i => Tb i ∨ i = w.heap.size + 1) Wa (Wa.putObj (w.heap.size + 1) (.loop { rec .ready none with state := .busy })) := (Keep.refl _ Wa).putObj (fun _ => .inr rfl) _
        have hl2 : (Wa.putObj (w.heap.size + 1) (.loop { rec .ready none with state := .busy })).heap[w.heap.size + 1]? = some (.loop { rec .ready none with state := .busy }) := World.putObj_heap_same hlta
        have hk2 : (Wa.putObj (w.heap.size + 1) (.loop { rec .ready none with state := .busy })).heap[w.heap.size]? = some (.deferred (some [])) := (World.putObj_heap_other (by omega)).trans hka
        refine wpIn_mono (hbody _ pre u rest a' _ hu (hI _ _ _ hia kb) (Nat.lt_of_lt_of_le (show w.heap.size + 3 < Wa.heap.size by have := hkfa.size; omega) kb.size) (hAx _ _ _ _ hax kb)) ?_
        rintro e a3 W3 hp
        cases e with
        | normal =>
          obtain ⟨hi3, hk3⟩ := hp
          have hl3 := (hk3.block _ (lt_of_heap hl2) fun h => hT4 _ h ⟨by omega, by omega⟩).trans hl2
          have hd3 := (hk3.block _ (lt_of_heap hk2) fun h => hT4 _ h ⟨by omega, by omega⟩).trans hk2
          have hr := run_endRound (P := Ybaf.prog) none hl3
          have ke : Keep (Four w.heap.size) W3 (W3.putObj (w.heap.size + 1) (.loop (rec .ready none))) := (Keep.refl _ W3).putObj (fun _ => ⟨by omega, by omega⟩) _
          refine ⟨_, _, hr, rfl, ⟨?_, ?_, ?_⟩, ?_⟩
          · rw [hrec] at ke ⊢
            exact hI _ _ _ hi3 ke
          · rw [hrec]
            exact World.putObj_heap_same (lt_of_heap hl3)
          · exact (World.putObj_heap_other (by omega)).trans hd3
          · exact (((hkfa.mono fun _ _ h => h.elim).trans kb').trans (hk3.mono fun _ _ h => .inl h)).putObj (fun _ => .inr rfl) _
        | ret => exact hp.elim
        | exit id => exact hp.elim
        | goto t => exact hp.elim
        | panic ch => exact hp.elim
        | outgrown => exact hp.elim
    refine CallsIn.mono key ?_
    rintro e W2 ⟨⟨v, rfl⟩, hi, hl, hk⟩
    refine ⟨none, _, by have := run_endLoop (P := Ybaf.prog) hl (by rw [hrec]; simp); rw [hrec] at this; exact this, ?_⟩
    exact hdone _ (hI _ _ _ hi ((Keep.refl _ W2).putObj (fun _ => ⟨by omega, by omega⟩) _)) ((World.putObj_heap_other (by omega)).trans hk)
def usCells (u : Us) : Array Value := #[.int .i32 u.a, .int .i32 ((u.p : Int) - 1), .int .u32 0, .int .u32 0, .int .u32 u.c]

theorem heap_alloc_at (w : World) (o : Obj) (n : Nat) (hn : w.heap.size = n) : (w.alloc o).heap[n]? = some o := by subst hn; exact heap_alloc_new w o
theorem heap_alloc_lt {w : World} {n : Nat} {o' : Obj} (h : w.heap[n]? = some o') (o : Obj) : (w.alloc o).heap[n]? = some o' := (Below.heap_alloc _ _ _ (lt_of_heap h)).trans h

/-- the loop's variable lies in a box of its own: slot 8 -/
theorem range_uses8 {g : Operand} {p : Tmp} {assign body : Code} {Q : Exit → Act → World → Prop} {a : Act} {w : World} {n U Rr Y : Nat} (us : List Us) (hus : ∀ u ∈ us, u.Ok)
    (hg : a.eval g = .func (.func 23) #[] #[.pointer (some ⟨U, 0, .none⟩)]) (hlog : Log w U Rr us Y)
    (I : List Us → World → Prop) (hI : ∀ pre W W', I pre W → Keep (Four w.heap.size) W W' → I pre W') (h0 : I [] w) (Tb : Nat → Prop) (hTY : ¬ Tb Y) (hT4 : ∀ i, Tb i → ¬ Four w.heap.size i)
    (hassign : ∀ (l : Nat) (u : Us) (W : World) (K : Act → World → Prop), K { tmps := (a.tmps.setIfInBounds p u.val).setIfInBounds 8 (.pointer (some ⟨W.heap.size, 0, .none⟩)), defers := [] } (W.alloc (.cells (usCells u) 74)) →
      assign.wpIn (Fence.wide.inRound l) (n - 1 - 1) Ybaf.prog (Exit.then K (fun _ _ _ => False)) { tmps := a.tmps.setIfInBounds p u.val, defers := [] } W)
    (hbody : ∀ (l : Nat) (pre : List Us) (u : Us) (rest : List Us) (bx : Nat) (W : World), us = pre ++ u :: rest → I pre W → w.heap.size + 3 < W.heap.size → w.heap.size + 4 ≤ bx → W.heap[bx]? = some (.cells (usCells u) 74) →
      body.wpIn (Fence.wide.inRound l) (n - 1 - 1) Ybaf.prog (Exit.then (fun _ W3 => I (pre ++ [u]) W3 ∧ Keep Tb W W3) (fun _ _ _ => False)) { tmps := (a.tmps.setIfInBounds p u.val).setIfInBounds 8 (.pointer (some ⟨bx, 0, .none⟩)), defers := [] } W)
    (hdone : ∀ W, I us W → W.heap[w.heap.size]? = some (.deferred (some [])) → Q .normal { a with defers := { target := .collected w.heap.size, args := #[] } :: a.defers } W) :
    (Code.rangeFunc g #[p] assign body).wpIn Fence.wide n Ybaf.prog Q a w := by
  have ez : ∀ u : Us, ((#[p] : Array Tmp).zip #[u.val]).foldl (fun t (p, v) => t.setIfInBounds p v) a.tmps = a.tmps.setIfInBounds p u.val := fun u => by simp
  refine range_uses us hus hg rfl hlog I hI h0 Tb hTY hT4 (fun u a' W => ∃ bx, w.heap.size + 4 ≤ bx ∧ W.heap[bx]? = some (.cells (usCells u) 74) ∧ a' = { tmps := (a.tmps.setIfInBounds p u.val).setIfInBounds 8 (.pointer (some ⟨bx, 0, .none⟩)), defers := [] }) ?_ ?_ ?_ hdone
  · rintro u a' W W' ⟨bx, h1, h2, h3⟩ k
    exact ⟨bx, h1, (k.block _ (lt_of_heap h2) (fun h => by have := h.2; omega)).trans h2, h3⟩
  · intro l pre u W K hi hs hK
    have k : Keep No W (W.alloc (.cells (usCells u) 74)) := (Keep.refl No W).alloc _
    rw [ez]
    exact hassign l u W K (hK _ _ k (hI _ _ _ hi (k.mono fun _ _ h => h.elim)) ⟨W.heap.size, by omega, heap_alloc_new _ _, rfl⟩)
  · rintro l pre u rest a' W hu hi hs ⟨bx, h1, h2, rfl⟩
    exact hbody l pre u rest bx W hu hi hs h1 h2
end Go.Proofs.YbulkatxsFmt.cnt
