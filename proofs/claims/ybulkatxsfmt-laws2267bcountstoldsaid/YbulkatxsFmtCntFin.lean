/-
  Of LawS2267BCounts: the law's two fixpoints (no Go in sight).
-/
import Derived.Test.YbulkatxsFmtCntHeld
import Derived.Test.YbulkatxsFmtCntReach
namespace Go.Proofs.YbulkatxsFmt.cnt

/-- the use u is followed where its definition is reached -/
def Follows (dfn f : Nat → Bool) (u : Us) : Prop := u.p ≠ 0 → f (u.p - 1) = true → dfn u.a = true → f u.a = true
def ClosedF (us : List Us) (dfn f : Nat → Bool) : Prop := ∀ u ∈ us, Follows dfn f u

structure FinB (us : List Us) (dfn use f : Nat → Bool) : Prop where
  sub : ∀ n, use n = true → f n = true
  snd : ∀ n, f n = true → Rch (heldOf us) dfn use n
structure FinO (us : List Us) (N : Nat) (dfn use f : Nat → Bool) (r : Nat) : Prop where
  b : FinB us dfn use f
  fin : ClosedF us dfn f ∨ unusedN N f + r ≤ N
structure FinI (us : List Us) (N : Nat) (dfn use f0 f : Nat → Bool) (k : Nat) : Prop where
  b : FinB us dfn use f
  fin : (f = f0 ∧ ∀ u ∈ us.take k, Follows dfn f0 u) ∨ (¬ ClosedF us dfn f0 ∧ unusedN N f + 1 ≤ unusedN N f0)

section
variable {us : List Us} {N : Nat} {dfn use f0 f : Nat → Bool} {k r : Nat} {u : Us}
theorem unusedN_le (N : Nat) (f : Nat → Bool) : unusedN N f ≤ N := by
  have := List.length_filter_le (fun n => !f n) (List.range N)
  rw [List.length_range] at this
  exact this
theorem FinO.start : FinO us N dfn use use 0 := ⟨⟨fun _ h => h, fun n h => .base n h⟩, .inr (by have := unusedN_le N use; omega)⟩
theorem FinO.begin (h : FinO us N dfn use f r) : FinI us N dfn use f f 0 := ⟨h.b, .inl ⟨rfl, by simp⟩⟩
theorem FinI.same (h : FinI us N dfn use f0 f k) (hu : us[k]? = some u) (hn : Follows dfn f u) : FinI us N dfn use f0 f (k + 1) := by
  refine ⟨h.b, ?_⟩
  rcases h.fin with ⟨e, h2⟩ | h2
  · refine .inl ⟨e, fun x hx => ?_⟩
    rw [List.take_add_one, hu, Option.toList_some] at hx
    rcases List.mem_append.1 hx with hx | hx
    · exact h2 x hx
    · rw [List.mem_singleton.1 hx, ← e]; exact hn
  · exact .inr h2
theorem held_mem (hu : u ∈ us) (hp : u.p ≠ 0) : (⟨u.a, u.p - 1, u.c⟩ : Hu) ∈ heldOf us := by
  simp only [heldOf, List.mem_map, List.mem_filter]
  exact ⟨u, ⟨hu, by simpa using hp⟩, rfl⟩
theorem FinI.set (h : FinI us N dfn use f0 f k) (hu : us[k]? = some u) (hp : u.p ≠ 0) (hf : f (u.p - 1) = true) (hd : dfn u.a = true) (ha : f u.a = false) (hN : u.a < N) : FinI us N dfn use f0 (fun i => if i = u.a then true else f i) (k + 1) := by
  have hm := List.mem_of_getElem? hu
  have e : (fun i => if i = u.a then true else f i) = fun i => f i || i == u.a := by
    funext i
    by_cases e : i = u.a <;> simp [e]
  have h1 := unusedN_new hN ha
  refine ⟨⟨fun n hn => ?_, fun n hn => ?_⟩, .inr ?_⟩
  · show (if n = u.a then true else f n) = true
    split
    · rfl
    · exact h.b.sub n hn
  · change (if n = u.a then true else f n) = true at hn
    by_cases e : n = u.a
    · subst e
      exact Rch.step _ (held_mem hm hp) (h.b.snd _ hf) hd
    · rw [if_neg e] at hn
      exact h.b.snd n hn
  · rw [e]
    rcases h.fin with ⟨e2, h2⟩ | ⟨h2, h3⟩
    · subst e2
      refine ⟨fun hc => ?_, by omega⟩
      have := hc u hm hp hf hd
      rw [ha] at this
      cases this
    · exact ⟨h2, by omega⟩
theorem FinI.over (h : FinI us N dfn use f0 f us.length) (h0 : FinO us N dfn use f0 r) : FinO us N dfn use f (r + 1) := by
  refine ⟨h.b, ?_⟩
  rcases h.fin with ⟨e, h2⟩ | ⟨h2, h3⟩
  · subst e
    rw [List.take_length] at h2
    exact .inl h2
  · rcases h0.fin with h4 | h4
    · exact absurd h4 h2
    · exact .inr (by omega)
theorem FinO.over (h : FinO us N dfn use f (N + 1)) (n : Nat) : f n = true ↔ Rch (heldOf us) dfn use n := by
  have hc : ClosedF us dfn f := by
    rcases h.fin with h | h
    · exact h
    · omega
  refine ⟨h.b.snd n, fun hr => ?_⟩
  induction hr with
  | base n hn => exact h.b.sub n hn
  | step x hx _ hd ih =>
    simp only [heldOf, List.mem_map, List.mem_filter] at hx
    obtain ⟨u, ⟨hu, hp⟩, rfl⟩ := hx
    exact hc u hu (by simpa using hp) ih hd
end

/-! ### what is alive -/
theorem unusedN_cnt {N a : Nat} {f : Nat → Bool} (ha : a < N) (hf : f a = true) : unusedN N (fun j => !f j || j == a) + 1 = unusedN N (fun j => !f j) := by
  have h := unusedN_new (N := N) (a := a) (used := fun j => !f j) ha (by simp [hf])
  exact h
def HasF (us : List Us) (a : Nat → Bool) (i : Nat) : Prop := ∃ u ∈ us, u.p = i + 1 ∧ a u.a = true
def StableF (us : List Us) (N : Nat) (a : Nat → Bool) : Prop := ∀ i, i < N → a i = true → HasF us a i
structure AlvB (us : List Us) (N : Nat) (dfn fin a : Nat → Bool) : Prop where
  sub : ∀ i, i < N → a i = true → dfn i = true ∧ fin i = true
  ring : ∀ X : Nat → Prop, (∀ x, X x → x < N ∧ dfn x = true ∧ fin x = true ∧ ∃ h ∈ heldOf us, h.i = x ∧ X h.a) → ∀ x, X x → a x = true
structure AlvO (us : List Us) (N : Nat) (dfn fin a : Nat → Bool) (r : Nat) : Prop where
  b : AlvB us N dfn fin a
  st : StableF us N a ∨ unusedN N (fun i => !a i) + r ≤ N
structure AlvI (us : List Us) (N : Nat) (dfn fin a0 a : Nat → Bool) (i : Nat) : Prop where
  b : AlvB us N dfn fin a
  st : (a = a0 ∧ ∀ j, j < i → a0 j = true → HasF us a0 j) ∨ (¬ StableF us N a0 ∧ unusedN N (fun i => !a i) + 1 ≤ unusedN N (fun i => !a0 i))
section
variable {us : List Us} {N : Nat} {dfn fin a0 a : Nat → Bool} {i r : Nat}
theorem AlvO.start : AlvO us N dfn fin (fun i => dfn i && fin i) 0 :=
  ⟨⟨fun i _ h => by simpa using h, fun X hX x hx => by have := hX x hx; simp [this.2.1, this.2.2.1]⟩, .inr (by have := unusedN_le N (fun i => !(dfn i && fin i)); omega)⟩
theorem AlvO.begin (h : AlvO us N dfn fin a r) : AlvI us N dfn fin a a 0 := ⟨h.b, .inl ⟨rfl, fun _ hj => absurd hj (Nat.not_lt_zero _)⟩⟩
theorem AlvI.same (h : AlvI us N dfn fin a0 a i) (hi : a i = true → HasF us a i) : AlvI us N dfn fin a0 a (i + 1) := by
  refine ⟨h.b, ?_⟩
  rcases h.st with ⟨e, h2⟩ | h2
  · refine .inl ⟨e, fun j hj => ?_⟩
    by_cases ej : j = i
    · subst ej; rw [← e]; exact hi
    · exact h2 j (by omega)
  · exact .inr h2
theorem AlvI.drop (h : AlvI us N dfn fin a0 a i) (hN : i < N) (ha : a i = true) (hn : ¬ HasF us a i) : AlvI us N dfn fin a0 (fun j => if j = i then false else a j) (i + 1) := by
  refine ⟨⟨fun j hj hj' => ?_, fun X hX x hx => ?_⟩, .inr ?_⟩
  · change (if j = i then false else a j) = true at hj'
    by_cases e : j = i
    · rw [if_pos e] at hj'; cases hj'
    · rw [if_neg e] at hj'; exact h.b.sub j hj hj'
  · have h1 := h.b.ring X hX x hx
    show (if x = i then false else a x) = true
    by_cases e : x = i
    · subst e
      exfalso
      obtain ⟨_, _, _, g, hg, hgi, hgX⟩ := hX x hx
      simp only [heldOf, List.mem_map, List.mem_filter] at hg
      obtain ⟨u, ⟨hu, hp⟩, rfl⟩ := hg
      have hp' : u.p ≠ 0 := by simpa using hp
      exact hn ⟨u, hu, by simp only at hgi; omega, h.b.ring X hX _ hgX⟩
    · rw [if_neg e]; exact h1
  · have e : (fun j => !(if j = i then false else a j)) = fun j => !a j || j == i := by
      funext j
      by_cases e : j = i <;> simp [e]
    have h1 := unusedN_cnt (N := N) (a := i) (f := a) hN ha
    rw [e]
    rcases h.st with ⟨e2, h2⟩ | ⟨h2, h3⟩
    · subst e2
      exact ⟨fun hs => hn (hs i hN ha), by omega⟩
    · exact ⟨h2, by omega⟩
theorem AlvI.over (h : AlvI us N dfn fin a0 a N) (h0 : AlvO us N dfn fin a0 r) : AlvO us N dfn fin a (r + 1) := by
  refine ⟨h.b, ?_⟩
  rcases h.st with ⟨e, h2⟩ | ⟨h2, h3⟩
  · subst e
    exact .inl fun i hi ha => h2 i hi ha
  · rcases h0.st with h4 | h4
    · exact absurd h4 h2
    · exact .inr (by omega)
theorem AlvO.over (h : AlvO us N dfn fin a (N + 1)) (ok : ∀ u ∈ us, u.a < N) : (∃ i, i < N ∧ a i = true) ↔ Ring (heldOf us) N dfn fin := by
  have hs : StableF us N a := by
    rcases h.st with h | h
    · exact h
    · omega
  constructor
  · rintro ⟨i, hi, ha⟩
    refine ⟨fun x => x < N ∧ a x = true, ⟨i, hi, ha⟩, fun x hx => ?_⟩
    obtain ⟨u, hu, hp, hau⟩ := hs x hx.1 hx.2
    have := h.b.sub x hx.1 hx.2
    exact ⟨hx.1, this.1, this.2, _, held_mem hu (by omega), by show u.p - 1 = x; omega, ok u hu, hau⟩
  · rintro ⟨X, ⟨x, hx⟩, hX⟩
    exact ⟨x, (hX x hx).1, h.b.ring X hX x hx⟩
end
end Go.Proofs.YbulkatxsFmt.cnt
