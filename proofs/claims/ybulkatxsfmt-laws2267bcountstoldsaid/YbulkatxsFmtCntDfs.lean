/-
  Of LawS2267BCounts: the walk depth first: a name that leads back is met just where there is a cycle (no Go in sight).
-/
import Derived.Test.YbulkatxsFmtCntOf
namespace Go.Proofs.YbulkatxsFmt.cnt

/-- what is known of the names that definitions hold -/
def Grf (L : List Hu) (N : Nat) (dfn used : Nat → Bool) : Prop := ∀ h ∈ L, h.i < N ∧ h.a < N ∧ dfn h.i = true ∧ (used h.i = true → dfn h.a = true → used h.a = true)

/-- some used definitions, each of which names one of them -/
def Ring (L : List Hu) (N : Nat) (dfn used : Nat → Bool) : Prop := ∃ X : Nat → Prop, (∃ x, X x) ∧ ∀ x, X x → x < N ∧ dfn x = true ∧ used x = true ∧ ∃ h ∈ L, h.i = x ∧ X h.a

/-- each on the path names the one above it (the top first) -/
def Chn (L : List Hu) : List (Nat × List Hu) → Prop
  | [] => True
  | [_] => True
  | x :: y :: r => (∃ h ∈ L, h.i = y.1 ∧ h.a = x.1) ∧ Chn L (y :: r)

/-- what has been followed of each on the path is done, or is what stands above it -/
def Fol (L : List Hu) (st : Nat → Nat) : Option Nat → List (Nat × List Hu) → Prop
  | _, [] => True
  | up, x :: r => (∃ F, ofL L x.1 = F ++ x.2 ∧ ∀ h ∈ F, st h.a = 2 ∨ some h.a = up) ∧ Fol L st (some x.1) r

structure Dfs (L : List Hu) (N : Nat) (dfn used : Nat → Bool) (c : Nat) (st : Nat → Nat) (p : List (Nat × List Hu)) : Prop where
  on : ∀ n, st n = 1 ↔ n ∈ p.map Prod.fst
  nd : (p.map Prod.fst).Nodup
  ch : Chn L p
  sf : ∀ x ∈ p, ∃ F, ofL L x.1 = F ++ x.2
  fo : c = 0 → Fol L st .none p
  dn : c = 0 → ∀ v, st v = 2 → ∀ h ∈ L, h.i = v → st h.a = 2
  rk : c = 0 → ∃ (r : Nat → Nat) (M : Nat), ∀ v, st v = 2 → r v < M ∧ ∀ h ∈ L, h.i = v → r h.a < r v
  cy : 0 < c → Ring L N dfn used
  us : ∀ x ∈ p, x.1 < N ∧ (dfn x.1 = true → used x.1 = true)
  le : ∀ n, st n ≤ 2

theorem mem_ofL {L : List Hu} {n : Nat} {h : Hu} : h ∈ ofL L n ↔ h ∈ L ∧ h.i = n := by simp [ofL]

theorem Fol.mono {L : List Hu} {st st' : Nat → Nat} (hs : ∀ n, st n = 2 → st' n = 2) : ∀ {p up}, Fol L st up p → Fol L st' up p
  | [], _, _ => trivial
  | _ :: _, _, ⟨⟨F, e, hF⟩, h⟩ => ⟨⟨F, e, fun k hk => (hF k hk).imp (hs _) id⟩, h.mono hs⟩

theorem Dfs.start {L : List Hu} {N : Nat} {dfn used : Nat → Bool} {n : Nat} (hn : n = 0) : Dfs L N dfn used n (fun _ => 0) [] := by
  subst hn
  exact ⟨fun n => by simp, by simp, trivial, by simp, fun _ => trivial, fun _ v h => by simp at h, fun _ => ⟨fun _ => 0, 0, fun v h => by simp at h⟩, fun h => absurd h (Nat.lt_irrefl _), by simp, by simp⟩

/-- the top has nothing left to follow: it is done -/
theorem Dfs.pop {L : List Hu} {N : Nat} {dfn used : Nat → Bool} {c : Nat} {st : Nat → Nat} {v : Nat} {r : List (Nat × List Hu)} (h : Dfs L N dfn used c st ((v, []) :: r)) : Dfs L N dfn used c (fun n => if n = v then 2 else st n) r := by
  have nd := h.nd
  rw [List.map_cons, List.nodup_cons] at nd
  have mono : ∀ n, st n = 2 → (if n = v then 2 else st n) = 2 := fun n hn => by split <;> simp [*]
  have hv : st v = 1 := (h.on v).2 (by simp)
  refine ⟨fun n => ?_, nd.2, ?_, fun x hx => h.sf x (by simp [hx]), fun hc => ?_, fun hc w hw k hk hkw => ?_, fun hc => ?_, h.cy, fun x hx => h.us x (by simp [hx]), fun n => by split; omega; exact h.le n⟩
  · by_cases e : n = v
    · subst e
      simp only [if_true]
      constructor
      · intro h; omega
      · intro h; exact absurd h nd.1
    · rw [if_neg e, h.on n]
      simp [e]
  · have := h.ch
    cases r with
    | nil => trivial
    | cons y r => exact this.2
  · have := (h.fo hc)
    obtain ⟨_, hr⟩ := this
    cases r with
    | nil => trivial
    | cons y r =>
      obtain ⟨⟨F, e, hF⟩, h2⟩ := hr
      refine ⟨⟨F, e, fun k hk => .inl ?_⟩, h2.mono mono⟩
      rcases hF k hk with h' | h'
      · exact mono _ h'
      · show (if k.a = v then 2 else st k.a) = 2
        rw [if_pos (Option.some.inj h')]
  · have hf := h.fo hc
    obtain ⟨⟨F, e, hF⟩, _⟩ := hf
    by_cases ew : w = v
    · have hm : k ∈ ofL L v := mem_ofL.2 ⟨hk, hkw.trans ew⟩
      simp only [List.append_nil] at e
      rw [e] at hm
      rcases hF k hm with h' | h'
      · exact mono _ h'
      · cases h'
    · rw [if_neg ew] at hw
      exact mono _ (h.dn hc w hw k hk hkw)
  · obtain ⟨rk, M, hr⟩ := h.rk hc
    have hf := h.fo hc
    obtain ⟨⟨F, e, hF⟩, _⟩ := hf
    simp only [List.append_nil] at e
    refine ⟨fun n => if n = v then M else rk n, M + 1, fun w hw => ?_⟩
    by_cases ew : w = v
    · simp only [ew, if_true]
      refine ⟨by omega, fun k hk hkw => ?_⟩
      have hm : k ∈ ofL L v := mem_ofL.2 ⟨hk, hkw⟩
      rw [e] at hm
      rcases hF k hm with h' | h'
      · rw [if_neg (fun x => by rw [x] at h'; omega)]
        exact (hr _ h').1
      · cases h'
    · rw [if_neg ew] at hw
      obtain ⟨h1, h2⟩ := hr w hw
      refine ⟨?_, fun k hk hkw => ?_⟩
      · show (if w = v then M else rk w) < M + 1
        rw [if_neg ew]
        omega
      · have h3 := h.dn hc w hw k hk hkw
        show (if k.a = v then M else rk k.a) < (if w = v then M else rk w)
        rw [if_neg ew, if_neg (fun x => by rw [x] at h3; omega)]
        exact h2 k hk hkw

/-- the name u leads to one that is done -/
theorem Dfs.skip {L : List Hu} {N : Nat} {dfn used : Nat → Bool} {c : Nat} {st : Nat → Nat} {v : Nat} {u : Hu} {R : List Hu} {r : List (Nat × List Hu)} (h : Dfs L N dfn used c st ((v, u :: R) :: r)) (hu : st u.a = 2) : Dfs L N dfn used c st ((v, R) :: r) := by
  refine ⟨h.on, h.nd, ?_, fun x hx => ?_, fun hc => ?_, h.dn, h.rk, h.cy, fun x hx => ?_, h.le⟩
  · have := h.ch
    cases r with
    | nil => trivial
    | cons y r => exact this
  · rcases List.mem_cons.1 hx with rfl | hx
    · obtain ⟨F, e⟩ := h.sf (v, u :: R) (by simp)
      exact ⟨F ++ [u], by simpa using e⟩
    · exact h.sf x (by simp [hx])
  · obtain ⟨⟨F, e, hF⟩, h2⟩ := h.fo hc
    refine ⟨⟨F ++ [u], by simpa using e, fun k hk => ?_⟩, h2⟩
    rcases List.mem_append.1 hk with hk | hk
    · exact hF k hk
    · rw [List.mem_singleton.1 hk]; exact .inl hu
  · rcases List.mem_cons.1 hx with rfl | hx
    · exact h.us (v, u :: R) (by simp)
    · exact h.us x (by simp [hx])

theorem chn_ring {L : List Hu} {N : Nat} {dfn used : Nat → Bool} (hG : Grf L N dfn used) : ∀ (A : List (Nat × List Hu)) (v : Nat) (R : List Hu) (y : Nat × List Hu) (B : List (Nat × List Hu)), (∃ A', (v, R) :: A' = A ++ y :: B) → Chn L (A ++ y :: B) →
    (∀ x ∈ A ++ y :: B, x.1 < N ∧ (dfn x.1 = true → used x.1 = true)) → (u : Hu) → u ∈ L → u.i = v → u.a = y.1 → Ring L N dfn used := by
  intro A v R y B ⟨A', hA'⟩ hch hus u hu hui hua
  have key : ∀ (A : List (Nat × List Hu)), Chn L (A ++ y :: B) → ∀ x ∈ A ++ [y], (x.1 = ((A ++ [y]).head (by simp)).1) ∨ ∃ h ∈ L, h.i = x.1 ∧ ∃ z ∈ A ++ [y], h.a = z.1 := by
    intro A
    induction A with
    | nil => intro _ x hx; left; simp at hx; rw [hx]; rfl
    | cons a A ih =>
      intro hc x hx
      rw [List.cons_append] at hx hc
      rcases List.mem_cons.1 hx with rfl | hx
      · left; rfl
      · have hc2 : Chn L (A ++ y :: B) := by
          cases A with
          | nil => exact hc.2
          | cons b A => exact hc.2
        rcases ih hc2 x hx with h | ⟨h, hL, hi, z, hz, hza⟩
        · right
          cases A with
          | nil =>
            obtain ⟨⟨k, hk, hk1, hk2⟩, _⟩ := hc
            exact ⟨k, hk, by rw [hk1, h]; rfl, a, by simp, hk2⟩
          | cons b A =>
            obtain ⟨⟨k, hk, hk1, hk2⟩, _⟩ := hc
            exact ⟨k, hk, by rw [hk1, h]; rfl, a, by simp, hk2⟩
        · right; exact ⟨h, hL, hi, z, by simp at hz ⊢; exact .inr hz, hza⟩
  have hd : ((A ++ [y]).head (by simp)).1 = v := by
    cases A with
    | nil => simp at hA' ⊢; rw [← hA'.1]
    | cons a A => simp at hA' ⊢; rw [← hA'.1]
  have hsub : ∀ x ∈ A ++ [y], x ∈ A ++ y :: B := fun x hx => by
    simp at hx ⊢
    rcases hx with h | h
    · exact .inl h
    · exact .inr (.inl h)
  refine ⟨fun n => ∃ x ∈ A ++ [y], x.1 = n, ⟨y.1, y, by simp, rfl⟩, ?_⟩
  rintro n ⟨x, hx, rfl⟩
  have hx' := hus x (hsub x hx)
  rcases key A hch x hx with h | ⟨h, hL, hi, z, hz, hza⟩
  · rw [hd] at h
    have := (hG u hu).2.2.1
    rw [hui, ← h] at this
    exact ⟨hx'.1, this, hx'.2 this, u, hu, by rw [hui, h], y, by simp, hua.symm⟩
  · have := (hG h hL).2.2.1
    rw [hi] at this
    exact ⟨hx'.1, this, hx'.2 this, h, hL, hi, z, hz, hza.symm⟩

/-- the name u leads back to one that the walk is within -/
theorem Dfs.back {L : List Hu} {N : Nat} {dfn used : Nat → Bool} {c : Nat} {st : Nat → Nat} {v : Nat} {u : Hu} {R : List Hu} {r : List (Nat × List Hu)} (hG : Grf L N dfn used) (h : Dfs L N dfn used c st ((v, u :: R) :: r)) (hu : st u.a = 1) : Dfs L N dfn used (c + 1) st ((v, R) :: r) := by
  have hsf : ∀ x ∈ (v, R) :: r, ∃ F, ofL L x.1 = F ++ x.2 := fun x hx => by
    rcases List.mem_cons.1 hx with rfl | hx
    · obtain ⟨F, e⟩ := h.sf (v, u :: R) (by simp)
      exact ⟨F ++ [u], by simpa using e⟩
    · exact h.sf x (by simp [hx])
  have hus : ∀ x ∈ (v, R) :: r, x.1 < N ∧ (dfn x.1 = true → used x.1 = true) := fun x hx => by
    rcases List.mem_cons.1 hx with rfl | hx
    · exact h.us (v, u :: R) (by simp)
    · exact h.us x (by simp [hx])
  have hch : Chn L ((v, R) :: r) := by
    have := h.ch
    cases r with
    | nil => trivial
    | cons y r => exact this
  refine ⟨h.on, h.nd, hch, hsf, fun hc => by omega, fun hc => by omega, fun hc => by omega, fun _ => ?_, hus, h.le⟩
  have hmem : u.a ∈ ((v, R) :: r).map Prod.fst := by have := (h.on u.a).1 hu; simpa using this
  obtain ⟨y, hy, hya⟩ := List.mem_map.1 hmem
  obtain ⟨A, B, hAB⟩ := List.append_of_mem hy
  have hum : u ∈ ofL L v := by
    obtain ⟨F, e⟩ := h.sf (v, u :: R) (by simp)
    rw [show ofL L v = F ++ u :: R from e]
    simp
  rw [hAB] at hch hus
  exact chn_ring hG A v R y B ⟨r, hAB⟩ hch hus u (mem_ofL.1 hum).1 (mem_ofL.1 hum).2 hya.symm

/-- the name u leads on to one not seen before -/
theorem Dfs.push {L : List Hu} {N : Nat} {dfn used : Nat → Bool} {c : Nat} {st : Nat → Nat} {v : Nat} {u : Hu} {R : List Hu} {r : List (Nat × List Hu)} (hG : Grf L N dfn used) (h : Dfs L N dfn used c st ((v, u :: R) :: r)) (hu : st u.a = 0) : Dfs L N dfn used c (fun n => if n = u.a then 1 else st n) ((u.a, ofL L u.a) :: (v, R) :: r) := by
  have hum : u ∈ ofL L v := by
    obtain ⟨F, e⟩ := h.sf (v, u :: R) (by simp)
    rw [show ofL L v = F ++ u :: R from e]
    simp
  obtain ⟨hL, hi⟩ := mem_ofL.1 hum
  have hg := hG u hL
  have hv := h.us (v, u :: R) (by simp)
  have mono : ∀ n, st n = 2 → (if n = u.a then 1 else st n) = 2 := fun n hn => by rw [if_neg (fun e => by rw [e] at hn; omega)]; exact hn
  have mono' : ∀ n, (if n = u.a then 1 else st n) = 2 → st n = 2 := fun n hn => by split at hn; omega; exact hn
  refine ⟨fun n => ?_, ?_, ⟨⟨u, hL, hi, rfl⟩, ?_⟩, fun x hx => ?_, fun hc => ?_, fun hc w hw k hk hkw => mono _ (h.dn hc w (mono' w hw) k hk hkw), fun hc => ?_, h.cy, fun x hx => ?_, fun n => ?_⟩
  · by_cases e : n = u.a
    · simp [e]
    · rw [if_neg e, h.on n]; simp [e]
  · rw [List.map_cons, List.nodup_cons]
    refine ⟨fun hm => ?_, h.nd⟩
    have := (h.on u.a).2 hm
    omega
  · have := h.ch
    cases r with
    | nil => trivial
    | cons y r => exact this
  · rcases List.mem_cons.1 hx with rfl | hx
    · exact ⟨[], rfl⟩
    · rcases List.mem_cons.1 hx with rfl | hx
      · obtain ⟨F, e⟩ := h.sf (v, u :: R) (by simp)
        exact ⟨F ++ [u], by simpa using e⟩
      · exact h.sf x (by simp [hx])
  · obtain ⟨⟨F, e, hF⟩, h2⟩ := h.fo hc
    refine ⟨⟨[], rfl, by simp⟩, ⟨F ++ [u], by simpa using e, fun k hk => ?_⟩, h2.mono mono⟩
    rcases List.mem_append.1 hk with hk | hk
    · rcases hF k hk with h' | h'
      · exact .inl (mono _ h')
      · cases h'
    · rw [List.mem_singleton.1 hk]; exact .inr rfl
  · obtain ⟨rk, M, hr⟩ := h.rk hc
    exact ⟨rk, M, fun w hw => hr w (mono' w hw)⟩
  · rcases List.mem_cons.1 hx with rfl | hx
    · exact ⟨hg.2.1, fun hd => hg.2.2.2 (by rw [hi]; exact hv.2 (by rw [← hi]; exact hg.2.2.1)) hd⟩
    · rcases List.mem_cons.1 hx with rfl | hx
      · exact hv
      · exact h.us x (by simp [hx])
  · show (if n = u.a then 1 else st n) ≤ 2
    split
    · omega
    · exact h.le n

/-- a walk begins -/
theorem Dfs.root {L : List Hu} {N : Nat} {dfn used : Nat → Bool} {c : Nat} {st : Nat → Nat} {v : Nat} (h : Dfs L N dfn used c st []) (hv : st v = 0) (hN : v < N) (hu : used v = true) : Dfs L N dfn used c (fun n => if n = v then 1 else st n) [(v, ofL L v)] := by
  have mono : ∀ n, st n = 2 → (if n = v then 1 else st n) = 2 := fun n hn => by rw [if_neg (fun e => by rw [e] at hn; omega)]; exact hn
  have mono' : ∀ n, (if n = v then 1 else st n) = 2 → st n = 2 := fun n hn => by split at hn; omega; exact hn
  refine ⟨fun n => ?_, by simp, trivial, fun x hx => ?_, fun hc => ⟨⟨[], rfl, by simp⟩, trivial⟩, fun hc w hw k hk hkw => mono _ (h.dn hc w (mono' w hw) k hk hkw), fun hc => ?_, h.cy, fun x hx => ?_, fun n => ?_⟩
  · by_cases e : n = v
    · simp [e]
    · rw [if_neg e, h.on n]; simp [e]
  · simp at hx; subst hx; exact ⟨[], rfl⟩
  · obtain ⟨rk, M, hr⟩ := h.rk hc
    exact ⟨rk, M, fun w hw => hr w (mono' w hw)⟩
  · simp at hx; subst hx; exact ⟨hN, fun _ => hu⟩
  · show (if n = v then 1 else st n) ≤ 2
    split
    · omega
    · exact h.le n

/-- all walked: a name that leads back was met just where there is a ring -/
theorem Dfs.over {L : List Hu} {N : Nat} {dfn used : Nat → Bool} {c : Nat} {st : Nat → Nat} (h : Dfs L N dfn used c st []) (hall : ∀ n, n < N → dfn n = true → used n = true → st n = 2) : 0 < c ↔ Ring L N dfn used := by
  refine ⟨h.cy, fun ⟨X, ⟨x, hx⟩, hX⟩ => ?_⟩
  rcases Nat.eq_zero_or_pos c with hc | hc
  · exfalso
    obtain ⟨rk, M, hr⟩ := h.rk hc
    have : ∀ k x, rk x = k → ¬ X x := by
      intro k
      induction k using Nat.strongRecOn with
      | ind k ih =>
        intro x hk hx
        obtain ⟨h1, h2, h3, e, he, hei, hea⟩ := hX x hx
        have h4 := (hr x (hall x h1 h2 h3)).2 e he hei
        exact ih (rk e.a) (by omega) e.a rfl hea
    exact this _ x rfl hx
  · exact hc
end Go.Proofs.YbulkatxsFmt.cnt
