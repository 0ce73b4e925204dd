/-
  Of LawS2267BCounts: what is reached (no Go in sight).
-/
import Derived.Test.YbulkatxsFmtCntDfs
namespace Go.Proofs.YbulkatxsFmt.cnt

/-- what is used, or named by the definition of what is reached -/
inductive Rch (H : List Hu) (dfn used0 : Nat → Bool) : Nat → Prop
  | base (n : Nat) : used0 n = true → Rch H dfn used0 n
  | step (h : Hu) : h ∈ H → Rch H dfn used0 h.i → dfn h.a = true → Rch H dfn used0 h.a

def badCnt (dfn : Nat → Bool) (P : List Hu) : Nat := (P.filter fun h => !dfn h.a).length
def sumF (L : List Hu) (dfn : Nat → Bool) (F : List Nat) : Nat := (F.map fun n => badCnt dfn (ofL L n)).sum
def heldCnt (L : List Hu) (dfn used : Nat → Bool) : Nat := (L.filter fun h => used h.i && !dfn h.a).length

structure Rea (L : List Hu) (N : Nat) (dfn used0 : Nat → Bool) (u0 : Nat) (S F : List Nat) (used : Nat → Bool) (u : Nat) : Prop where
  sub : ∀ n, used0 n = true → used n = true
  snd : ∀ n, used n = true → Rch L dfn used0 n
  got : ∀ n, n < N → used n = true → dfn n = true → ofL L n ≠ [] → n ∈ S ∨ n ∈ F
  on : ∀ n ∈ S, used n = true ∧ n < N
  onF : ∀ n ∈ F, used n = true
  nd : (S ++ F).Nodup
  cl : ∀ n ∈ F, ∀ h ∈ ofL L n, dfn h.a = true → used h.a = true
  cnt : u = u0 + sumF L dfn F

structure ReaI (L : List Hu) (N : Nat) (dfn used0 : Nat → Bool) (u0 n : Nat) (P Q : List Hu) (S F : List Nat) (used : Nat → Bool) (u : Nat) : Prop where
  sub : ∀ n, used0 n = true → used n = true
  snd : ∀ n, used n = true → Rch L dfn used0 n
  got : ∀ m, m < N → used m = true → dfn m = true → ofL L m ≠ [] → m ∈ S ∨ m ∈ F ∨ m = n
  on : ∀ n ∈ S, used n = true ∧ n < N
  onF : ∀ n ∈ F, used n = true
  un : used n = true
  nd : (n :: (S ++ F)).Nodup
  cl : ∀ n ∈ F, ∀ h ∈ ofL L n, dfn h.a = true → used h.a = true
  eq : ofL L n = P ++ Q
  dn : ∀ h ∈ P, dfn h.a = true → used h.a = true
  cnt : u = u0 + sumF L dfn F + badCnt dfn P

section
variable {L : List Hu} {N : Nat} {dfn used0 : Nat → Bool} {u0 n : Nat} {P Q : List Hu} {S F : List Nat} {used : Nat → Bool} {u : Nat}

theorem Rea.pop (h : Rea L N dfn used0 u0 (n :: S) F used u) : ReaI L N dfn used0 u0 n [] (ofL L n) S F used u := by
  refine ⟨h.sub, h.snd, fun m hm h1 h2 h3 => ?_, fun m hm => h.on m (by simp [hm]), h.onF, (h.on n (by simp)).1, h.nd, h.cl, rfl, by simp, by simpa [badCnt] using h.cnt⟩
  rcases h.got m hm h1 h2 h3 with h | h
  · rcases List.mem_cons.1 h with h | h
    · exact .inr (.inr h)
    · exact .inl h
  · exact .inr (.inl h)

theorem badCnt_snoc (h : Hu) : badCnt dfn (P ++ [h]) = badCnt dfn P + (if dfn h.a = true then 0 else 1) := by
  unfold badCnt
  rw [List.filter_append, List.length_append]
  by_cases e : dfn h.a = true <;> simp [e]

theorem ReaI.undef {h : Hu} (r : ReaI L N dfn used0 u0 n P (h :: Q) S F used u) (hd : dfn h.a = false) : ReaI L N dfn used0 u0 n (P ++ [h]) Q S F used (u + 1) := by
  refine ⟨r.sub, r.snd, r.got, r.on, r.onF, r.un, r.nd, r.cl, by rw [r.eq]; simp, fun k hk hkd => ?_, ?_⟩
  · rcases List.mem_append.1 hk with hk | hk
    · exact r.dn k hk hkd
    · rw [List.mem_singleton.1 hk, hd] at hkd; cases hkd
  · rw [badCnt_snoc, hd, r.cnt]; simp; omega
theorem ReaI.had {h : Hu} (r : ReaI L N dfn used0 u0 n P (h :: Q) S F used u) (hd : dfn h.a = true) (hu : used h.a = true) : ReaI L N dfn used0 u0 n (P ++ [h]) Q S F used u := by
  refine ⟨r.sub, r.snd, r.got, r.on, r.onF, r.un, r.nd, r.cl, by rw [r.eq]; simp, fun k hk hkd => ?_, ?_⟩
  · rcases List.mem_append.1 hk with hk | hk
    · exact r.dn k hk hkd
    · rw [List.mem_singleton.1 hk]; exact hu
  · rw [badCnt_snoc, if_pos hd, r.cnt]; rfl
theorem ReaI.mem {h : Hu} (r : ReaI L N dfn used0 u0 n P (h :: Q) S F used u) : h ∈ L ∧ h.i = n := mem_ofL.1 (by rw [r.eq]; simp)
theorem ReaI.new {h : Hu} (r : ReaI L N dfn used0 u0 n P (h :: Q) S F used u) (hd : dfn h.a = true) (hu : used h.a = false) (hN : h.a < N) : ReaI L N dfn used0 u0 n (P ++ [h]) Q (h.a :: S) F (fun i => used i || i == h.a) u := by
  have mono : ∀ m, used m = true → (used m || m == h.a) = true := fun m hm => by simp [hm]
  refine ⟨fun m hm => mono m (r.sub m hm), fun m hm => ?_, fun m hm h1 h2 h3 => ?_, fun m hm => ?_, fun m hm => mono m (r.onF m hm), mono _ r.un, ?_, fun m hm k hk hkd => mono _ (r.cl m hm k hk hkd), by rw [r.eq]; simp, fun k hk hkd => ?_, ?_⟩
  · simp only [Bool.or_eq_true, beq_iff_eq] at hm
    rcases hm with hm | rfl
    · exact r.snd m hm
    · exact .step h r.mem.1 (by rw [r.mem.2]; exact r.snd n r.un) hd
  · simp only [Bool.or_eq_true, beq_iff_eq] at h1
    rcases h1 with h1 | rfl
    · rcases r.got m hm h1 h2 h3 with h | h
      · exact .inl (by simp [h])
      · exact .inr h
    · exact .inl (by simp)
  · rcases List.mem_cons.1 hm with rfl | hm
    · exact ⟨by simp, hN⟩
    · exact ⟨mono _ (r.on m hm).1, (r.on m hm).2⟩
  · have h1 : h.a ≠ n := fun e => by rw [e, r.un] at hu; cases hu
    have h2 : h.a ∉ S := fun e => by rw [(r.on _ e).1] at hu; cases hu
    have h3 : h.a ∉ F := fun e => by rw [r.onF _ e] at hu; cases hu
    have := r.nd
    simp only [List.cons_append, List.nodup_cons, List.mem_cons, List.mem_append, not_or] at this ⊢
    exact ⟨⟨fun e => h1 e.symm, this.1⟩, ⟨h2, h3⟩, this.2⟩
  · rcases List.mem_append.1 hk with hk | hk
    · exact mono _ (r.dn k hk hkd)
    · rw [List.mem_singleton.1 hk]; simp
  · rw [badCnt_snoc, if_pos hd, r.cnt]; rfl
theorem ReaI.fin (r : ReaI L N dfn used0 u0 n P [] S F used u) : Rea L N dfn used0 u0 S (n :: F) used u := by
  have e : ofL L n = P := by rw [r.eq]; simp
  refine ⟨r.sub, r.snd, fun m hm h1 h2 h3 => ?_, r.on, fun m hm => ?_, ?_, fun m hm k hk hkd => ?_, ?_⟩
  · rcases r.got m hm h1 h2 h3 with h | h | h
    · exact .inl h
    · exact .inr (by simp [h])
    · exact .inr (by simp [h])
  · rcases List.mem_cons.1 hm with rfl | hm
    · exact r.un
    · exact r.onF m hm
  · exact (List.perm_middle.nodup_iff).2 r.nd
  · rcases List.mem_cons.1 hm with rfl | hm
    · exact r.dn k (by rw [← e]; exact hk) hkd
    · exact r.cl m hm k hk hkd
  · have h1 : sumF L dfn (n :: F) = badCnt dfn (ofL L n) + sumF L dfn F := rfl
    rw [r.cnt, h1, e]
    omega

theorem sumF_eq : ∀ {F : List Nat}, F.Nodup → sumF L dfn F = (L.filter fun h => decide (h.i ∈ F) && !dfn h.a).length
  | [], _ => by
    rw [List.filter_eq_nil_iff.2 (by simp)]; rfl
  | n :: F, hn => by
    rw [List.nodup_cons] at hn
    have ih := sumF_eq hn.2
    rw [sumF, List.map_cons, List.sum_cons]
    show badCnt dfn (ofL L n) + sumF L dfn F = _
    rw [ih]
    unfold badCnt ofL
    clear ih
    induction L with
    | nil => rfl
    | cons h L ih =>
      simp only [List.filter_cons]
      by_cases e : h.i = n
      · have hF : h.i ∉ F := by rw [e]; exact hn.1
        by_cases d : dfn h.a = true
        · simp [e, d] at ih ⊢
          exact ih
        · simp only [Bool.not_eq_true] at d
          have : decide (n ∈ F) = false := by simpa using hn.1
          simp [e, d, this] at ih ⊢
          omega
      · by_cases d : dfn h.a = true
        · simp [e, d] at ih ⊢
          exact ih
        · simp only [Bool.not_eq_true] at d
          by_cases m : h.i ∈ F
          · simp [e, d, m] at ih ⊢
            omega
          · simp [e, d, m] at ih ⊢
            exact ih

theorem Rea.closed (r : Rea L N dfn used0 u0 [] F used u) (hG : ∀ h ∈ L, h.i < N ∧ h.a < N ∧ dfn h.i = true) {h : Hu} (hh : h ∈ L) (hu : used h.i = true) : h.i ∈ F ∧ (dfn h.a = true → used h.a = true) := by
  have h1 := hG h hh
  have hm : h ∈ ofL L h.i := mem_ofL.2 ⟨hh, rfl⟩
  rcases r.got h.i h1.1 hu h1.2.2 (fun e => by rw [e] at hm; simp at hm) with h2 | h2
  · simp at h2
  · exact ⟨h2, fun hd => r.cl _ h2 h hm hd⟩
theorem Rea.over (r : Rea L N dfn used0 u0 [] F used u) (hG : ∀ h ∈ L, h.i < N ∧ h.a < N ∧ dfn h.i = true) : (∀ n, used n = true ↔ Rch L dfn used0 n) ∧ u = u0 + heldCnt L dfn used ∧ Grf L N dfn used := by
  refine ⟨fun n => ⟨r.snd n, fun h => ?_⟩, ?_, fun h hh => ⟨(hG h hh).1, (hG h hh).2.1, (hG h hh).2.2, fun hu => (r.closed hG hh hu).2⟩⟩
  · induction h with
    | base n hn => exact r.sub n hn
    | step h hh _ hd ih => exact (r.closed hG hh ih).2 hd
  · rw [r.cnt, sumF_eq (by simpa using r.nd)]
    unfold heldCnt
    congr 2
    apply List.filter_congr
    intro h hh
    by_cases e : used h.i = true
    · rw [e]
      have := (r.closed hG hh e).1
      simp [this]
    · have : h.i ∉ F := fun m => e (r.onF _ m)
      simp only [Bool.not_eq_true] at e
      simp [e, this]
end

/-- how many are not used -/
def unusedN (N : Nat) (used : Nat → Bool) : Nat := ((List.range N).filter fun n => !used n).length
theorem unusedN_new {N a : Nat} {used : Nat → Bool} (ha : a < N) (hu : used a = false) : unusedN N (fun i => used i || i == a) + 1 = unusedN N used := by
  have key : ∀ l : List Nat, l.Nodup → a ∈ l → (l.filter fun n => !(used n || n == a)).length + 1 = (l.filter fun n => !used n).length := by
    intro l
    induction l with
    | nil => intro _ h; simp at h
    | cons x l ih =>
      intro hn hm
      rw [List.nodup_cons] at hn
      simp only [List.filter_cons]
      by_cases e : x = a
      · subst e
        have h2 : (l.filter fun n => !(used n || n == x)) = l.filter fun n => !used n := by
          apply List.filter_congr
          intro y hy
          have : y ≠ x := fun e => hn.1 (by rw [← e]; exact hy)
          simp [this]
        rw [h2]
        simp [hu]
      · have := ih hn.2 (by rcases List.mem_cons.1 hm with h | h; exact absurd h.symm e; exact h)
        by_cases d : used x = true
        · simp [d] at this ⊢
          exact this
        · simp only [Bool.not_eq_true] at d
          simp [d, e] at this ⊢
          omega
  exact key (List.range N) List.nodup_range (List.mem_range.2 ha)
end Go.Proofs.YbulkatxsFmt.cnt
