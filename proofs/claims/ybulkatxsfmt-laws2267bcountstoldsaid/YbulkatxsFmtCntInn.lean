/-
  Of LawS2267BCounts: the walk of cycles: the laws.
-/
import Derived.Test.YbulkatxsFmtCntStand
namespace Go.Proofs.YbulkatxsFmt.cnt
open Go.ChangeShapes Go.WideShapes Go.ChangeAt Go.RowKit Go
open Go.Extern.Stop Go.Stop Go.Extern

theorem cell_two_new (w : World) (x y : Value) (t : TypeId) : ∀ j u, [x, y][j]? = some u → (w.alloc (.cells #[x, y] t)).cell? ((⟨w.heap.size, 0, none⟩ : Addr).add j) = some u := by
  intro j u hj
  have hadd : (⟨w.heap.size, 0, none⟩ : Addr).add j = ⟨w.heap.size, j, none⟩ := by unfold Addr.add; split <;> simp_all
  rw [hadd]
  match j, hj with
  | 0, hj => simp at hj; subst hj; simp
  | 1, hj => simp at hj; subst hj; simp

/-- how the inner walk stands, n being still to be done -/
def Inn (G : Geo) (w : World) (hb : Nat) (L : List Hu) (used : Nat → Bool) (u nn C0 d0 : Nat) (st0 : Nat → Nat) (n : Nat) (v : Value) (wr : World) : Prop :=
  ∃ c st p xs, Lie G w hb used u nn v wr c st p xs ∧ Dfs L G.N G.dfn used c st p ∧ potU L st (List.range G.N) + potP p = n ∧ c + n ≤ C0 ∧ (∀ m, st0 m = 2 → st m = 2) ∧ st d0 ≠ 0

theorem free_g {G : Geo} (o : G.Ok) {i : Nat} (h : G.g ≤ i) : G.Free i := by
  obtain ⟨_, _, _, _, _, _, _, _, _, _, _, _, _, _, _, _, _, _, _⟩ := o
  refine ⟨?_, ?_, ?_, ?_, ?_, ?_⟩ <;> omega

theorem nodup_le : ∀ (N : Nat) (l : List Nat), l.Nodup → (∀ x ∈ l, x < N) → l.length ≤ N
  | 0, l, _, h => by
    cases l with
    | nil => simp
    | cons x l => exact absurd (h x (by simp)) (Nat.not_lt_zero _)
  | N + 1, l, hn, h => by
    have h1 := nodup_le N (l.erase N) (hn.erase N) fun x hx => by
      have h2 := (hn.mem_erase_iff).1 hx
      have := h x h2.2
      have := h2.1
      omega
    rw [List.length_erase] at h1
    split at h1 <;> omega

section
variable {G : Geo} {w : World} {hb : Nat} {L : List Hu} {used : Nat → Bool} {u nn C0 d0 : Nat} {st0 st : Nat → Nat} {n c v : Nat} {wr : World} {r : List (Nat × List Hu)} {xs : List Value}

theorem Inn.pop {g cap : Nat} (o : G.Ok) (sz : G.g + 3 < w.heap.size) (hbl : hb < w.heap.size) (li : Lie G w hb used u nn (.slice (some ⟨g, 0, .none⟩) (r.length + 1) cap) wr c st ((v, []) :: r) xs) (dd : Dfs L G.N G.dfn used c st ((v, []) :: r))
    (pp : potU L st (List.range G.N) + potP ((v, []) :: r) = n) (bb : c + n ≤ C0) (mo : ∀ m, st0 m = 2 → st m = 2) (nd : st d0 ≠ 0) :
    ∃ n', n' < n ∧ Inn G w hb L used u nn C0 d0 st0 n' (.slice (some ⟨g, 0, .none⟩) r.length cap) (wr.setCell ⟨w.heap.size, v, .none⟩ (.int .u8 2)) := by
  have h1 : st v ≠ 0 := by have := (dd.on v).2 (by simp); omega
  have h2 := potU_done (L := L) h1 (List.range G.N)
  simp only [potP, List.length_nil] at pp
  refine ⟨potU L st (List.range G.N) + potP r, by omega, c, fun n => if n = v then 2 else st n, r, _, (li.mark o sz hbl v 2).pop o sz, dd.pop, by rw [h2], by omega, fun m hm => ?_, ?_⟩
  · show (if m = v then 2 else st m) = 2
    split
    · rfl
    · exact mo m hm
  · show (if d0 = v then 2 else st d0) ≠ 0
    split
    · omega
    · exact nd

theorem Inn.skip {x : Value} {h : Hu} {R : List Hu} (li : Lie G w hb used u nn x wr c st ((v, R) :: r) xs) (dd : Dfs L G.N G.dfn used c st ((v, h :: R) :: r))
    (pp : potU L st (List.range G.N) + potP ((v, h :: R) :: r) = n) (bb : c + n ≤ C0) (mo : ∀ m, st0 m = 2 → st m = 2) (nd : st d0 ≠ 0) (hs : st h.a = 2) :
    ∃ n', n' < n ∧ Inn G w hb L used u nn C0 d0 st0 n' x wr := by
  simp only [potP, List.length_cons] at pp
  exact ⟨potU L st (List.range G.N) + potP ((v, R) :: r), by simp only [potP]; omega, c, st, (v, R) :: r, _, li, dd.skip hs, rfl, by simp only [potP]; omega, mo, nd⟩

theorem Inn.back {x : Value} {h : Hu} {R : List Hu} (hG : Grf L G.N G.dfn used) (li : Lie G w hb used u nn x wr (c + 1) st ((v, R) :: r) xs) (dd : Dfs L G.N G.dfn used c st ((v, h :: R) :: r))
    (pp : potU L st (List.range G.N) + potP ((v, h :: R) :: r) = n) (bb : c + n ≤ C0) (mo : ∀ m, st0 m = 2 → st m = 2) (nd : st d0 ≠ 0) (hs : st h.a = 1) :
    ∃ n', n' < n ∧ Inn G w hb L used u nn C0 d0 st0 n' x wr := by
  simp only [potP, List.length_cons] at pp
  exact ⟨potU L st (List.range G.N) + potP ((v, R) :: r), by simp only [potP]; omega, c + 1, st, (v, R) :: r, _, li, dd.back hG hs, rfl, by simp only [potP]; omega, mo, nd⟩

theorem Dfs.named {h : Hu} {R : List Hu} (dd : Dfs L G.N G.dfn used c st ((v, h :: R) :: r)) : h ∈ L ∧ h.i = v := by
  obtain ⟨F, e⟩ := dd.sf (v, h :: R) (by simp)
  exact mem_ofL.1 (show h ∈ ofL L v by rw [show ofL L v = F ++ h :: R from e]; simp)

theorem Inn.push {x : Value} {h : Hu} {R : List Hu} (hG : Grf L G.N G.dfn used) (li : Lie G w hb used u nn x wr c (fun n => if n = h.a then 1 else st n) ((h.a, ofL L h.a) :: (v, R) :: r) xs) (dd : Dfs L G.N G.dfn used c st ((v, h :: R) :: r))
    (pp : potU L st (List.range G.N) + potP ((v, h :: R) :: r) = n) (bb : c + n ≤ C0) (mo : ∀ m, st0 m = 2 → st m = 2) (nd : st d0 ≠ 0) (hs : st h.a = 0) :
    ∃ n', n' < n ∧ Inn G w hb L used u nn C0 d0 st0 n' x wr := by
  have hN := (hG h dd.named.1).2.1
  have h1 := potU_seen (L := L) (st := st) (v := h.a) 1 (by omega) (List.nodup_range (n := G.N)) (List.mem_range.2 hN) hs
  simp only [potP, List.length_cons] at pp
  refine ⟨_, ?_, c, fun n => if n = h.a then 1 else st n, (h.a, ofL L h.a) :: (v, R) :: r, _, li, dd.push hG hs, rfl, ?_, fun m hm => ?_, ?_⟩
  · simp only [potP]; omega
  · simp only [potP]; omega
  · show (if m = h.a then 1 else st m) = 2
    rw [if_neg (fun e => by have := mo m hm; rw [e, hs] at this; omega)]
    exact mo m hm
  · show (if d0 = h.a then 1 else st d0) ≠ 0
    split
    · omega
    · exact nd
end

theorem slice81 (b o n c : Nat) (wx : World) : (Instr.sliceAt 81 (.slice (some ⟨b, o, .none⟩) (n + 1) c) (some (.int .i64 1)) none none).run Ybaf.prog wx = .ok (.slice (some ⟨b, if c = 1 then o else o + 5, .none⟩) n (c - 1)) wx := by
  have hu : Ybaf.prog.underlying 81 = some (.slice (Ybaf.prog.elem 81)) := by kernel_rfl
  have hs : (sizeOf (Ybaf.prog.elem 81)).run Ybaf.prog wx = .ok 5 wx := by kernel_rfl
  rw [run_sliceAt_slice _ _ _ _ _ _ hu, run_slice_l _ _ _ _ _ hu _ _ (by omega) (by omega), hs]
  simp only [Result.andThen, sliced]
  by_cases h : c = 1 <;> simp [h, Addr.add]
theorem cell_new_at (w : World) (cs : Array Value) (t : TypeId) (n : Nat) (hn : w.heap.size = n) (j : Nat) : (w.alloc (.cells cs t)).cell? ⟨n, j, .none⟩ = cs[j]? := by
  subst hn
  unfold World.cell?
  rw [heap_alloc_new]
  simp
theorem cycle_any (F : Interp) (G : Geo) (o : G.Ok) (w : World) (used : Nat → Bool) (c u n : Nat) (a b : Nat) (i col : Int) (hF : F.answers w.tape) (hf : Fix G w) (hm : Mut G w used c u n) (ha : a < G.N) (hb : b < G.N) (hc0 : 0 ≤ col) (hc1 : col < 4294967296) :
    Calls Ybaf.prog 29 #[.pointer (some ⟨G.R, 0, .none⟩), .agg #[.int .i32 a, .int .i32 i, .int .u32 0, .int .u32 0, .int .u32 col], .int .i32 b, .bool G.st] w fun e w' =>
      ∃ y x : Nat, e = .returned (.pointer (some ⟨y, 0, .none⟩)) ∧ Keep No w w' ∧ Prb w' y ⟨x, 0, .none⟩ (!G.st) ∧ Cyc G w' x := by
  by_cases hab : a = b
  · exact cycle_same F G o w used c u n a b i col hF hf hm ha hb hab hc0 hc1
  · exact cycle_other F G o w used c u n a b i col hF hf hm ha hb hab hc0 hc1
end Go.Proofs.YbulkatxsFmt.cnt
