/-
  Of LawS2265CRefusesExactlyNonValues: the route's text: formatRoute, atRoute.
-/
import Derived.Test.YbulkatwqFmtBuild
import Derived.Test.YbulkatwqFmtShelf
import Derived.Lib.AppendIntMem
import Derived.Lib.ItoaLen
import Derived.Lib.Join
import Derived.Lib.SmallJoins
namespace Go.Proofs.YbulkatwqFmt.tree
open Go.ChangeShapes Go.WideShapes Go.ChangeAt Go.RowKit Go

/-- The table that Itoa reads, by the row's own name for it. -/
def Tab (w : World) : Prop := Lib.TabIs Ybaf.prog w (Rows.lawS2265CRefusesExactlyNonValuesRow.named.headD default) .u64 Lib.pow10Tab

theorem Tab.below {w w' : World} (h : Tab w) (hb : Below w.heap.size w w') : Tab w' :=
  (Lib.tabBelow_of_tabIs h) w' hb

theorem itoa_any (n : Int) (h0 : 0 ≤ n) (h1 : n < 1024) (w : World) (ht : Tab w) :
    Calls Ybaf.prog 17 #[.int .i64 n] w fun e w' => ∃ s : ByteArray, e = .returned (.string s) ∧ s.size ≤ 21 ∧ Below w.heap.size w w' := by
  refine (Ybaf.strconv_Itoa n (by omega) (by omega) w ht).mono ?_
  rintro e w' ⟨rfl, k, os, rfl⟩
  have := Lib.itoa_length_le n (by omega) (by omega)
  exact ⟨_, rfl, by show (Lib.itoa n).toArray.size ≤ 21; simpa using this, Lib.below_grow _ _ (Nat.le_refl _) _ _⟩

theorem info9 : (Ybaf.prog.info? 9).map (fun i => (i.zero, i.size, i.bytes)) = some (some (.string ⟨#[]⟩), 1, 16) := by kernel_rfl
theorem makeStrs (n : Nat) (hn : n ≤ 1024) (w : World) : (Instr.makeSlice 54 (.int .i64 n) (.int .i64 n)).run Ybaf.prog w = .ok (.slice (some ⟨w.heap.size, 0, .none⟩) n n) (w.alloc (.cells (madeCells #[.string ⟨#[]⟩] n) 9)) := by
  obtain ⟨i, hi, hz, hs, hb⟩ := info_parts info9
  have h := run_make (P := Ybaf.prog) w 54 9 i _ Ybaf.underlying54 hi hz .i64 .i64 n n (by omega) (by omega) (by rw [hb]; omega) (by omega)
  rw [hs, Int.toNat_natCast, Nat.mul_one] at h
  exact h

/-- Cells that each hold a short string. -/
structure Parts (w : World) (k : Nat) (wr : World) : Prop where
  bel : Below w.heap.size w wr
  lt : w.heap.size < wr.heap.size
  cell : ∀ j, j < k → ∃ s : ByteArray, wr.cell? ⟨w.heap.size, j, .none⟩ = some (.string s) ∧ s.size ≤ 21
  free : ∀ j, wr.frozen? ⟨w.heap.size, j, .none⟩ = false

theorem parts_start (w : World) (k : Nat) : Parts w k (w.alloc (.cells (madeCells #[.string ⟨#[]⟩] k) 9)) := by
  have hn := heap_alloc_new w (.cells (madeCells #[.string ⟨#[]⟩] k) 9)
  refine ⟨(Below.refl _ w).alloc (Nat.le_refl _) _, by simp, fun j hj => ⟨⟨#[]⟩, ?_, by decide⟩, fun j => ?_⟩
  · unfold World.cell?
    rw [hn]
    simp [madeCells, hj, Nat.mod_one]
  · unfold World.frozen?
    rw [hn]
    simp

theorem Parts.later {w wr w1 : World} {k : Nat} (h : Parts w k wr) (hb : Below wr.heap.size wr w1) : Parts w k w1 := by
  have hlt := h.lt
  refine ⟨h.bel.trans (hb.mono (by omega)), Nat.lt_of_lt_of_le hlt hb.size, fun j hj => ?_, fun j => ?_⟩
  · obtain ⟨s, hs, hl⟩ := h.cell j hj
    exact ⟨s, by rw [hb.cell (p := ⟨w.heap.size, j, .none⟩) hlt]; exact hs, hl⟩
  · rw [hb.frozen (p := ⟨w.heap.size, j, .none⟩) hlt]; exact h.free j

theorem Parts.set {w wr : World} {k : Nat} (h : Parts w k wr) (i : Nat) (s : ByteArray) (hs : s.size ≤ 21) : Parts w k (wr.setCell ⟨w.heap.size, i, .none⟩ (.string s)) := by
  refine ⟨h.bel.setCell (Nat.le_refl _) _, by simp [h.lt], fun j hj => ?_, fun j => by rw [World.frozen?_setCell]; exact h.free j⟩
  obtain ⟨t, ht, hl⟩ := h.cell j hj
  by_cases e : (⟨w.heap.size, i, .none⟩ : Addr) = ⟨w.heap.size, j, .none⟩
  · rw [e]
    exact ⟨s, World.cell?_setCell_same _ _ _ ht, hs⟩
  · exact ⟨t, by rw [World.cell?_setCell_other _ _ _ _ e]; exact ht, hl⟩

theorem lens_le : ∀ (xs : List (List UInt8)), (∀ x, x ∈ xs → x.length ≤ 21) → Lib.lens xs ≤ 21 * xs.length
  | [], _ => by simp [Lib.lens]
  | x :: xs, h => by
    have h1 := h x (by simp)
    have h2 := lens_le xs (fun y hy => h y (by simp [hy]))
    have e : Lib.lens (x :: xs) = x.length + Lib.lens xs := by simp [Lib.lens]
    rw [e, List.length_cons]
    omega

theorem join_len (xs : List (List UInt8)) (h : ∀ x, x ∈ xs → x.length ≤ 21) (hl : xs.length ≤ 8) : (Lib.join xs [46]).length ≤ 900 := by
  cases xs with
  | nil => simp [Lib.join_nil]
  | cons x r =>
    rw [Lib.join_length]
    have := lens_le (x :: r) h
    simp at this hl ⊢
    omega

/-- strings.Join over such cells. -/
theorem join_any {w wr : World} {k : Nat} (h : Parts w k wr) (hk : k ≤ 8) :
    Calls Ybaf.prog 18 #[.slice (some ⟨w.heap.size, 0, .none⟩) k k, .string ⟨#[46]⟩] wr fun e w' => ∃ s : ByteArray, e = .returned (.string s) ∧ s.size ≤ 900 ∧ Below wr.heap.size wr w' := by
  have hex : ∃ f : Nat → ByteArray, ∀ j, j < k → wr.cell? ⟨w.heap.size, j, .none⟩ = some (.string (f j)) ∧ (f j).size ≤ 21 := by
    refine ⟨fun j => if hj : j < k then (h.cell j hj).choose else ⟨#[]⟩, fun j hj => ?_⟩
    simp only [hj, dif_pos]
    exact (h.cell j hj).choose_spec
  obtain ⟨f, hf⟩ := hex
  have hlen : ((List.range k).map f).length = k := by simp
  have hj := join_len (((List.range k).map f).map (·.data.toList)) (by
    intro x hx
    simp at hx
    obtain ⟨j, hj, rfl⟩ := hx
    have := (hf j hj).2
    simpa using this) (by simpa using hk)
  have hcon := Ybaf.strings_Join w.heap.size 0 k ((List.range k).map f) ⟨#[46]⟩ wr (by
    intro j x hx
    rw [List.getElem?_map] at hx
    obtain ⟨j', hj', rfl⟩ := Option.map_eq_some_iff.1 hx
    have hjl : j < k := by
      have := (List.getElem?_eq_some_iff.1 hj').1
      simpa using this
    rw [List.getElem?_range hjl] at hj'
    cases hj'
    rw [Nat.zero_add]
    exact (hf j hjl).1) h.lt (by simp; omega) (by simp) (by have : (Lib.join (((List.range k).map f).map (·.data.toList)) (⟨#[46]⟩ : ByteArray).data.toList).length ≤ 900 := hj; omega)
  rw [hlen] at hcon
  refine hcon.mono ?_
  rintro e w' ⟨rfl, hb⟩
  exact ⟨_, rfl, by show (Lib.join (((List.range k).map f).map (·.data.toList)) [46]).toArray.size ≤ 900; simpa using hj, hb⟩

set_option maxHeartbeats 2000000 in
set_option maxRecDepth 100000 in
/-- formatRoute: some text, not long. -/
theorem format_any (g c : Nat) (zs : List Int) (w : World) (ht : Tab w) (hg : g < w.heap.size) (hk : zs.length ≤ 8) (hz : ∀ z, z ∈ zs → 0 ≤ z ∧ z < 1024) (hc : ∀ j z, zs[j]? = some z → w.cell? ⟨g, j, .none⟩ = some (.int .i64 z)) :
    Calls Ybaf.prog 16 #[.slice (some ⟨g, 0, .none⟩) zs.length c] w fun e w' => ∃ s : ByteArray, e = .returned (.string s) ∧ s.size ≤ 1000 ∧ Below w.heap.size w w' := by
  have hmk := makeStrs zs.length (by omega)
  have HT := hide ht
  have HZ := hide hz
  have HC := hide hc
  clear ht hz hc
  go_enter Ybaf.func16, Ybaf.ntmps16
  go_wp2
  go_loopw [11] (fun p wr => ∃ k : Nat, k ≤ zs.length ∧ p = .int .i64 k ∧ Parts w zs.length wr) (fun p _ => zs.length - (intOf p).toNat)
  case atStart => exact ⟨0, Nat.zero_le _, rfl, parts_start w zs.length⟩
  case round =>
    obtain ⟨k, hk', rfl, hP⟩ := hrel
    have HP := hide hP
    by_cases hlt : k < zs.length
    · have hcell := HC.out k zs[k] (List.getElem?_eq_getElem hlt)
      have hcell' := hP.bel.cell (p := ⟨g, k, .none⟩) hg
      have hzk := HZ.out zs[k] (List.getElem_mem hlt)
      obtain ⟨s0, hs0, _⟩ := hP.cell k hlt
      clear hP
      generalize zs[k] = z at hcell hzk
      have q0 : (0 : Int) ≤ (k : Int) := by omega
      have q1 : (k : Int) < (zs.length : Int) := by omega
      go_wp2_with fail
      refine (itoa_any z hzk.1 hzk.2 wr (HT.out.below HP.out.bel)).mono ?_
      rintro e w1 ⟨s, rfl, hsl, hb1⟩
      have hP1 := HP.out.later hb1
      have HP1 := hide hP1
      obtain ⟨s1, hs1, _⟩ := hP1.cell k hlt
      have hf1 := hP1.free k
      have HSL := hide hsl
      clear hb1 hP1 hs0 hcell hcell' hsl
      go_wp2
      go_roundw
      case rel => exact ⟨k + 1, by omega, by go_num, HP1.out.set k s HSL.out⟩
      case measure => simp [intOf]; omega
    · have q1 : ¬ (k : Int) < (zs.length : Int) := by omega
      clear hP
      go_wp2_with fail
      refine (join_any HP.out hk).mono ?_
      rintro e w1 ⟨s, rfl, hsl, hb1⟩
      have HSL := hide hsl
      have HB1 := hide hb1
      clear hsl hb1
      go_wp2
      go_ret
      exact ⟨s, rfl, by have := HSL.out; omega, HP.out.bel.trans (HB1.out.mono (Nat.le_of_lt HP.out.lt))⟩

set_option maxHeartbeats 1000000 in
set_option maxRecDepth 100000 in
/-- atRoute: some text, not long. -/
theorem at_any (g c : Nat) (zs : List Int) (w : World) (ht : Tab w) (hg : g < w.heap.size) (hk : zs.length ≤ 8) (hz : ∀ z, z ∈ zs → 0 ≤ z ∧ z < 1024) (hc : ∀ j z, zs[j]? = some z → w.cell? ⟨g, j, .none⟩ = some (.int .i64 z)) :
    Calls Ybaf.prog 13 #[.slice (some ⟨g, 0, .none⟩) zs.length c] w fun e w' => ∃ s : ByteArray, e = .returned (.string s) ∧ Below w.heap.size w w' := by
  by_cases h0 : zs.length = 0
  · rw [h0]
    go_enter Ybaf.func13, Ybaf.ntmps13
    go_wp2
    go_ret
    exact ⟨_, rfl, Below.refl _ _⟩
  · have h1 : ((zs.length : Int) == 0) = false := by simpa using h0
    have HT := hide ht
    have HZ := hide hz
    have HC := hide hc
    clear ht hz hc
    go_enter Ybaf.func13, Ybaf.ntmps13
    go_wp2_with fail
    refine (format_any g c zs w HT.out hg hk HZ.out HC.out).mono ?_
    rintro e w1 ⟨s, rfl, hsl, hb1⟩
    have HB1 := hide hb1
    clear hb1
    go_wp2
    go_ret
    exact ⟨_, rfl, HB1.out⟩
end Go.Proofs.YbulkatwqFmt.tree
