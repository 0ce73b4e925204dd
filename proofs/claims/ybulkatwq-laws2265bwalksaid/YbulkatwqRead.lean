/-
  Of LawS2265BWalk: the loop that peeks and steps, and reads the text back.
-/
import Derived.Test.YbulkatwqPeek
import Derived.Laws.BytesString
import Derived.Laws.IdiomStrings
import Derived.Laws.MakeOwn
import Derived.Laws.AppendOwn
namespace Go.Proofs.Ybulkatwq.peek
open Go.ChangeShapes Go.WideShapes Go.ChangeAt Go.RowKit Go

theorem info5 : (Yba.prog.info? 5).map (fun i => (i.zero, i.size, i.bytes)) = some (some (.int .u8 0), 1, 1) := by kernel_rfl

theorem makeBytes (n : Nat) (hn : n ≤ 4096) (w : World) : (Instr.makeSlice 32 (.int .i64 0) (.int .i64 n)).run Yba.prog w = .ok (.slice (some ⟨w.heap.size, 0, .none⟩) 0 n) (w.alloc (.cells (madeCells #[.int .u8 0] n) 5)) := by
  obtain ⟨i, hi, hz, hs, hb⟩ := info_parts info5
  have h := run_make (P := Yba.prog) w 32 5 i _ Yba.underlying32 hi hz .i64 .i64 0 n (by omega) (by omega) (by rw [hb]; omega) (by omega)
  rw [hs, Int.toNat_natCast, Nat.mul_one] at h
  exact h

/-- The bytes of the text, as cells. -/
def byteCells (l : List UInt8) : List Value := l.map fun c => .int .u8 (c.toNat : Int)

theorem byteCells_snoc (s : ByteArray) (k : Nat) (h : k < s.size) : byteCells (s.data.toList.take (k + 1)) = byteCells (s.data.toList.take k) ++ [.int .u8 (s[k].toNat : Int)] := by
  rw [List.take_succ_eq_append_getElem (by simpa using h)]
  simp [byteCells]
  rfl

/-- The parser's block, with the place at k. -/
def PRS (s : ByteArray) (k : Nat) : Obj := .cells #[.string s, .string ⟨#[]⟩, .int .i64 k, .int .i64 0, .int .i64 0, .nilIface, .nilIface, .nilIface, .int .u8 0, .slice .none 0 0, .int .i64 0] 28

/-- What holds behind k rounds. -/
structure Inv (w : World) (s : ByteArray) (k : Nat) (v : Value) (wr : World) : Prop where
  bel : Below w.heap.size w wr
  prs : wr.heap[w.heap.size]? = some (PRS s k)
  row : wr.ownsRow (w.heap.size + 1) 5 1 v k (byteCells (s.data.toList.take k))
  some : v ≠ .slice .none 0 0

/-- The parser's place, off memory. -/
def placeOf (b : Nat) (wr : World) : Nat := match wr.cell? ⟨b, 2, .none⟩ with | some x => (intOf x).toNat | _ => 0

theorem prs_cells {w : World} {b k : Nat} {s : ByteArray} (h : w.heap[b]? = some (PRS s k)) : w.cell? ⟨b, 0, .none⟩ = some (.string s) ∧ w.cell? ⟨b, 2, .none⟩ = some (.int .i64 k) ∧ w.frozen? ⟨b, 2, .none⟩ = false ∧ b < w.heap.size := by
  refine ⟨?_, ?_, ?_, (Array.getElem?_eq_some_iff.1 h).1⟩
  · simp [World.cell?, h, PRS]
  · simp [World.cell?, h, PRS]
  · simp [World.frozen?, h, PRS]
theorem placeOf_prs {w : World} {b k : Nat} {s : ByteArray} (h : w.heap[b]? = some (PRS s k)) : placeOf b w = k := by
  simp [placeOf, (prs_cells h).2.1, intOf]

theorem prs_step {w : World} {b k : Nat} {s : ByteArray} (h : w.heap[b]? = some (PRS s k)) : (w.setCell ⟨b, 2, .none⟩ (.int .i64 ((k : Int) + 1))).heap[b]? = some (PRS s (k + 1)) := by
  have hlt := (Array.getElem?_eq_some_iff.1 h).1
  simp only [World.setCell, Array.getElem?_modify, if_true]
  rw [h]
  simp [PRS]

theorem inv_start (w : World) (s : ByteArray) (hs : s.size ≤ 4096) : Inv w s 0 (.slice (some ⟨w.heap.size + 1, 0, .none⟩) 0 s.size) ((w.alloc (PRS s 0)).alloc (.cells (madeCells #[.int .u8 0] s.size) 5)) := by
  have e : (w.alloc (PRS s 0)).heap.size = w.heap.size + 1 := by simp
  refine ⟨((Below.refl _ w).alloc (Nat.le_refl _) _).alloc (by omega) _, ?_, ?_, by simp⟩
  · rw [Below.heap_alloc _ _ _ (by omega)]
    exact heap_alloc_new _ _
  · rw [← e]
    have := World.ownsRow_made (w.alloc (PRS s 0)) (base := (w.alloc (PRS s 0)).heap.size) (e := 5) (size := 1) (madeCells #[.int .u8 0] s.size) s.size (Nat.le_refl _) (by unfold maxLen; omega) (by simp [size_madeCells])
    simpa [byteCells] using this

/-- One round: the byte at k appended, the place moved on. -/
theorem inv_next {w wr w1 : World} {s : ByteArray} {k q : Nat} {v v' : Value} {O : Obj} (h : Inv w s k v wr) (hk : k < s.size) (hown : w1.ownsRow (w.heap.size + 1) 5 1 v' (k + 1) (byteCells (s.data.toList.take k) ++ [.int .u8 (s[k].toNat : Int)]))
    (hg : ((wr.drewN q).alloc O).grownBy w1 v.ownBlock) (hv' : v' ≠ .slice .none 0 0) : w1.heap[w.heap.size]? = some (PRS s k) ∧ Inv w s (k + 1) v' (w1.setCell ⟨w.heap.size, 2, .none⟩ (.int .i64 ((k : Int) + 1))) := by
  have hlt := (prs_cells h.prs).2.2.2
  have hrow : ∀ g, v.ownBlock = some g → w.heap.size + 1 ≤ g := by
    intro g hg
    rcases h.row.2 with ⟨rfl, _⟩ | ⟨g', cap, cur, rfl, hb, _⟩
    · simp [Value.ownBlock] at hg
    · simp [Value.ownBlock] at hg
      omega
  have hb1 : Below (w.heap.size + 1) wr w1 := by
    have h1 : Below (w.heap.size + 1) wr ((wr.drewN q).alloc O) := (below_drewN (Below.refl _ wr) q).alloc (by simp; omega) O
    exact h1.grown hg (by simp; omega) hrow
  have hp : w1.heap[w.heap.size]? = some (PRS s k) := by rw [hb1.block _ (by omega)]; exact h.prs
  refine ⟨hp, (h.bel.trans (hb1.mono (by omega))).setCell (Nat.le_refl _) _, prs_step hp, ?_, hv'⟩
  rw [byteCells_snoc s k hk]
  exact ownsRow_setCell_below hown (by show w.heap.size < _; omega) _

theorem conv_back {w wr : World} {s : ByteArray} {v : Value} (h : Inv w s s.size v wr) : ∃ g cap, v = .slice (some ⟨g, 0, .none⟩) s.size cap ∧ (convert 32 9 (.slice (some ⟨g, 0, .none⟩) s.size cap)).run Yba.prog wr = .ok (.string s) wr := by
  have hsome := h.some
  rcases h.row.2 with ⟨rfl, _⟩ | ⟨g, cap, cur, rfl, _, hg, _, _, hsz, ht⟩
  · exact absurd rfl hsome
  · refine ⟨g, cap, rfl, ?_⟩
    have hl : s.data.toList.length = s.size := by simp
    have hfull : s.data.toList.take s.size = s.data.toList := List.take_of_length_le (by omega)
    rw [hfull] at ht
    have := run_convert_bytes_back (P := Yba.prog) wr 32 9 5 ⟨g, 0, .none⟩ cap s.data.toList Yba.underlying32 Yba.underlying5 Yba.underlying9 (fun j hj => by
      have e : (byteCells s.data.toList)[j]? = some (.int .u8 (s.data.toList[j].toNat : Int)) := by simp [byteCells, List.getElem?_eq_getElem hj]
      rw [← ht, List.getElem?_take, if_pos (by omega)] at e
      rw [Addr.add_lit]
      simp [World.cell?, hg]
      simpa using e)
    rw [hl] at this
    exact this

set_option maxHeartbeats 2000000 in
set_option maxRecDepth 100000 in
theorem law_read (s : ByteArray) (w : World) (hs : s.size ≤ 4096) :
    Calls Yba.prog 4 #[.string s] w fun e w' => e = .returned (.bool true) ∧ Below w.heap.size w w' := by
  have hmk := makeBytes s.size hs
  obtain ⟨i0, hi0, hz0, hz1, hz2⟩ := info_parts info5
  have hbig : decide ((4096 : Int) < (s.size : Int)) = false := by simp; omega
  go_enter Yba.func4, Yba.ntmps4
  go_wp2
  go_loopw [4] (fun v wr => ∃ k : Nat, k ≤ s.size ∧ Inv w s k v wr) (fun _ wr => s.size - placeOf w.heap.size wr)
  case atStart => exact ⟨0, Nat.zero_le _, inv_start w s hs⟩
  case round =>
    obtain ⟨k, hk, hinv⟩ := hrel
    have HI := hide hinv
    obtain ⟨p0, p2, f2, hlt⟩ := prs_cells hinv.prs
    by_cases hin : k < s.size
    · clear hinv
      have q1 : (k : Int) < (s.size : Int) := by omega
      have q0 : (0 : Int) ≤ (k : Int) := by omega
      go_wp2_with (first | (go_at_call 5; refine (peek_in w.heap.size s k _ hin p0 p2).mono ?_; rintro e w1 ⟨rfl, q, rfl⟩) | (at_builtin; refine wpList_append_own _ rfl _ _ 32 rfl (w.heap.size + 1) 5 i0 _ 1 1 Yba.underlying32 hi0 hz0 hz1 hz2 rfl (by decide) _ k _ rfl (by exact HI.out.row.alloc _) ⟨wr.heap.size, 0, .none⟩ 1 1 [.int .u8 (s[k].toNat : Int)] rfl rfl ?qc2 ?qc3 ?qc4 ?qc5 ?qc6 ?_))
      case qc2 => exact cell_one_new _ _ _
      case qc3 => simp [Value.oneCell']
      case qc4 => unfold maxLen; omega
      case qc5 => omega
      case qc6 => simp; omega
      intro v' w1 hown hgrow hnil
      have hv' : v' ≠ .slice .none 0 0 := hnil
      obtain ⟨hp, hnext⟩ := inv_next HI.out hin hown hgrow hv'
      have HN := hide hnext
      have HPP := hide hp
      clear hown hgrow hnil hnext hv' p0 p2 f2 hlt
      obtain ⟨p0, p2, f2, hlt⟩ := prs_cells hp
      clear hp
      go_wp2
      go_roundw
      case rel => exact ⟨k + 1, by omega, HN.out⟩
      case measure => rw [placeOf_prs HN.out.prs, placeOf_prs HI.out.prs]; omega
    · obtain rfl : k = s.size := by omega
      obtain ⟨g, cap, hv, hconv⟩ := conv_back hinv
      clear hinv
      rw [hv]
      have q1 : ¬ (s.size : Int) < (s.size : Int) := by omega
      go_wp2_with (go_at_call 5; refine (peek_end w.heap.size s s.size _ rfl p0 p2).mono ?_; rintro e w1 ⟨rfl, q, rfl⟩)
      go_ret
      exact ⟨rfl, below_drewN HI.out.bel _⟩
end Go.Proofs.Ybulkatwq.peek
