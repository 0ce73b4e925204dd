/-
  Of LawS2265CRefusesExactlyNonValues: the error's making (fmt.Errorf), notValue, checkTuple.
-/
import Derived.Test.YbulkatwqFmtRoute
import Derived.Stop.JoinedTold
import Derived.Stop.Texts
namespace Go.Proofs.YbulkatwqFmt.tree
open Go.ChangeShapes Go.WideShapes Go.ChangeAt Go.RowKit Go
open Go.Extern.Stop Go.Stop Go.Extern

theorem call14 (args : Array Value) (w : World) : (callFunc 14 args).run Ybaf.prog w = (FmtCalls.errorf #[9, 48] #[28] args).run Ybaf.prog w :=
  run_callFunc_next Ybaf.func14 (by kernel_rfl) (by kernel_rfl) (by kernel_rfl) args w
theorem guard (name : String) (w : World) : (FmtStop.guard name).run Ybaf.prog w = .ok () w := by kernel_rfl
theorem nextTurns : Extern.next FmtCalls.turnsRow = some (FmtCalls.begun #[] #[]) := by kernel_rfl

theorem fmtE : FmtStop.printed? ⟨#[99, 97, 105, 114, 110, 115, 116, 111, 114, 101, 58, 32, 118, 97, 108, 117, 101, 32, 111, 102, 32, 116, 121, 112, 101, 32, 37, 84, 37, 115, 59, 32, 111, 110, 108, 121, 32, 110, 105, 108, 44, 32, 66, 121, 116, 101, 115, 32, 97, 110, 100, 32, 84, 117, 112, 108, 101, 32, 97, 114, 101, 32, 118, 97, 108, 117, 101, 115]⟩ 2 = some [(0, 84, false), (1, 115, false)] := by kernel_rfl
theorem fmtEr (w : World) : (FmtDoors.printed ⟨#[99, 97, 105, 114, 110, 115, 116, 111, 114, 101, 58, 32, 118, 97, 108, 117, 101, 32, 111, 102, 32, 116, 121, 112, 101, 32, 37, 84, 37, 115, 59, 32, 111, 110, 108, 121, 32, 110, 105, 108, 44, 32, 66, 121, 116, 101, 115, 32, 97, 110, 100, 32, 84, 117, 112, 108, 101, 32, 97, 114, 101, 32, 118, 97, 108, 117, 101, 115]⟩ 2).run Ybaf.prog w = .ok [(0, 84, false), (1, 115, false)] w := by kernel_rfl
def shape34 : List UInt8 := 21 :: FmtStop.pack "cairnstore.zzs2265cbad".toUTF8.data.toList
def shape36 : List UInt8 := 21 :: FmtStop.pack "cairnstore.zzs2265cemb".toUTF8.data.toList
def shape9 : List UInt8 := [12, 6, 0, 0, 0, 0, 0, 0, 0, 115, 116, 114, 105, 110, 103]
theorem act34 (name : String) (wr : Bool) (x : Value) (w : World) : (FmtCalls.act name wr 84 false (.iface 34 x)).run Ybaf.prog w = .ok (.closed wr) w := by kernel_rfl
theorem act36 (name : String) (wr : Bool) (x : Value) (w : World) : (FmtCalls.act name wr 84 false (.iface 36 x)).run Ybaf.prog w = .ok (.closed wr) w := by kernel_rfl
theorem act9 (name : String) (x : Value) (w : World) : (FmtCalls.act name true 115 false (.iface 9 x)).run Ybaf.prog w = .ok (.closed true) w := by kernel_rfl
theorem op34 (name : String) (wr : Bool) (x : Value) (w : World) : (FmtStop.operand name wr 84 false (.iface 34 x)).run Ybaf.prog w = .ok (shape34, []) w := by kernel_rfl
theorem op36 (name : String) (wr : Bool) (x : Value) (w : World) : (FmtStop.operand name wr 84 false (.iface 36 x)).run Ybaf.prog w = .ok (shape36, []) w := by kernel_rfl
theorem op9 (name : String) (x : ByteArray) (w : World) : (FmtStop.operand name true 115 false (.iface 9 (.string x))).run Ybaf.prog w = .ok (shape9, FmtStop.pack x.data.toList) w := by kernel_rfl
theorem ptr51 (w : World) : (FmtStop.ptrTo "errors.errorString").run Ybaf.prog w = .ok 51 w := by kernel_rfl
theorem elem51 (w : World) : (elemOf 51).run Ybaf.prog w = .ok 53 w := by kernel_rfl

set_option maxHeartbeats 2000000 in
set_option maxRecDepth 100000 in
/-- notValue: an error, not nil. -/
theorem notValue_any (F : Interp) (bv : Value) (g c : Nat) (zs : List Int) (w : World) (hF : F.answers w.tape) (hbad : isBad bv) (ht : Tab w) (hg : g < w.heap.size) (hk : zs.length ≤ 8) (hz : ∀ z, z ∈ zs → 0 ≤ z ∧ z < 1024) (hc : ∀ j z, zs[j]? = some z → w.cell? ⟨g, j, .none⟩ = some (.int .i64 z)) :
    Calls Ybaf.prog 10 #[bv, .slice (some ⟨g, 0, .none⟩) zs.length c] w fun e w' => ∃ x, e = .returned (.iface 51 x) ∧ Below w.heap.size w w' := by
  have h1 := call14
  have h2 := guard
  have h3 := fmtE
  have h4 := fmtEr
  have h5 := act34
  have h6 := act36
  have h7 := act9
  have h8 := op34
  have h9 := op36
  have h10 := op9
  have h11 := ptr51
  have h12 := elem51
  have HT := hide ht
  have HZ := hide hz
  have HC := hide hc
  have HF := hide hF
  clear ht hz hc hF
  rcases hbad with ⟨i, rfl⟩ | ⟨s, rfl⟩
  all_goals
    go_enter Ybaf.func10, Ybaf.ntmps10
    go_wp2_with fail
    refine (at_any g c zs w HT.out hg hk HZ.out HC.out).mono ?_
    rintro e w1 ⟨s, rfl, hb1⟩
    have HB1 := hide hb1
    have hF1 := answers_open (show F.answers w1.tape by rw [hb1.tape]; exact HF.out)
    clear hb1
    go_wp2
    apply rows_value nextTurns
    case hr =>
      go_simp
      exact ⟨rfl, rfl⟩
    case h =>
      go_wp2
      go_ret
      exact ⟨_, rfl, ((HB1.out.alloc HB1.out.size _).alloc (by have := HB1.out.size; simp; omega) _).drew⟩

theorem setCells_heap (w : World) (b : Nat) : ∀ (vs : List Value) (o : Nat) (k : Nat), k ≠ b → (w.setCells b o vs).heap[k]? = w.heap[k]? := by
  intro vs
  induction vs generalizing w with
  | nil => intro o k hk; rfl
  | cons v vs ih =>
    intro o k hk
    rw [World.setCells, ih _ _ _ hk, Below.heap_setCell _ _ _ _ hk]

theorem setCells_below (w : World) (B b : Nat) (hb : B ≤ b) : ∀ (vs : List Value) (o : Nat), Below B w (w.setCells b o vs) := by
  intro vs
  induction vs generalizing w with
  | nil => intro o; exact Below.refl _ _
  | cons v vs ih =>
    intro o
    rw [World.setCells]
    exact ((Below.refl B w).setCell hb _).trans (ih _ _)

/-- The route turned round: the same integers, in the same row. -/
theorem reversed {w w1 w2 : World} {g k q : Nat} {zs : List Int} (hg0 : w.heap.size ≤ g) (_hglt : g < w1.heap.size) (hc : ∀ j z, zs[j]? = some z → w1.cell? ⟨g, j, .none⟩ = some (.int .i64 z)) (hl : zs.length = k)
    (hw : w2 = (w1.drewN q).setCells g 0 ((zs.take k).reverse.map (Value.int .i64))) : Below w.heap.size w1 w2 ∧ ∀ j z, zs.reverse[j]? = some z → w2.cell? ⟨g, j, .none⟩ = some (.int .i64 z) := by
  have e : zs.take k = zs := List.take_of_length_le (by omega)
  rw [e] at hw
  subst hw
  refine ⟨(below_drewN (Below.refl _ w1) q).trans (setCells_below _ _ _ hg0 _ _), fun j z hj => ?_⟩
  have hjl : j < zs.reverse.length := (List.getElem?_eq_some_iff.1 hj).1
  have h := World.cell?_setCells_in g (zs.reverse.map (Value.int .i64)) 0 (w1.drewN q) (fun i hi => by
    rw [World.cell?_drewN, Nat.zero_add]
    have hi' : i < zs.length := by simpa using hi
    rw [hc i zs[i] (List.getElem?_eq_getElem hi')]
    rfl) j (by simpa using hjl)
  rw [Nat.zero_add] at h
  rw [h]
  simp
  rw [List.getElem?_eq_getElem hjl] at hj
  simpa using hj

set_option maxHeartbeats 2000000 in
set_option maxRecDepth 100000 in
/-- checkTuple: nil exactly where the tuple holds no bad value. -/
theorem check_any (F : Interp) (a : Option Addr) (c : Nat) (es : List (Value × Bool)) (w : World) (hF : F.answers w.tape) (ht : Tab w) (hT : Tup Any 2 w a es) :
    Calls Ybaf.prog 6 #[.slice a es.length c] w fun e w' => ((es.any (·.2) = false ∧ e = .returned .nilIface) ∨ (es.any (·.2) = true ∧ ∃ x, e = .returned (.iface 51 x))) ∧ Below w.heap.size w w' := by
  have q40 := fun (w : World) a n c n' c' => run_neq_slice_nil_any (P := Ybaf.prog) w 40 _ a n c n' c' Ybaf.underlying40
  have HT := hide hT
  have HTB := hide ht
  have HF := hide hF
  clear hT ht hF
  go_enter Ybaf.func6, Ybaf.ntmps6
  go_wp2_with fail
  refine (tup_all 2 (by omega) a c es w HT.out).mono ?_
  rintro e w1 ⟨hb1, ⟨hf, rfl⟩ | ⟨ht1, bv, r, k, rfl, hbad, hk, zs, hzl, hzr, hown, hnn⟩⟩
  · have HB1 := hide hb1
    have HFF := hide hf
    clear hb1 hf
    go_wp2
    go_ret
    exact ⟨.inl ⟨HFF.out, rfl⟩, HB1.out⟩
  · rcases hown.2 with ⟨e1, _⟩ | ⟨g, cap, cur, rfl, hg0, hg, _, _, hsz, htk⟩
    · exact absurd e1 hnn
    have HB1 := hide hb1
    have HT1 := hide ht1
    have HBD := hide hbad
    have hcells : ∀ j z, zs[j]? = some z → w1.cell? ⟨g, j, .none⟩ = some (.int .i64 z) := by
      intro j z hj
      have hjl := (List.getElem?_eq_some_iff.1 hj).1
      rw [hown.cellAt j (by omega), List.getElem?_map, hj]
      rfl
    have HCL := hide hcells
    have HFZ := hide (fun j => hown.frozenAt j)
    have HZ := hide hzr
    have hglt : g < w1.heap.size := (hown.lt g rfl).2
    have HZL := hide hzl
    clear hb1 ht1 hbad hcells hzr hown hnn hzl hsz htk hg
    go_wp2_with fail
    refine (Ybaf.slices_Reverse_int_cells g 0 k cap zs w1 (by rw [HZL.out]; omega) (by omega) (fun j hj => by
      rw [Nat.zero_add, List.getD_eq_getElem?_getD, List.getElem?_eq_getElem hj]
      exact HCL.out j _ (List.getElem?_eq_getElem hj)) (fun j _ => by rw [Nat.zero_add]; exact HFZ.out j)).mono ?_
    rintro e w2 ⟨rfl, q, hw2⟩
    obtain ⟨hb2, hc2⟩ := reversed (q := q) hg0 hglt HCL.out HZL.out hw2
    have HB2 := hide hb2
    have HC2 := hide hc2
    have HTAPE := hide (show w2.tape = w1.tape from hb2.tape)
    have hs2 : g < w2.heap.size := Nat.lt_of_lt_of_le hglt hb2.size
    clear hw2 hb2 hc2
    go_wp2_with fail
    have hk' : zs.reverse.length = k := by rw [List.length_reverse]; exact HZL.out
    have hcon := notValue_any F bv g cap zs.reverse w2 (by rw [HTAPE.out, HB1.out.tape]; exact HF.out) HBD.out (HTB.out.below (HB1.out.trans HB2.out)) hs2 (by omega) (fun z hz => HZ.out z (List.mem_reverse.1 hz)) HC2.out
    rw [hk'] at hcon
    refine hcon.mono ?_
    rintro e w3 ⟨x, rfl, hb3⟩
    have HB3 := hide hb3
    clear hb3 hcon
    go_wp2
    go_ret
    exact ⟨.inr ⟨HT1.out, x, rfl⟩, (HB1.out.trans HB2.out).trans (HB3.out.mono (Nat.le_trans HB1.out.size HB2.out.size))⟩
end Go.Proofs.YbulkatwqFmt.tree
