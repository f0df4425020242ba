/-
  OUR OWN WORK. Seat b6625878a: THE CONTRACT of zzMakeLines (8).
-/
import Derived.Test.Qxb6625878aPush
import Derived.Deep.OwnRows
namespace Go.Proofs.Qxb6625878a
open Go.RowKit

attribute [local go_sem ↓] Go.wp_at_zero Go.wp_at_succ

/-- The cells of the timers ts 0, .., ts (j - 1), one behind the other. -/
def flat (ts : Nat → Tm) : Nat → List Value
  | 0 => []
  | j + 1 => flat ts j ++ (ts j).qcells
theorem flat_length (ts : Nat → Tm) (j : Nat) : (flat ts j).length = j * 8 := by
  induction j with
  | zero => rfl
  | succ j ih => rw [flat, List.length_append, ih]; show j * 8 + 8 = _; omega
theorem flat_get (ts : Nat → Tm) {i j q : Nat} (h : i < j) (hq : q < 8) : (flat ts j)[i * 8 + q]? = (ts i).qcells[q]? := by
  induction j with
  | zero => omega
  | succ j ih =>
    rw [flat]
    by_cases e : i = j
    · subst e
      rw [List.getElem?_append_right (by rw [flat_length]; omega), flat_length]
      congr 1
      omega
    · rw [List.getElem?_append_left (by rw [flat_length]; omega)]
      exact ih (by omega)

theorem QLine.of_lst {w : World} {B lb lo : Nat} {a : Value} {l : Ln} (h : Lst w B lb l.n (flat l.ts l.n) a (.int .i64 l.head)) (h0 : 0 < l.n) (hlo : lo ≤ B) : QLine w lo lb l := by
  obtain ⟨v, hq, hown, hne⟩ := h.st
  obtain ⟨g, cap, rfl, hg, hgl⟩ := hown.form h0
  refine ⟨Nat.le_trans hlo h.lo, (Array.getElem?_eq_some_iff.1 hq).1, ⟨_, _, hq⟩, cell_here hq rfl, g, cap, cell_here hq rfl, Nat.le_trans hlo hg, hgl, fun j hj i u hu => ?_⟩
  have hi : i < 8 := by
    have := (List.getElem?_eq_some_iff.1 hu).1
    exact this
  rw [hown.cellAt (j * 8 + i) (by omega), flat_get l.ts hj hi]
  exact hu

/-- The pointers and the lines behind them, k of them made: the pointers lie in block pb, all else behind it. -/
def Made (L : Nat → Ln) (len pb k : Nat) (w : World) : Prop :=
  ∃ (p : Nat → Nat) (cs : Array Value), w.heap[pb]? = some (.cells cs 30 (0, 0)) ∧ cs.size = len ∧ (∀ j, j < k → cs[j]? = some (.pointer (some ⟨p j, 0, none⟩))) ∧ (∀ j, j < k → QLine w (pb + 1) (p j) (L j)) ∧ (∀ i j, i < j → j < k → p i < p j)

theorem QLine.grow {w w' : World} {lo b : Nat} {l : Ln} (h : QLine w lo b l) {x : Nat} (hx : x < lo) (hs : w.heap.size ≤ w'.heap.size) (hb : ∀ k, k < w.heap.size → k ≠ x → w'.heap[k]? = w.heap[k]?) : QLine w' lo b l := by
  obtain ⟨g, cap, h1, h2, h3, h4⟩ := h.row
  obtain ⟨cs, t, h5⟩ := h.hp
  have hbx := hb b h.lt (by have := h.low; omega)
  have hgx := hb g h3 (by omega)
  exact ⟨h.low, Nat.lt_of_lt_of_le h.lt hs, ⟨cs, t, hbx.trans h5⟩, (World.cell?_of_block (a := ⟨b, 2, none⟩) hbx).trans h.c2, g, cap, (World.cell?_of_block (a := ⟨b, 1, none⟩) hbx).trans h1, h2, Nat.lt_of_lt_of_le h3 hs, fun j hj i v hv => (World.cell?_of_block (a := ⟨g, j * 8 + i, none⟩) hgx).trans (h4 j hj i v hv)⟩

theorem Made.below {L : Nat → Ln} {len pb k : Nat} {w w' : World} (h : Made L len pb k w) (hb : Below w.heap.size w w') : Made L len pb k w' := by
  obtain ⟨p, cs, h1, h2, h3, h4, h5⟩ := h
  exact ⟨p, cs, (hb.block _ (Array.getElem?_eq_some_iff.1 h1).1).trans h1, h2, h3, fun j hj => (h4 j hj).below hb, h5⟩

theorem Made.put {L : Nat → Ln} {len pb k lb B : Nat} {w w1 : World} (h : Made L len pb k w) (hb : Below w.heap.size w w1) (hk : k < len) (hB : B = w.heap.size) (hq : QLine w1 (pb + 1) lb (L k)) (hlb : B ≤ lb) : Made L len pb (k + 1) (w1.setCell ⟨pb, k, none⟩ (.pointer (some ⟨lb, 0, none⟩))) := by
  obtain ⟨p, cs, h1, h2, h3, h4, h5⟩ := h
  have hst : ∀ {b : Nat} {l : Ln}, QLine w1 (pb + 1) b l → QLine (w1.setCell ⟨pb, k, none⟩ (.pointer (some ⟨lb, 0, none⟩))) (pb + 1) b l := fun hx => hx.grow (x := pb) (by omega) (by simp [World.setCell]) (fun j _ hj => Below.heap_setCell _ _ _ _ hj)
  have h1' : w1.heap[pb]? = some (.cells cs 30 (0, 0)) := (hb.block _ (Array.getElem?_eq_some_iff.1 h1).1).trans h1
  refine ⟨fun j => if j = k then lb else p j, _, setCell_here h1' _, by rw [Array.size_setIfInBounds, h2], fun j hj => ?_, fun j hj => ?_, fun i j hij hj => ?_⟩
  · by_cases e : j = k
    · subst e
      rw [Array.getElem?_setIfInBounds_self_of_lt (by omega)]
      simp
    · rw [Array.getElem?_setIfInBounds_ne (by omega), h3 j (by omega)]
      simp [e]
  · by_cases e : j = k
    · subst e; simpa using hst hq
    · simpa [e] using hst ((h4 j (by omega)).below hb)
  · have hi : i ≠ k := by omega
    simp only [hi, if_false]
    by_cases e : j = k
    · simp only [e, if_true]
      have := (h4 i (by omega)).lt
      omega
    · simp only [e, if_false]
      exact h5 i j hij (by omega)

/-- What zzMakeLines gives. -/
def MakeOut (L : Nat → Ln) (len : Nat) (e : Ending) (w' : World) : Prop := ∃ pb, e = .returned (.slice (some ⟨pb, 0, none⟩) len len) ∧ Made L len pb len w'

theorem info30' : (Try.prog.info? 30).map (fun i => (i.zero, i.size, i.bytes)) = some (some (.pointer none), 1, 8) := by kernel_rfl

theorem newLine_st (a hd : Int) (w : World) : Calls Try.prog 15 #[.int .i64 a, .int .i64 hd] w fun e w' => e = .returned (.pointer (some ⟨w.heap.size, 0, none⟩)) ∧ Lst w' w.heap.size w.heap.size 0 [] (.int .i64 a) (.int .i64 hd) ∧ Below w.heap.size w w' :=
  (newLine_any a hd w).mono fun e w' ⟨h1, h2⟩ => by
    subst h2
    exact ⟨h1, ⟨Nat.le_refl _, _, heap_alloc_new w _, World.ownsRow_nil _ _ _ _, by simp [Value.ownBlock]⟩, (Below.refl _ w).alloc (Nat.le_refl _) _⟩

theorem ptr_index (b : Nat) {k len : Nat} (hk : k < len) (W : World) : (Instr.indexAt 26 (.slice (some ⟨b, 0, none⟩) len len) (.int .i64 (k : Int))).run Try.prog W = .ok (.pointer (some ⟨b, k, none⟩)) W := by
  have h1 : (k : Int) < (len : Int) := by omega
  rw [run_indexAt_slice W 26 _ len len .i64 _ (by rw [elem26]; exact Try.underlying26), elem26, size30]
  simp [Result.andThen, h1, Addr.add]
  exact fun e => e.symm
theorem undrew {w w' : World} (h : Below w.drew.heap.size w.drew w') : Below w.heap.size w w' := (Below.refl _ w).drew.trans h
theorem bcell {w w' : World} (hb : Below w.heap.size w w') {b o : Nat} {v : Value} (hl : b < w.heap.size) (hc : w.cell? ⟨b, o, none⟩ = some v) : w'.cell? ⟨b, o, none⟩ = some v := (hb.cell (p := ⟨b, o, none⟩) hl).trans hc
theorem Lst.below {w w' : World} {B lb n : Nat} {xs : List Value} {a hd : Value} (h : Lst w B lb n xs a hd) (hb : Below w.heap.size w w') : Lst w' B lb n xs a hd := by
  obtain ⟨v, hq, hown, hne⟩ := h.st
  exact ⟨h.lo, v, (hb.block _ (Array.getElem?_eq_some_iff.1 hq).1).trans hq, own_below hown hb, hne⟩

set_option maxHeartbeats 2000000 in
set_option maxRecDepth 100000 in
theorem makeLines_any (a : Option Addr) (len cap : Nat) (L : Nat → Ln) (w : World) (h : Lines w a len L) (hs : Small len L) (hh : Heads len L) :
    Calls Try.prog 8 #[.slice a len cap] w fun e w' => MakeOut L len e w' ∧ Below w.heap.size w w' := by
  have hlen := hs.1
  have hmk := run_make_row' (P := Try.prog) 26 30 (.pointer none) 8 Try.underlying26 info30' rfl .i64 .i64 len (by omega) (by omega) w
  go_enter Try.func8, Try.ntmps8
  go_wp2
  go_loopw [4] (fun x wr => ∃ k : Nat, k ≤ len ∧ x = .int .i64 (k : Int) ∧ Hid (Made L len w.heap.size k wr) ∧ Hid (Below w.heap.size w wr)) (fun x _ => len - (intOf x).toNat)
  case atStart => 
    refine ⟨0, by omega, rfl, ?_, ?_⟩
    · exact hide2 ⟨fun _ => 0, _, heap_alloc_new w _, size_madeCells _ _, fun j hj => by omega, fun j hj => by omega, fun i j _ hj => by omega⟩
    · exact hide2 ((Below.refl _ w).alloc (Nat.le_refl _) _)
  case round =>
    obtain ⟨k, hk, rfl, hM, hB⟩ := hrel
    obtain ⟨V, hV⟩ : ∃ V, V = wr := ⟨_, rfl⟩
    subst hV
    by_cases hlt : k < len
    · have hix := h.index cap hlt
      have hL := h.below hB.out
      have c0 := hL.c0 k hlt
      have c1 := hL.c1 k hlt
      have c2 := hL.c2 k hlt
      have hT := hL.ts k hlt
      have HT := hide2 hT
      have hwf := h.wf k hlt
      clear hL hT
      have nb : blk a < V.heap.size := World.block_lt_of_cell? V ⟨blk a, off a + k * 3, none⟩ c0
      go_wp2_with fail
      go_region_held3 (fun w' => w'.cell? ⟨blk a, off a + k * 3, none⟩ = some (.int .i64 (L k).aft) ∧ w'.cell? ⟨blk a, off a + k * 3 + 1, none⟩ = some (.int .i64 (L k).head)) (first | go_keep | exact ⟨bcell hb1 nb c0, bcell hb1 nb c1⟩)
        ((go_at_call 15; refine (newLine_st (L k).aft (L k).head _).mono ?_; rintro e w1 ⟨rfl, hl1, hb0⟩; have hb1 := undrew hb0; clear hb0))
      have hl1' : Lst w1 V.heap.size V.heap.size 0 [] (.int .i64 (L k).aft) (.int .i64 (L k).head) := hl1
      have c2' : w1.cell? ⟨blk a, off a + k * 3 + 2, none⟩ = some (.slice (L k).ta (L k).n (L k).tc) := bcell hb1 nb c2
      have HL1 := hide2 hl1'
      have HB1 := hide2 hb1
      clear hb1 hl1 hl1' c0 c1 c2
      go_wp2_with fail
      go_loopw [7] (fun x wt => ∃ j : Nat, j ≤ (L k).n ∧ x = .int .i64 (j : Int) ∧ Hid (Lst wt V.heap.size V.heap.size j (flat (L k).ts j) (.int .i64 (L k).aft) (.int .i64 (L k).head)) ∧ Hid (Below V.heap.size V wt)) (fun x _ => (L k).n - (intOf x).toNat)
      case atStart => exact ⟨0, by omega, rfl, HL1, HB1⟩
      case round =>
        obtain ⟨j, hj, rfl, hJ, hBJ⟩ := hrel
        by_cases hjl : j < (L k).n
        · have hjx := HT.out.index (L k).tc hjl
          have hTt := HT.out.below hBJ.out
          obtain ⟨d0, d1, d2, d3, d4, d5⟩ := hTt.cells hjl
          have hdw := hTt.wf j hjl
          have hn := hs.2 k hlt
          clear hTt
          go_wp2_with (go_at_call 16; refine (push_any V.heap.size V.heap.size j _ _ _ ((L k).ts j) _ (hJ.out.below ((Below.refl _ wr).alloc (Nat.le_refl _) _)) (by omega) hdw).mono ?_; rintro e w3 ⟨rfl, hl3, hb3⟩; have H3 := hide2 hl3; have HB3 := hide2 hb3; clear hl3 hb3)
          go_roundw
          case rel =>
            have hsz : V.heap.size ≤ wr.heap.size := hBJ.out.size
            exact ⟨j + 1, by omega, by go_num, H3, hide2 ((hBJ.out.alloc hsz _).trans HB3.out)⟩
          case measure => simp [intOf]; omega
        · have e : j = (L k).n := by omega
          have hM1 := hM.out
          obtain ⟨p, cs, m1, m2, m3, m4, m5⟩ := hM1
          have hq1 : wr.heap[w.heap.size]? = some (.cells cs 30 (0, 0)) := (hBJ.out.block _ (Array.getElem?_eq_some_iff.1 m1).1).trans m1
          have f1 := frozen_here hq1 k
          have s1 : ∃ u, wr.cell? ⟨w.heap.size, k, none⟩ = some u := ⟨_, cell_here hq1 (Array.getElem?_eq_getElem (by omega))⟩
          obtain ⟨u, hu⟩ := s1
          have hpx := ptr_index w.heap.size hlt
          have HM := hM
          have hlo : w.heap.size + 1 ≤ V.heap.size := (Array.getElem?_eq_some_iff.1 m1).1
          clear m1 m2 m3 m4 m5 hq1
          go_wp2
          have hlst : Lst wr V.heap.size V.heap.size (L k).n (flat (L k).ts (L k).n) (.int .i64 (L k).aft) (.int .i64 (L k).head) := by rw [← e]; exact hJ.out
          have h0n : 0 < (L k).n := by have := hh k hlt; omega
          refine ⟨⟨k + 1, by omega, by go_num, hide2 (Made.put HM.out hBJ.out hlt rfl (QLine.of_lst hlst h0n hlo) (Nat.le_refl _)), hide2 ((hB.out.trans (hBJ.out.mono hB.out.size)).setCell (Nat.le_refl _) _)⟩, by simp [intOf]; omega⟩
    · go_wp2
      go_ret
      have e : k = len := by omega
      subst e
      exact ⟨⟨_, rfl, hM.out⟩, hB.out⟩
end Go.Proofs.Qxb6625878a
