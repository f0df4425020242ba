/-
  OUR OWN WORK. Seat b6625878a: THE CONTRACTS of those that build the queue: ZZnewQueue (17), ZZaddLine (18), zzQueueOf (9).
-/
import Derived.Test.Qxb6625878aQueue
namespace Go.Proofs.Qxb6625878a
open Go.RowKit

set_option maxHeartbeats 400000 in
theorem newQueue_any (s : Int) (w : World) : Calls Try.prog 17 #[.int .u64 s] w fun e w' => e = .returned (.pointer (some ⟨w.heap.size, 0, none⟩)) ∧ w' = w.alloc (.cells #[.slice none 0 0, .int .u64 s] 62) := by
  go_enter Try.func17, Try.ntmps17
  go_wp2
  go_ret
  exact ⟨rfl, rfl⟩

theorem info30 : ∃ i, Try.prog.info? 30 = some i ∧ i.zero = some (.pointer none) ∧ i.size = 1 ∧ i.bytes = 8 := by
  have h : ((Try.prog.info? 30).map fun i => (i.size, i.bytes)) = some (1, 8) := by kernel_rfl
  have hz : ((Try.prog.info? 30).bind fun i => i.zero) = some (.pointer none) := by kernel_rfl
  obtain ⟨i, hi, he⟩ := Option.map_eq_some_iff.1 h
  rw [hi] at hz
  simp only [Prod.mk.injEq] at he
  exact ⟨i, hi, hz, he.1, he.2⟩

/-- Block qb is a queue under way: its slice v holds m pointers, xs. -/
structure Qst (w : World) (B qb m : Nat) (xs : List Value) (s : Value) : Prop where
  lo : B ≤ qb
  st : ∃ v, w.heap[qb]? = some (.cells #[v, s] 62 (0, 0)) ∧ w.ownsRow B 30 1 v m xs ∧ v.ownBlock ≠ some qb

theorem setCell_here {w : World} {b i : Nat} {cs : Array Value} {t : TypeId} {fr : Nat × Nat} (h : w.heap[b]? = some (.cells cs t fr)) (v : Value) : (w.setCell ⟨b, i, none⟩ v).heap[b]? = some (.cells (cs.setIfInBounds i v) t fr) := by
  obtain ⟨hl, he⟩ := Array.getElem?_eq_some_iff.1 h
  simp [World.setCell, Array.getElem?_modify, h]

theorem cell_here {w : World} {b i : Nat} {cs : Array Value} {t : TypeId} {fr : Nat × Nat} {v : Value} (h : w.heap[b]? = some (.cells cs t fr)) (hv : cs[i]? = some v) : w.cell? ⟨b, i, none⟩ = some v := by
  simp [World.cell?, h, hv]
theorem frozen_here {w : World} {b : Nat} {cs : Array Value} {t : TypeId} (h : w.heap[b]? = some (.cells cs t (0, 0))) (i : Nat) : w.frozen? ⟨b, i, none⟩ = false := by
  simp [World.frozen?, h]
theorem own_set {w : World} {B : Nat} {e : TypeId} {size g n cap : Nat} {xs : List Value} {b i : Nat} {u : Value} (h : w.ownsRow B e size (.slice (some ⟨g, 0, none⟩) n cap) n xs) (hne : some g ≠ some b) : (w.setCell ⟨b, i, none⟩ u).ownsRow B e size (.slice (some ⟨g, 0, none⟩) n cap) n xs := by
  refine h.kept (row := some b) ⟨rfl, rfl, rfl, by simp [World.setCell], fun k _ hk => Below.heap_setCell _ _ _ _ (fun e => hk (by simp [e]))⟩ (.inr hne)

set_option maxHeartbeats 1000000 in
theorem addLine_any (B qb m lb : Nat) (xs : List Value) (s : Value) (w : World) (h : Qst w B qb m xs s) (hm : m ≤ 1048576) :
    Calls Try.prog 18 #[.pointer (some ⟨qb, 0, none⟩), .pointer (some ⟨lb, 0, none⟩)] w fun e w' => e = .returned (.tuple #[]) ∧ Qst w' B qb (m + 1) (xs ++ [.pointer (some ⟨lb, 0, none⟩)]) s ∧ Below B w w' := by
  obtain ⟨v, hq, hown, hne⟩ := h.st
  obtain ⟨i, hi, hz, hs, hby⟩ := info30
  have hlt : qb < w.heap.size := (Array.getElem?_eq_some_iff.1 hq).1
  have hB := h.lo
  have c0 : w.cell? ⟨qb, 0, none⟩ = some v := by simp [World.cell?, hq]
  have HO := hide2 (hown.alloc (.cells #[.pointer (some ⟨lb, 0, none⟩)] 30))
  have HQ := hide2 hq
  have HI := hide2 (And.intro hi (And.intro hz (And.intro hs hby)))
  have hml : maxLen = 9223372036854775807 := rfl
  clear hq hi hz hs hby hown
  go_enter Try.func18, Try.ntmps18
  go_wp2_with (refine wpList_append_lies _ (by rfl) _ _ _ (by rfl) B 30 i (.pointer none) 1 8 Try.underlying26 HI.out.1 HI.out.2.1 HI.out.2.2.1 HI.out.2.2.2 rfl (by omega) v m xs (by rfl) HO.out ⟨w.heap.size, 0, none⟩ 1 1 [.pointer (some ⟨lb, 0, none⟩)] (by rfl) rfl (World.news_of_block (heap_alloc_new w _)) (by simp [Value.oneCell']) (by omega) (by omega) (by omega) (by simp; omega) (w.heap.size + 1) (by simp) ?_; intro g cap w1 hown1 hgrow hat hlt1; have hq1 : w1.heap[qb]? = some (.cells #[v, s] 62 (0, 0)) := (hgrow.block qb (by simp; omega) (Ne.symm hne)).trans ((Below.heap_alloc w _ qb hlt).trans HQ.out); have d0 : w1.cell? ⟨qb, 0, none⟩ = some v := cell_here hq1 rfl; have f0 : w1.frozen? ⟨qb, 0, none⟩ = false := frozen_here hq1 0; have H1 := hide2 (And.intro hq1 (And.intro hown1 (And.intro hgrow hat))); clear hq1 hown1 hgrow hat)
  obtain ⟨hq1, hown1, hgrow, hat⟩ := H1.out
  go_end0
  have hgq : some g ≠ some qb := by
    rcases hat with h1 | h1
    · rw [← h1]; exact hne
    · intro e; simp at e; omega
  have hbel : Below B w w1 := ((Below.refl B w).alloc (by omega) _).grown hgrow (by simp; omega) (fun k hk => (HO.out.lt k hk).1)
  refine ⟨rfl, ⟨hB, _, setCell_here hq1 _, ?_, hgq⟩, hbel.setCell hB _⟩
  exact own_set hown1 hgq
/-- The pointers to the blocks p f, p (f + 1), .., k of them. -/
def ptrsOf (p : Nat → Nat) (f k : Nat) : List Value := (List.range k).map fun j => .pointer (some ⟨p (f + j), 0, none⟩)
theorem ptrsOf_succ (p : Nat → Nat) (f k : Nat) : ptrsOf p f (k + 1) = ptrsOf p f k ++ [.pointer (some ⟨p (f + k), 0, none⟩)] := by
  simp [ptrsOf, List.range_succ]
theorem ptrsOf_get (p : Nat → Nat) (f : Nat) {k j : Nat} (h : j < k) : (ptrsOf p f k)[j]? = some (.pointer (some ⟨p (f + j), 0, none⟩)) := by
  simp [ptrsOf, List.getElem?_range h]

theorem Qst.queue {w : World} {B qb n : Nat} {p : Nat → Nat} {f : Nat} {s : Value} (h : Qst w B qb n (ptrsOf p f n) s) : qb < w.heap.size ∧ ∃ a cap, w.cell? ⟨qb, 0, none⟩ = some (.slice a n cap) ∧ Ptrs w a n (fun k => p (f + k)) := by
  obtain ⟨v, hq, hown, hne⟩ := h.st
  refine ⟨(Array.getElem?_eq_some_iff.1 hq).1, ?_⟩
  have hc := cell_here (i := 0) hq rfl
  rcases Nat.eq_zero_or_pos n with h0 | h0
  · subst h0
    rcases hown.2 with ⟨rfl, _⟩ | ⟨g, cap, cur, rfl, _⟩
    · exact ⟨none, 0, hc, fun k hk => by omega, fun k hk => by omega⟩
    · exact ⟨_, cap, hc, fun k hk => by omega, fun k hk => by omega⟩
  · obtain ⟨g, cap, rfl, _, hg⟩ := hown.form h0
    refine ⟨_, cap, hc, fun k hk => ⟨g, 0, rfl, hg⟩, fun k hk => ?_⟩
    rw [blk_some, off_some, Nat.zero_add, hown.cellAt k (by omega), ptrsOf_get p f hk]

/-- What zzQueueOf gives. -/
def QueueOut (n : Nat) (p : Nat → Nat) (e : Ending) (w' : World) : Prop := ∃ qb, e = .returned (.pointer (some ⟨qb, 0, none⟩)) ∧ qb < w'.heap.size ∧ ∃ a cap, w'.cell? ⟨qb, 0, none⟩ = some (.slice a n cap) ∧ Ptrs w' a n p

set_option maxHeartbeats 1000000 in
theorem queueOf_any (a : Option Addr) (m cap f t : Nat) (p : Nat → Nat) (s : Int) (w : World) (h : Ptrs w a m p) (hft : f ≤ t) (ht : t ≤ m) (hm : m ≤ 1048576) :
    Calls Try.prog 9 #[.slice a m cap, .int .i64 (f : Int), .int .i64 (t : Int), .int .u64 s] w fun e w' => QueueOut (t - f) (fun k => p (f + k)) e w' ∧ Below w.heap.size w w' := by
  go_enter Try.func9, Try.ntmps9
  go_wp2_with (go_at_call 17; refine (newQueue_any s _).mono fun q w' hq => ?_; obtain ⟨rfl, hw⟩ := hq; subst w')
  go_loopw [10] (fun x wr => ∃ i : Nat, f ≤ i ∧ i ≤ t ∧ x = .int .i64 (i : Int) ∧ Qst wr w.heap.size w.heap.size (i - f) (ptrsOf p f (i - f)) (.int .u64 s) ∧ Below w.heap.size w wr) (fun x _ => t - (intOf x).toNat)
  case atStart =>
    refine ⟨f, by omega, hft, rfl, ?_, (Below.refl _ w).alloc (Nat.le_refl _) _⟩
    rw [Nat.sub_self]
    exact ⟨Nat.le_refl _, _, heap_alloc_new w _, World.ownsRow_nil _ _ _ _, by simp [Value.ownBlock]⟩
  case round =>
    obtain ⟨i, hfi, hit, rfl, hst, hbw⟩ := hrel
    by_cases hlt : i < t
    · have hx : i < m := by omega
      have hix := h.index cap hx
      have hp := (h.below hbw).all i hx
      have HS := hide2 hst
      clear hst
      go_wp2_with (go_at_call 18; refine (addLine_any _ _ (i - f) (p i) _ _ _ HS.out (by omega)).mono fun q w' hq => ?_; obtain ⟨rfl, h1, h2⟩ := hq; have H1 := hide2 h1; clear h1)
      go_roundw
      case rel =>
        refine ⟨i + 1, by omega, by omega, by go_num, ?_, hbw.trans h2⟩
        have e : i + 1 - f = (i - f) + 1 := by omega
        rw [e, ptrsOf_succ, show f + (i - f) = i by omega]
        exact H1.out
      case measure => simp [intOf]; omega
    · have HS := hide2 hst
      clear hst
      go_wp2
      go_ret
      have e : t - f = i - f := by omega
      rw [e]
      obtain ⟨h1, h2⟩ := HS.out.queue
      exact ⟨⟨_, rfl, h1, h2⟩, hbw⟩
end Go.Proofs.Qxb6625878a
