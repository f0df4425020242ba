/-
  OUR OWN WORK. Seat b6625878a: THE QUEUE IN MEMORY, and the contracts of those that read it: first (21), next (19), ZZnext (10), zzIndex (11).
-/
import Derived.Test.Qxb6625878aHead
import Derived.LaidEqlPtr
namespace Go.Proofs.Qxb6625878a
open Go.RowKit

attribute [local go_sem ↓] Go.wp_at_zero Go.wp_at_succ

/-- Block b is the queue's line of l; all of it lies from block lo on. -/
structure QLine (w : World) (lo b : Nat) (l : Ln) : Prop where
  low : lo ≤ b
  lt : b < w.heap.size
  hp : ∃ cs t, w.heap[b]? = some (.cells cs t (0, 0))
  c2 : w.cell? ⟨b, 2, none⟩ = some (.int .i64 l.head)
  row : ∃ g cap, w.cell? ⟨b, 1, none⟩ = some (.slice (some ⟨g, 0, none⟩) l.n cap) ∧ lo ≤ g ∧ g < w.heap.size ∧ ∀ j, j < l.n → w.rangeAt g (j * 8) (l.ts j).qcells

theorem QLine.below {w w' : World} {lo b : Nat} {l : Ln} (h : QLine w lo b l) (hb : Below w.heap.size w w') : QLine w' lo b l := by
  obtain ⟨g, cap, h1, h2, h3, h4⟩ := h.row
  obtain ⟨cs, t, h5⟩ := h.hp
  exact ⟨h.low, Nat.lt_of_lt_of_le h.lt hb.size, ⟨cs, t, (hb.block _ h.lt).trans h5⟩, (hb.cell h.lt).trans h.c2, g, cap, (hb.cell h.lt).trans h1, h2, Nat.lt_of_lt_of_le h3 hb.size, fun j hj i v hv => (hb.cell h3).trans (h4 j hj i v hv)⟩

theorem elem47 : Try.prog.elem 47 = 60 := by kernel_rfl
theorem size60 (w : World) : (sizeOf 60).run Try.prog w = .ok 8 w := by kernel_rfl

set_option maxHeartbeats 2000000 in
theorem first_any (lo b : Nat) (l : Ln) (w : World) (h : QLine w lo b l) (h0 : 0 ≤ l.head) (h1 : l.head < l.n) :
    Calls Try.prog 21 #[.pointer (some ⟨b, 0, none⟩)] w fun e w' => e = .returned (.agg l.hd.qcells.toArray) ∧ Below w.heap.size w w' := by
  have c2 := h.c2
  obtain ⟨g, cap, c1, _, gl, hrow⟩ := h.row
  have hlt : l.head.toNat < l.n := by omega
  have hr := hrow _ hlt
  have hix : ∀ W : World, (Instr.indexAt 47 (.slice (some ⟨g, 0, none⟩) l.n cap) (.int .i64 l.head)).run Try.prog W = .ok (.pointer (some ⟨g, l.head.toNat * 8, none⟩)) W := fun W => by
    rw [run_indexAt_slice W 47 _ l.n cap .i64 _ (by rw [elem47]; exact Try.underlying47), elem47, size60]
    simp [Result.andThen, h0, h1, Addr.add]
    exact fun e => e.symm
  have hbl := h.lt
  unfold Ln.hd
  generalize l.ts l.head.toNat = t at *
  generalize l.head.toNat * 8 = o at *
  have r0 : w.cell? ⟨g, o, none⟩ = some (.int .u64 (t.due % 1000000000)) := hr 0 _ rfl
  have r1 : w.cell? ⟨g, o + 1, none⟩ = some (.int .i64 (t.due / 1000000000)) := hr 1 _ rfl
  have r2 : w.cell? ⟨g, o + 2, none⟩ = some (.pointer none) := hr 2 _ rfl
  have r3 : w.cell? ⟨g, o + 3, none⟩ = some (.int .u64 t.ord) := hr 3 _ rfl
  have r4 : w.cell? ⟨g, o + 4, none⟩ = some (.int .i64 t.kind) := hr 4 _ rfl
  have r5 : w.cell? ⟨g, o + 5, none⟩ = some (.int .i64 t.rep) := hr 5 _ rfl
  have r6 : w.cell? ⟨g, o + 6, none⟩ = some (.int .i64 t.seq) := hr 6 _ rfl
  have r7 : w.cell? ⟨g, o + 7, none⟩ = some (.int .i64 t.aft) := hr 7 _ rfl
  unfold Tm.qcells
  generalize t.due % 1000000000 = x at *
  generalize t.due / 1000000000 = y at *
  generalize l.head = hd at *
  generalize l.n = n at *
  clear h hr hrow
  go_enter Try.func21, Try.ntmps21
  go_wp2
  go_region
  go_wp2
  exact bodyPost_ret (v := .agg #[.int .u64 x, .int .i64 y, .pointer none, .int .u64 t.ord, .int .i64 t.kind, .int .i64 t.rep, .int .i64 t.seq, .int .i64 t.aft]) (results_cell_row Try.results21 _ _ w.heap.size 60 _ _ _ rfl (heap_alloc_new w _) Try.underlying60 rfl (by kernel_rfl)) rfl ⟨rfl, ((Below.refl _ w).alloc (Nat.le_refl _) _).drew⟩
/-! ### the order -/
theorem less_iff (t u : Tm) : less t u = true ↔ t.due < u.due ∨ (t.due = u.due ∧ t.ord < u.ord) := by
  unfold less
  split
  · rw [decide_eq_true_eq]; omega
  · rw [decide_eq_true_eq]; omega
theorem less_not (t u : Tm) : less t u = false ↔ ¬ (t.due < u.due ∨ (t.due = u.due ∧ t.ord < u.ord)) := by
  rw [← less_iff, Bool.not_eq_true]

/-- Line r's head falls due first among the lines 0, .., m - 1 (the first such). -/
def BestAt (M : Nat → Ln) (m r : Nat) : Prop := r < m ∧ (∀ j, j < r → less (M r).hd (M j).hd = true) ∧ ∀ j, j < m → less (M j).hd (M r).hd = false

theorem BestAt.one (M : Nat → Ln) : BestAt M 1 0 := ⟨by omega, fun j hj => by omega, fun j hj => by
  obtain rfl : j = 0 := by omega
  rw [less_not]; omega⟩
theorem BestAt.next {M : Nat → Ln} {m r : Nat} (h : BestAt M m r) (hl : less (M m).hd (M r).hd = true) : BestAt M (m + 1) m := by
  rw [less_iff] at hl
  refine ⟨by omega, fun j hj => ?_, fun j hj => ?_⟩
  · have := h.2.2 j hj
    rw [less_not] at this
    rw [less_iff]
    omega
  · by_cases e : j = m
    · subst e; rw [less_not]; omega
    · have := h.2.2 j (by omega)
      rw [less_not] at this ⊢
      omega
theorem BestAt.stay {M : Nat → Ln} {m r : Nat} (h : BestAt M m r) (hl : less (M m).hd (M r).hd = false) : BestAt M (m + 1) r := by
  refine ⟨by have := h.1; omega, h.2.1, fun j hj => ?_⟩
  by_cases e : j = m
  · subst e; exact hl
  · exact h.2.2 j (by omega)

/-- A slice of m pointers to the blocks p 0, p 1, .. -/
structure Ptrs (w : World) (a : Option Addr) (m : Nat) (p : Nat → Nat) : Prop where
  lt : ∀ k, k < m → ∃ b o, a = some ⟨b, o, none⟩ ∧ b < w.heap.size
  all : ∀ k, k < m → w.cell? ⟨blk a, off a + k, none⟩ = some (.pointer (some ⟨p k, 0, none⟩))
theorem Ptrs.below {w w' : World} {a : Option Addr} {m : Nat} {p : Nat → Nat} (h : Ptrs w a m p) (hb : Below w.heap.size w w') : Ptrs w' a m p := by
  refine ⟨fun k hk => ?_, fun k hk => ?_⟩
  all_goals obtain ⟨b, o, rfl, hl⟩ := h.lt k hk
  · exact ⟨b, o, rfl, Nat.lt_of_lt_of_le hl hb.size⟩
  · exact (hb.cell hl).trans (h.all k hk)
theorem elem26 : Try.prog.elem 26 = 30 := by kernel_rfl
theorem size30 (w : World) : (sizeOf 30).run Try.prog w = .ok 1 w := by kernel_rfl
theorem Ptrs.index {w : World} {a : Option Addr} {m : Nat} {p : Nat → Nat} (h : Ptrs w a m p) (cap : Nat) {k : Nat} (hk : k < m) (W : World) :
    (Instr.indexAt 26 (.slice a m cap) (.int .i64 (k : Int))).run Try.prog W = .ok (.pointer (some ⟨blk a, off a + k, none⟩)) W := by
  obtain ⟨b, o, rfl, _⟩ := h.lt k hk
  have h1 : (k : Int) < (m : Int) := by omega
  rw [run_indexAt_slice W 26 _ m cap .i64 _ (by rw [elem26]; exact Try.underlying26), elem26, size30]
  simp [Result.andThen, h1, Addr.add]

/-- A queue of m lines: the blocks p 0, p 1, .. -/
structure Queue (w : World) (lo qb m : Nat) (p : Nat → Nat) (M : Nat → Ln) : Prop where
  lt : qb < w.heap.size
  c0 : ∃ a cap, w.cell? ⟨qb, 0, none⟩ = some (.slice a m cap) ∧ Ptrs w a m p
  ln : ∀ k, k < m → QLine w lo (p k) (M k)
theorem Queue.below {w w' : World} {lo qb m : Nat} {p : Nat → Nat} {M : Nat → Ln} (h : Queue w lo qb m p M) (hb : Below w.heap.size w w') : Queue w' lo qb m p M := by
  obtain ⟨a, cap, h1, h2⟩ := h.c0
  exact ⟨Nat.lt_of_lt_of_le h.lt hb.size, ⟨a, cap, (hb.cell h.lt).trans h1, h2.below hb⟩, fun k hk => (h.ln k hk).below hb⟩

/-- What next gives. -/
def NextOut (p : Nat → Nat) (M : Nat → Ln) (m : Nat) (e : Ending) : Prop := (m = 0 ∧ e = .returned (.pointer none)) ∨ ∃ r, BestAt M m r ∧ e = .returned (.pointer (some ⟨p r, 0, none⟩))

set_option maxHeartbeats 2000000 in
theorem next_any (lo qb m : Nat) (p : Nat → Nat) (M : Nat → Ln) (w : World) (h : Queue w lo qb m p M) (hh : Heads m M) (hm : m ≤ 1048576) :
    Calls Try.prog 19 #[.pointer (some ⟨qb, 0, none⟩)] w fun e w' => NextOut p M m e ∧ Below w.heap.size w w' := by
  obtain ⟨a, cap, c0, hp⟩ := h.c0
  have hln := h.ln
  go_enter Try.func19, Try.ntmps19
  go_wp2
  go_loopw [3, 11] (fun f i wr => ∃ k : Nat, k ≤ m ∧ i = .int .i64 k ∧ Below w.heap.size w wr ∧ ((k = 0 ∧ f = .pointer none) ∨ ∃ r, BestAt M k r ∧ f = .pointer (some ⟨p r, 0, none⟩))) (fun _ i _ => m - (intOf i).toNat)
  case atStart => exact ⟨0, by omega, rfl, Below.refl _ _, .inl ⟨rfl, rfl⟩⟩
  case round =>
    obtain ⟨k, hk, rfl, hbw, hf⟩ := hrel
    have HF := hide2 hf
    clear hf
    by_cases hlt : k < m
    · have hix := hp.index cap hlt
      have hpk := (hp.below hbw).all k hlt
      rcases HF.out with ⟨hk0, rfl⟩ | ⟨r, hbest, rfl⟩
      · have H0 := hide2 hk0
        clear HF hk0
        go_wp2
        go_roundw
        case rel => exact ⟨k + 1, by omega, by go_num, hbw, .inr ⟨k, by rw [H0.out]; exact BestAt.one M, rfl⟩⟩
        case measure => simp [intOf]; omega
      · clear HF
        have hr : r < m := by have := hbest.1; omega
        have hk1 := (hln k hlt).below hbw
        have hr1 := (hln r hr).below hbw
        have gk := hh k hlt
        have gr := hh r hr
        have HB := hide2 hbest
        have HG := hide2 (And.intro gk gr)
        clear hbest gk gr
        cases hl : less (M k).hd (M r).hd
        · go_wp2_with fail
          refine (first_any lo (p k) (M k) _ hk1 HG.out.1.1 HG.out.1.2).mono ?_
          rintro e w1 ⟨rfl, hb1⟩
          have hr2 := hr1.below hb1
          go_wp2_with fail
          refine (first_any lo (p r) (M r) _ hr2 HG.out.2.1 HG.out.2.2).mono ?_
          rintro e w2 ⟨rfl, hb2⟩
          go_wp2_with fail
          refine (qbefore_any (M k).hd (M r).hd _).mono ?_
          rintro e w3 ⟨rfl, hb3⟩
          rw [hl]
          have hbz : Below w.heap.size w w3 := ((hbw.trans (hb1.mono hbw.size)).trans (hb2.mono (Nat.le_trans hbw.size hb1.size))).trans (hb3.mono (Nat.le_trans (Nat.le_trans hbw.size hb1.size) hb2.size))
          clear hb1 hb2 hb3 hr2 hk1 hr1
          go_wp2
          go_roundw
          case rel => exact ⟨k + 1, by omega, by go_num, hbz, .inr ⟨r, HB.out.stay hl, rfl⟩⟩
          case measure => simp [intOf]; omega
        · go_wp2_with fail
          refine (first_any lo (p k) (M k) _ hk1 HG.out.1.1 HG.out.1.2).mono ?_
          rintro e w1 ⟨rfl, hb1⟩
          have hr2 := hr1.below hb1
          go_wp2_with fail
          refine (first_any lo (p r) (M r) _ hr2 HG.out.2.1 HG.out.2.2).mono ?_
          rintro e w2 ⟨rfl, hb2⟩
          go_wp2_with fail
          refine (qbefore_any (M k).hd (M r).hd _).mono ?_
          rintro e w3 ⟨rfl, hb3⟩
          rw [hl]
          have hbz : Below w.heap.size w w3 := ((hbw.trans (hb1.mono hbw.size)).trans (hb2.mono (Nat.le_trans hbw.size hb1.size))).trans (hb3.mono (Nat.le_trans (Nat.le_trans hbw.size hb1.size) hb2.size))
          clear hb1 hb2 hb3 hr2 hk1 hr1
          go_wp2
          go_roundw
          case rel => exact ⟨k + 1, by omega, by go_num, hbz, .inr ⟨k, HB.out.next hl, rfl⟩⟩
          case measure => simp [intOf]; omega
    · have e : k = m := by omega
      subst e
      rcases HF.out with ⟨rfl, rfl⟩ | ⟨r, hbest, rfl⟩
      · go_wp2
        go_ret
        exact ⟨.inl ⟨rfl, rfl⟩, hbw⟩
      · have HB := hide2 hbest
        clear hbest
        go_wp2
        go_ret
        exact ⟨.inr ⟨r, HB.out, rfl⟩, hbw⟩

theorem zznext_any (lo qb m : Nat) (p : Nat → Nat) (M : Nat → Ln) (w : World) (h : Queue w lo qb m p M) (hh : Heads m M) (hm : m ≤ 1048576) :
    Calls Try.prog 10 #[.pointer (some ⟨qb, 0, none⟩)] w fun e w' => NextOut p M m e ∧ Below w.heap.size w w' := by
  go_enter Try.func10, Try.ntmps10
  go_wp2_with fail
  refine (next_any lo qb m p M _ h hh hm).mono ?_
  rintro e w' ⟨⟨h0, rfl⟩ | ⟨r, h0, rfl⟩, hb⟩
  · go_wp2
    go_ret
    exact ⟨.inl ⟨h0, rfl⟩, hb⟩
  · have HB := hide2 h0
    clear h0
    go_wp2
    go_ret
    exact ⟨.inr ⟨r, HB.out, rfl⟩, hb⟩

theorem info49 : ∃ j, Try.prog.info? 49 = some j ∧ j.size ≠ 0 := by
  have h : ((Try.prog.info? 49).map fun j => decide (j.size ≠ 0)) = some true := by kernel_rfl
  obtain ⟨j, hj, h2⟩ := Option.map_eq_some_iff.1 h
  exact ⟨j, hj, of_decide_eq_true h2⟩
theorem eql_line {w : World} {lo b c : Nat} {l k : Ln} (hb : QLine w lo b l) (hc : QLine w lo c k) : (binOp .eql 30 (.pointer (some ⟨b, 0, none⟩)) (.pointer (some ⟨c, 0, none⟩))).run Try.prog w = .ok (.bool (b == c)) w := by
  obtain ⟨j, hj, hs⟩ := info49
  by_cases e : b = c
  · subst e
    rw [run_eql_ptr_same w _ Try.underlying30 hj, beq_self_eq_true]
  · obtain ⟨cs, t, h1⟩ := hb.hp
    obtain ⟨ds, u, h2⟩ := hc.hp
    rw [run_eql_ptr_other w Try.underlying30 hj hs (a := ⟨b, 0, none⟩) (b := ⟨c, 0, none⟩) (fun h => e (congrArg Addr.block h)) h1 h2, beq_false_of_ne e]

set_option maxHeartbeats 1000000 in
theorem zzIndex_nil (a : Option Addr) (m cap : Nat) (w : World) : Calls Try.prog 11 #[.slice a m cap, .pointer none] w fun e w' => e = .returned (.int .i64 (-1)) ∧ w' = w := by
  go_enter Try.func11, Try.ntmps11
  go_wp2
  go_ret
  exact ⟨rfl, rfl⟩

set_option maxHeartbeats 1000000 in
theorem zzIndex_any (a : Option Addr) (m cap lo : Nat) (p : Nat → Nat) (M : Nat → Ln) (r : Nat) (w : World) (h : Ptrs w a m p) (hl : ∀ k, k < m → QLine w lo (p k) (M k)) (hr : r < m) (hinj : ∀ i j, i < m → j < m → p i = p j → i = j) (hm : m ≤ 1048576) :
    Calls Try.prog 11 #[.slice a m cap, .pointer (some ⟨p r, 0, none⟩)] w fun e w' => e = .returned (.int .i64 (r : Int)) ∧ w' = w := by
  go_enter Try.func11, Try.ntmps11
  go_wp2
  go_loop [5] (fun i => ∃ k : Nat, k ≤ r ∧ i = .int .i64 k) (fun i => m - (intOf i).toNat)
  case atStart => exact ⟨0, by omega, rfl⟩
  case round =>
    obtain ⟨k, hk, rfl⟩ := hrel
    have hlt : k < m := by omega
    have hix := h.index cap hlt
    have hpk := h.all k hlt
    have heq := eql_line (hl k hlt) (hl r hr)
    by_cases e : k = r
    · subst e
      rw [beq_self_eq_true] at heq
      go_wp2
      go_ret
      exact ⟨rfl, rfl⟩
    · rw [beq_false_of_ne (fun hp => e (hinj k r hlt hr hp))] at heq
      go_wp2
      go_round
      case rel => exact ⟨k + 1, by omega, by go_num⟩
      case measure => simp [intOf]; omega
end Go.Proofs.Qxb6625878a
