/-
  OUR OWN WORK. Seat b6625878a: THE CONTRACTS of package time's functions on the road: a Time without a monotonic clock is its seconds and its nanoseconds.
-/
import Derived.Test.Qxb6625878aRows
import Derived.WalkKit
import Derived.WalkSpells
import Derived.WalkLawsBesides
import Derived.BigQuiet
import Derived.BigFrame
import Derived.Below
import Derived.Deep.QuietTactic
import Derived.Deep.RegionHeld3
import Derived.Deep.MidRow
import Derived.Deep.AppendLies
import Derived.Deep.DrawnRows
import Derived.Laws.BitsLemmas
import Derived.Laws.Bits64
namespace Go.Proofs.Qxb6625878a
open Go.RowKit

theorem hide2 {p : Prop} (h : p) : Hid p := h

theorem wraps64 (n : Int) (h₀ : 0 ≤ n) (h₁ : n < 2 ^ 64) : IntKind.u64.wrap n = n := by rw [IntKind.wrap_u64]; omega

theorem mono_zero {n : Int} (h0 : 0 ≤ n) (h1 : n < 1073741824) : bits .and .u64 n 9223372036854775808 = 0 := by
  obtain ⟨m, rfl⟩ := Int.eq_ofNat_of_zero_le h0
  have h := (bits_nat .u64 64 (by decide) wraps64 m 9223372036854775808 (by omega) (by decide)).1
  have e : m &&& 9223372036854775808 = 0 := by
    have : m = m &&& (2 ^ 30 - 1) := by rw [Nat.and_two_pow_sub_one_eq_mod]; omega
    rw [this, Nat.and_assoc]
    have : (2 ^ 30 - 1) &&& 9223372036854775808 = 0 := by decide
    rw [this, Nat.and_zero]
  rw [e] at h
  simpa using h
theorem nsec_mask {n : Int} (h0 : 0 ≤ n) (h1 : n < 1073741824) : bits .and .u64 n 1073741823 = n := by
  have h := bits_mask .u64 64 (by decide) wraps64 30 (by decide) n (by omega) (by omega)
  have e : ((2 : Int) ^ 30 - 1) = 1073741823 := by decide
  have e2 : ((2 : Int) ^ 30) = 1073741824 := by decide
  rw [e, e2] at h
  rw [h]
  omega

set_option maxHeartbeats 400000 in
theorem nsec_any (b : Nat) (n : Int) (w : World) (h0 : 0 ≤ n) (h1 : n < 1000000000) (hc : w.cell? ⟨b, 0, none⟩ = some (.int .u64 n)) : Calls Try.prog 24 #[.pointer (some ⟨b, 0, none⟩)] w fun e w' => e = .returned (.int .i32 n) ∧ w' = w := by
  have hm := nsec_mask h0 (by omega)
  go_enter Try.func24, Try.ntmps24
  go_wp2
  go_ret
  exact ⟨rfl, rfl⟩

set_option maxHeartbeats 400000 in
theorem sec_any (b : Nat) (n s : Int) (w : World) (h0 : 0 ≤ n) (h1 : n < 1000000000) (hc : w.cell? ⟨b, 0, none⟩ = some (.int .u64 n)) (hs : w.cell? ⟨b, 1, none⟩ = some (.int .i64 s)) : Calls Try.prog 29 #[.pointer (some ⟨b, 0, none⟩)] w fun e w' => e = .returned (.int .i64 s) ∧ w' = w := by
  have hm := mono_zero h0 (by omega)
  go_enter Try.func29, Try.ntmps29
  go_wp2
  go_ret
  exact ⟨rfl, rfl⟩
theorem and_both {n m : Int} (h0 : 0 ≤ n) (h1 : n < 1073741824) (k0 : 0 ≤ m) (k1 : m < 1073741824) : bits .and .u64 (bits .and .u64 n m) 9223372036854775808 = 0 := by
  obtain ⟨a, rfl⟩ := Int.eq_ofNat_of_zero_le h0
  obtain ⟨b, rfl⟩ := Int.eq_ofNat_of_zero_le k0
  rw [(bits_nat .u64 64 (by decide) wraps64 a b (by omega) (by omega)).1]
  refine mono_zero (by omega) ?_
  have : a &&& b ≤ a := Nat.and_le_left
  omega
theorem or_zero {n : Int} (h0 : 0 ≤ n) (h1 : n < 1073741824) : bits .or .u64 0 n = n := by
  obtain ⟨a, rfl⟩ := Int.eq_ofNat_of_zero_le h0
  have := (bits_nat .u64 64 (by decide) wraps64 0 a (by omega) (by omega)).2
  simpa using this
theorem andNot_zero : bits .andNot .u64 0 1073741823 = 0 := by decide

set_option maxHeartbeats 1000000 in
theorem addSec_any (b : Nat) (n d : Int) (w : World) (h0 : 0 ≤ n) (h1 : n < 1000000000) (hd : (Lit.int .i64 d).wf = true) (hc : w.cell? ⟨b, 0, none⟩ = some (.int .u64 n)) (hs : w.cell? ⟨b, 1, none⟩ = some (.int .i64 0)) (hf : w.frozen? ⟨b, 1, none⟩ = false) :
    Calls Try.prog 25 #[.pointer (some ⟨b, 0, none⟩), .int .i64 d] w fun e w' => e = .returned (.tuple #[]) ∧ w' = w.setCell ⟨b, 1, none⟩ (.int .i64 d) := by
  have hm := mono_zero h0 (by omega)
  have hw : -9223372036854775808 ≤ d ∧ d ≤ 9223372036854775807 := by
    have h1 : IntKind.i64.min = -9223372036854775808 := rfl
    have h2 : IntKind.i64.max = 9223372036854775807 := rfl
    simp only [Lit.wf, Bool.and_eq_true, decide_eq_true_eq, h1, h2] at hd
    exact hd
  go_enter Try.func25, Try.ntmps25
  go_wp2
  go_end0
  exact ⟨rfl, rfl⟩

theorem heap_two (w : World) (o p : Obj) : ((w.alloc o).alloc p).heap[w.heap.size + 1]? = some p := by
  have : w.heap.size + 1 = (w.alloc o).heap.size := by simp
  rw [this]; exact heap_alloc_new _ _

/-- The Time that lies d nanoseconds behind the zero one. -/
def timeOf (d : Int) : Value := .agg #[.int .u64 (d % 1000000000), .int .i64 (d / 1000000000), .pointer none]

theorem ret_time {n s d : Int} (hn : n = d % 1000000000) (hs : s = d / 1000000000) : Ending.returned (.agg #[.int .u64 n, .int .i64 s, .pointer none]) = .returned (timeOf d) := by rw [hn, hs]; rfl

set_option maxHeartbeats 1000000 in
theorem add_any (d : Int) (w : World) (hd : (Lit.int .i64 d).wf = true) :
    Calls Try.prog 20 #[.agg #[.int .u64 0, .int .i64 0, .pointer none], .int .i64 d] w fun e w' => e = .returned (timeOf d) ∧ Below w.heap.size w w' := by
  have hw : -9223372036854775808 ≤ d ∧ d ≤ 9223372036854775807 := by
    have h1 : IntKind.i64.min = -9223372036854775808 := rfl
    have h2 : IntKind.i64.max = 9223372036854775807 := rfl
    simp only [Lit.wf, Bool.and_eq_true, decide_eq_true_eq, h1, h2] at hd
    exact hd
  have ha := andNot_zero
  have e1 : d = 1000000000 * d.tdiv 1000000000 + d.tmod 1000000000 := (Int.mul_tdiv_add_tmod d 1000000000).symm
  have e2 : d.tmod 1000000000 < 1000000000 := Int.tmod_lt_of_pos _ (by omega)
  have e3 : -1000000000 < d.tmod 1000000000 := Int.lt_tmod_of_pos d (by omega)
  by_cases hr : 0 ≤ d.tmod 1000000000
  · have hr0 : 0 ≤ d.tmod 1000000000 := by omega
    have hor := or_zero (n := d.tmod 1000000000) hr0 (by omega)
    have hmz := mono_zero (n := d.tmod 1000000000) hr0 (by omega)
    have hq : d.tdiv 1000000000 = d / 1000000000 := by omega
    have hr' : d.tmod 1000000000 = d % 1000000000 := by omega
    have hq2 : (Lit.int .i64 (d.tdiv 1000000000)).wf = true := by
      have h1 : IntKind.i64.min = -9223372036854775808 := rfl
      have h2 : IntKind.i64.max = 9223372036854775807 := rfl
      simp only [Lit.wf, Bool.and_eq_true, decide_eq_true_eq, h1, h2]
      omega
    have hq3 : -9223372036854775808 ≤ d.tdiv 1000000000 ∧ d.tdiv 1000000000 ≤ 9223372036854775807 := by omega
    have HR := hide2 (And.intro hq hr')
    clear hq hr' e1
    go_enter Try.func20, Try.ntmps20
    go_wp2_with (first | (go_at_call 24; refine (nsec_any w.heap.size 0 _ (by omega) (by omega) (by simp)).mono fun q w' hq => ?_; obtain ⟨rfl, hw⟩ := hq; subst w') | (go_at_call 25; refine (addSec_any w.heap.size (d.tmod 1000000000) _ _ hr0 (by omega) hq2 (by go_simp) (by go_simp) (by go_simp)).mono fun q w' hq => ?_; obtain ⟨rfl, hw⟩ := hq; subst w'))
    refine bodyPost_ret (v := timeOf d) ?_ rfl ⟨rfl, ((Below.refl _ w).alloc (Nat.le_refl _) _).alloc (by simp) _⟩
    unfold timeOf
    rw [← HR.out.1, ← HR.out.2]
    exact results_cell_row Try.results20 _ _ (w.heap.size + 1) 52 _ _ _ rfl (heap_two w _ _) Try.underlying52 rfl (by kernel_rfl)
  · have hr0 : 0 ≤ d.tmod 1000000000 + 1000000000 := by omega
    have hor := or_zero (n := d.tmod 1000000000 + 1000000000) hr0 (by omega)
    have hmz := mono_zero (n := d.tmod 1000000000 + 1000000000) hr0 (by omega)
    have hq : d.tdiv 1000000000 - 1 = d / 1000000000 := by omega
    have hr' : d.tmod 1000000000 + 1000000000 = d % 1000000000 := by omega
    have hq2 : (Lit.int .i64 (d.tdiv 1000000000 - 1)).wf = true := by
      have h1 : IntKind.i64.min = -9223372036854775808 := rfl
      have h2 : IntKind.i64.max = 9223372036854775807 := rfl
      simp only [Lit.wf, Bool.and_eq_true, decide_eq_true_eq, h1, h2]
      omega
    have hq3 : -9223372036854775808 ≤ d.tdiv 1000000000 - 1 ∧ d.tdiv 1000000000 - 1 ≤ 9223372036854775807 := by omega
    have HR := hide2 (And.intro hq hr')
    clear hq hr' e1
    go_enter Try.func20, Try.ntmps20
    go_wp2_with (first | (go_at_call 24; refine (nsec_any w.heap.size 0 _ (by omega) (by omega) (by simp)).mono fun q w' hq => ?_; obtain ⟨rfl, hw⟩ := hq; subst w') | (go_at_call 25; refine (addSec_any w.heap.size (d.tmod 1000000000 + 1000000000) _ _ hr0 (by omega) hq2 (by go_simp) (by go_simp) (by go_simp)).mono fun q w' hq => ?_; obtain ⟨rfl, hw⟩ := hq; subst w'))
    refine bodyPost_ret (v := timeOf d) ?_ rfl ⟨rfl, ((Below.refl _ w).alloc (Nat.le_refl _) _).alloc (by simp) _⟩
    unfold timeOf
    rw [← HR.out.1, ← HR.out.2]
    exact results_cell_row Try.results20 _ _ (w.heap.size + 1) 52 _ _ _ rfl (heap_two w _ _) Try.underlying52 rfl (by kernel_rfl)
theorem ret_bool {a b : Bool} (h : a = b) : Ending.returned (.bool a) = .returned (.bool b) := by rw [h]
theorem below_two (w : World) (o p : Obj) : Below w.heap.size w ((w.alloc o).alloc p) := ((Below.refl _ w).alloc (Nat.le_refl _) _).alloc (by simp) _

set_option maxHeartbeats 1000000 in
theorem equal_any (n s m t : Int) (w : World) (h0 : 0 ≤ n) (h1 : n < 1000000000) (k0 : 0 ≤ m) (k1 : m < 1000000000) :
    Calls Try.prog 27 #[.agg #[.int .u64 n, .int .i64 s, .pointer none], .agg #[.int .u64 m, .int .i64 t, .pointer none]] w fun e w' => e = .returned (.bool (decide (s = t) && decide (n = m))) ∧ Below w.heap.size w w' := by
  have hb := and_both h0 (by omega) k0 (by omega)
  by_cases est : s = t
  · go_enter Try.func27, Try.ntmps27
    go_wp2_with (first | (go_at_call 29; (first | with_reducible refine (sec_any w.heap.size n s _ h0 h1 (by go_simp) (by go_simp)).mono fun q w' hq => ?_ | with_reducible refine (sec_any (w.heap.size + 1) m t _ k0 k1 (by go_simp) (by go_simp)).mono fun q w' hq => ?_); obtain ⟨rfl, hw⟩ := hq; subst w') | (go_at_call 24; (first | with_reducible refine (nsec_any w.heap.size n _ h0 h1 (by go_simp)).mono fun q w' hq => ?_ | with_reducible refine (nsec_any (w.heap.size + 1) m _ k0 k1 (by go_simp)).mono fun q w' hq => ?_); obtain ⟨rfl, hw⟩ := hq; subst w'))
    go_ret
    exact ⟨ret_bool (by rw [decide_eq_true est]; rfl), below_two w _ _⟩
  · go_enter Try.func27, Try.ntmps27
    go_wp2_with (first | (go_at_call 29; (first | with_reducible refine (sec_any w.heap.size n s _ h0 h1 (by go_simp) (by go_simp)).mono fun q w' hq => ?_ | with_reducible refine (sec_any (w.heap.size + 1) m t _ k0 k1 (by go_simp) (by go_simp)).mono fun q w' hq => ?_); obtain ⟨rfl, hw⟩ := hq; subst w'))
    go_ret
    exact ⟨ret_bool (by rw [decide_eq_false est]; rfl), below_two w _ _⟩

set_option maxHeartbeats 1000000 in
theorem before_any (n s m t : Int) (w : World) (h0 : 0 ≤ n) (h1 : n < 1000000000) (k0 : 0 ≤ m) (k1 : m < 1000000000) :
    Calls Try.prog 28 #[.agg #[.int .u64 n, .int .i64 s, .pointer none], .agg #[.int .u64 m, .int .i64 t, .pointer none]] w fun e w' => e = .returned (.bool (decide (s < t ∨ (s = t ∧ n < m)))) ∧ Below w.heap.size w w' := by
  have hb := and_both h0 (by omega) k0 (by omega)
  by_cases elt : s < t
  · go_enter Try.func28, Try.ntmps28
    go_wp2_with (first | (go_at_call 29; (first | with_reducible refine (sec_any w.heap.size n s _ h0 h1 (by go_simp) (by go_simp)).mono fun q w' hq => ?_ | with_reducible refine (sec_any (w.heap.size + 1) m t _ k0 k1 (by go_simp) (by go_simp)).mono fun q w' hq => ?_); obtain ⟨rfl, hw⟩ := hq; subst w'))
    go_ret
    exact ⟨ret_bool (decide_eq_true (.inl elt)).symm, below_two w _ _⟩
  by_cases est : s = t
  · go_enter Try.func28, Try.ntmps28
    go_wp2_with (first | (go_at_call 29; (first | with_reducible refine (sec_any w.heap.size n s _ h0 h1 (by go_simp) (by go_simp)).mono fun q w' hq => ?_ | with_reducible refine (sec_any (w.heap.size + 1) m t _ k0 k1 (by go_simp) (by go_simp)).mono fun q w' hq => ?_); obtain ⟨rfl, hw⟩ := hq; subst w') | (go_at_call 24; (first | with_reducible refine (nsec_any w.heap.size n _ h0 h1 (by go_simp)).mono fun q w' hq => ?_ | with_reducible refine (nsec_any (w.heap.size + 1) m _ k0 k1 (by go_simp)).mono fun q w' hq => ?_); obtain ⟨rfl, hw⟩ := hq; subst w'))
    go_ret
    exact ⟨ret_bool (decide_eq_decide.mpr (by omega)), below_two w _ _⟩
  · have est' : (s == t) = false := by simpa using est
    go_enter Try.func28, Try.ntmps28
    go_wp2_with (first | (go_at_call 29; (first | with_reducible refine (sec_any w.heap.size n s _ h0 h1 (by go_simp) (by go_simp)).mono fun q w' hq => ?_ | with_reducible refine (sec_any (w.heap.size + 1) m t _ k0 k1 (by go_simp) (by go_simp)).mono fun q w' hq => ?_); obtain ⟨rfl, hw⟩ := hq; subst w'))
    go_ret
    exact ⟨ret_bool (decide_eq_decide.mpr (by omega)), below_two w _ _⟩

/-- A timer. -/
structure Tm where
  due : Int
  ord : Int
  kind : Int
  rep : Int
  seq : Int
  aft : Int
/-- Its six cells as plain data. -/
def Tm.cells (t : Tm) : List Value := [.int .i64 t.due, .int .u64 t.ord, .int .i64 t.kind, .int .i64 t.rep, .int .i64 t.seq, .int .i64 t.aft]
/-- Its eight cells as the queue has it. -/
def Tm.qcells (t : Tm) : List Value := [.int .u64 (t.due % 1000000000), .int .i64 (t.due / 1000000000), .pointer none, .int .u64 t.ord, .int .i64 t.kind, .int .i64 t.rep, .int .i64 t.seq, .int .i64 t.aft]
/-- Does t fall due strictly before u? -/
def less (t u : Tm) : Bool := if t.due = u.due then decide (t.ord < u.ord) else decide (t.due < u.due)

set_option maxHeartbeats 1000000 in
theorem zzLess_any (t u : Tm) (w : World) : Calls Try.prog 13 #[.agg t.cells.toArray, .agg u.cells.toArray] w fun e w' => e = .returned (.bool (less t u)) ∧ Below w.heap.size w w' := by
  unfold Tm.cells less
  by_cases e : t.due = u.due
  · rw [if_pos e]
    have e' : (t.due == u.due) = true := by simpa using e
    go_enter Try.func13, Try.ntmps13
    go_wp2
    go_ret
    exact ⟨rfl, below_two w _ _⟩
  · rw [if_neg e]
    have e' : (t.due == u.due) = false := by simpa using e
    go_enter Try.func13, Try.ntmps13
    go_wp2
    go_ret
    exact ⟨rfl, below_two w _ _⟩

theorem two_box (w : World) (A B : Array Value) (T U : TypeId) {w' : World} (hb : Below ((w.alloc (.cells A T)).alloc (.cells B U)).heap.size ((w.alloc (.cells A T)).alloc (.cells B U)) w') :
    (∀ i, w'.cell? ⟨w.heap.size, i, none⟩ = A[i]?) ∧ (∀ i, w'.cell? ⟨w.heap.size + 1, i, none⟩ = B[i]?) ∧ Below w.heap.size w w' := by
  refine ⟨fun i => ?_, fun i => ?_, (below_two w _ _).trans (hb.mono (by simp; omega))⟩
  · rw [hb.cell (by simp; omega)]
    have h := Below.heap_alloc (w.alloc (.cells A T)) (.cells B U) w.heap.size (by simp)
    rw [World.cell?_of_block (w := w.alloc (.cells A T)) (a := ⟨w.heap.size, i, none⟩) h, World.cell?_alloc_new]
  · rw [hb.cell (by simp)]
    have : w.heap.size + 1 = (w.alloc (.cells A T)).heap.size := by simp
    rw [this, World.cell?_alloc_new]

set_option maxHeartbeats 1000000 in
theorem qbefore_any (t u : Tm) (w : World) : Calls Try.prog 22 #[.agg t.qcells.toArray, .agg u.qcells.toArray] w fun e w' => e = .returned (.bool (less t u)) ∧ Below w.heap.size w w' := by
  unfold Tm.qcells less
  have hE := fun w => equal_any (t.due % 1000000000) (t.due / 1000000000) (u.due % 1000000000) (u.due / 1000000000) w (by omega) (by omega) (by omega) (by omega)
  have hB := fun w => before_any (t.due % 1000000000) (t.due / 1000000000) (u.due % 1000000000) (u.due / 1000000000) w (by omega) (by omega) (by omega) (by omega)
  by_cases e : t.due = u.due
  · rw [if_pos e]
    have e1 : (decide (t.due / 1000000000 = u.due / 1000000000) && decide (t.due % 1000000000 = u.due % 1000000000)) = true := by rw [e]; simp
    rw [e1] at hE
    have HE := hide2 hE
    clear hE hB e1
    generalize t.due % 1000000000 = n at *
    generalize t.due / 1000000000 = s at *
    generalize u.due % 1000000000 = m at *
    generalize u.due / 1000000000 = r at *
    go_enter Try.func22, Try.ntmps22
    go_wp2_with (go_at_call 27; refine (HE.out _).mono fun q w' hq => ?_; obtain ⟨rfl, hb⟩ := hq; obtain ⟨hA, hB, hbw⟩ := two_box _ _ _ _ _ hb; clear hb; have a3 := hA 3; have b3 := hB 3; dsimp at a3 b3; clear hA hB)
    go_ret
    exact ⟨rfl, hbw⟩
  · rw [if_neg e]
    have e1 : (decide (t.due / 1000000000 = u.due / 1000000000) && decide (t.due % 1000000000 = u.due % 1000000000)) = false := by
      rw [Bool.and_eq_false_iff, decide_eq_false_iff_not, decide_eq_false_iff_not]; omega
    rw [e1] at hE
    have e2 : decide (t.due / 1000000000 < u.due / 1000000000 ∨ (t.due / 1000000000 = u.due / 1000000000 ∧ t.due % 1000000000 < u.due % 1000000000)) = decide (t.due < u.due) := decide_eq_decide.mpr (by omega)
    rw [e2] at hB
    have HE := hide2 hE
    have HB := hide2 hB
    clear hE hB e1 e2
    generalize t.due % 1000000000 = n at *
    generalize t.due / 1000000000 = s at *
    generalize u.due % 1000000000 = m at *
    generalize u.due / 1000000000 = r at *
    go_enter Try.func22, Try.ntmps22
    go_wp2_with (first | (go_at_call 27; refine (HE.out _).mono fun q w' hq => ?_; obtain ⟨rfl, hb⟩ := hq; obtain ⟨hA, hB, hbw⟩ := two_box _ _ _ _ _ hb; clear hb; have a0 := hA 0; have b0 := hB 0; have a1 := hA 1; have b1 := hB 1; have a2 := hA 2; have b2 := hB 2; dsimp at a0 b0 a1 b1 a2 b2; clear hA hB) | (go_at_call 28; refine (HB.out _).mono fun q w2 hq => ?_; obtain ⟨rfl, hb2⟩ := hq))
    go_ret
    exact ⟨rfl, hbw.trans (hb2.mono hbw.size)⟩
end Go.Proofs.Qxb6625878a
