/-
  OUR OWN WORK. Seat b6625878a: THE LINES IN MEMORY, and the contracts of the guards: zzBytes (5, 14), zzTooBig (6), zzHeadsValid (7).
-/
import Derived.Test.Qxb6625878aTime
namespace Go.Proofs.Qxb6625878a
open Go.RowKit

def blk (a : Option Addr) : Nat := (a.getD ⟨0, 0, none⟩).block
def off (a : Option Addr) : Nat := (a.getD ⟨0, 0, none⟩).off
@[simp] theorem blk_some (b o : Nat) : blk (some ⟨b, o, none⟩) = b := rfl
@[simp] theorem off_some (b o : Nat) : off (some ⟨b, o, none⟩) = o := rfl

/-- A slice of n timers (plain data). -/
structure Timers (w : World) (a : Option Addr) (n : Nat) (ts : Nat → Tm) : Prop where
  lt : ∀ k, k < n → ∃ b o, a = some ⟨b, o, none⟩ ∧ b < w.heap.size
  all : ∀ k, k < n → w.rangeAt (blk a) (off a + k * 6) (ts k).cells
  wf : ∀ k, k < n → (Lit.int .i64 (ts k).due).wf = true

/-- A line as plain data. -/
structure Ln where
  aft : Int
  head : Int
  ta : Option Addr
  n : Nat
  tc : Nat
  ts : Nat → Tm
/-- The timer at its head. -/
def Ln.hd (l : Ln) : Tm := l.ts l.head.toNat

/-- A slice of len lines. -/
structure Lines (w : World) (a : Option Addr) (len : Nat) (L : Nat → Ln) : Prop where
  lt : ∀ k, k < len → ∃ b o, a = some ⟨b, o, none⟩ ∧ b < w.heap.size
  c0 : ∀ k, k < len → w.cell? ⟨blk a, off a + k * 3, none⟩ = some (.int .i64 (L k).aft)
  c1 : ∀ k, k < len → w.cell? ⟨blk a, off a + k * 3 + 1, none⟩ = some (.int .i64 (L k).head)
  c2 : ∀ k, k < len → w.cell? ⟨blk a, off a + k * 3 + 2, none⟩ = some (.slice (L k).ta (L k).n (L k).tc)
  ts : ∀ k, k < len → Timers w (L k).ta (L k).n (L k).ts
  wf : ∀ k, k < len → (Lit.int .i64 (L k).head).wf = true

theorem Timers.below {w w' : World} {a : Option Addr} {n : Nat} {ts : Nat → Tm} (h : Timers w a n ts) (hb : Below w.heap.size w w') : Timers w' a n ts := by
  refine ⟨fun k hk => ?_, fun k hk => ?_, h.wf⟩
  · obtain ⟨b, o, e, hl⟩ := h.lt k hk
    exact ⟨b, o, e, Nat.lt_of_lt_of_le hl hb.size⟩
  · obtain ⟨b, o, rfl, hl⟩ := h.lt k hk
    intro j v hv
    exact (hb.cell hl).trans (h.all k hk j v hv)
theorem Lines.below {w w' : World} {a : Option Addr} {n : Nat} {L : Nat → Ln} (h : Lines w a n L) (hb : Below w.heap.size w w') : Lines w' a n L := by
  refine ⟨fun k hk => ?_, fun k hk => ?_, fun k hk => ?_, fun k hk => ?_, fun k hk => (h.ts k hk).below hb, h.wf⟩
  all_goals obtain ⟨b, o, rfl, hl⟩ := h.lt k hk
  · exact ⟨b, o, rfl, Nat.lt_of_lt_of_le hl hb.size⟩
  · exact (hb.cell hl).trans (h.c0 k hk)
  · exact (hb.cell hl).trans (h.c1 k hk)
  · exact (hb.cell hl).trans (h.c2 k hk)

theorem elem22 : Try.prog.elem 22 = 40 := by kernel_rfl
theorem size40 (w : World) : (sizeOf 40).run Try.prog w = .ok 3 w := by kernel_rfl
theorem elem38 : Try.prog.elem 38 = 34 := by kernel_rfl
theorem size34 (w : World) : (sizeOf 34).run Try.prog w = .ok 6 w := by kernel_rfl

theorem Lines.index {w : World} {a : Option Addr} {len : Nat} {L : Nat → Ln} (h : Lines w a len L) (cap : Nat) {k : Nat} (hk : k < len) (W : World) :
    (Instr.indexAt 22 (.slice a len cap) (.int .i64 (k : Int))).run Try.prog W = .ok (.pointer (some ⟨blk a, off a + k * 3, none⟩)) W := by
  obtain ⟨b, o, rfl, _⟩ := h.lt k hk
  have h1 : (k : Int) < (len : Int) := by omega
  rw [run_indexAt_slice W 22 _ len cap .i64 _ (by rw [elem22]; exact Try.underlying22), elem22, size40]
  simp [Result.andThen, h1, Addr.add]
theorem Timers.index {w : World} {a : Option Addr} {n : Nat} {ts : Nat → Tm} (h : Timers w a n ts) (cap : Nat) {k : Nat} (hk : k < n) (W : World) :
    (Instr.indexAt 38 (.slice a n cap) (.int .i64 (k : Int))).run Try.prog W = .ok (.pointer (some ⟨blk a, off a + k * 6, none⟩)) W := by
  obtain ⟨b, o, rfl, _⟩ := h.lt k hk
  have h1 : (k : Int) < (n : Int) := by omega
  rw [run_indexAt_slice W 38 _ n cap .i64 _ (by rw [elem38]; exact Try.underlying38), elem38, size34]
  simp [Result.andThen, h1, Addr.add]

/-- Some bool comes back. -/
def SomeBool (e : Ending) : Prop := ∃ b, e = .returned (.bool b)
/-- A bool comes back; where it is b, p holds. -/
def Tells (b : Bool) (p : Prop) (e : Ending) : Prop := ∃ x, e = .returned (.bool x) ∧ (x = b → p)

set_option maxHeartbeats 1000000 in
theorem bytes5_any (a : Option Addr) (len cap : Nat) (L : Nat → Ln) (u : Int) (w : World) (h : Lines w a len L) (hl : len ≤ maxLen) : Calls Try.prog 5 #[.slice a len cap, .int .u64 u] w fun e w' => SomeBool e ∧ w' = w := by
  have hm : maxLen = 9223372036854775807 := rfl
  by_cases hb : 1048576 < len
  · go_enter Try.func5, Try.ntmps5
    go_wp2
    go_ret
    exact ⟨⟨_, rfl⟩, rfl⟩
  go_enter Try.func5, Try.ntmps5
  go_wp2
  go_loop [5, 6] (fun t i => ∃ (k : Nat) (x : Nat), k ≤ len ∧ x ≤ 1048576 ∧ i = .int .i64 k ∧ t = .int .i64 x) (fun _ i => len - (intOf i).toNat)
  case atStart => exact ⟨0, len, by omega, by omega, rfl, rfl⟩
  case round =>
    obtain ⟨k, x, hk, hx, rfl, rfl⟩ := hrel
    by_cases hlt : k < len
    · have hix := h.index cap hlt
      have hc2 := h.c2 k hlt
      go_wp2
      · go_ret
        exact ⟨⟨_, rfl⟩, rfl⟩
      · go_ret
        exact ⟨⟨_, rfl⟩, rfl⟩
      · go_round
        case rel => exact ⟨k + 1, x + (L k).n, by omega, by omega, by go_num, by go_num⟩
        case measure => simp [intOf]; omega
    · go_wp2
      go_ret
      exact ⟨⟨_, rfl⟩, rfl⟩
set_option maxHeartbeats 1000000 in
theorem bytes14_any (a : Option Addr) (len cap : Nat) (L : Nat → Ln) (c u : Int) (w : World) (h : Lines w a len L) (hl : len ≤ maxLen) : Calls Try.prog 14 #[.slice a len cap, .int .i64 c, .int .u64 u] w fun e w' => SomeBool e ∧ w' = w := by
  have hm : maxLen = 9223372036854775807 := rfl
  by_cases hb : 1048576 < len
  · go_enter Try.func14, Try.ntmps14
    go_wp2
    go_ret
    exact ⟨⟨_, rfl⟩, rfl⟩
  go_enter Try.func14, Try.ntmps14
  go_wp2
  go_loop [7, 8] (fun t i => ∃ (k : Nat) (x : Nat), k ≤ len ∧ x ≤ 1048576 ∧ i = .int .i64 k ∧ t = .int .i64 x) (fun _ i => len - (intOf i).toNat)
  case atStart => exact ⟨0, len, by omega, by omega, rfl, rfl⟩
  case round =>
    obtain ⟨k, x, hk, hx, rfl, rfl⟩ := hrel
    by_cases hlt : k < len
    · have hix := h.index cap hlt
      have hc2 := h.c2 k hlt
      go_wp2
      · go_ret
        exact ⟨⟨_, rfl⟩, rfl⟩
      · go_ret
        exact ⟨⟨_, rfl⟩, rfl⟩
      · go_round
        case rel => exact ⟨k + 1, x + (L k).n, by omega, by omega, by go_num, by go_num⟩
        case measure => simp [intOf]; omega
    · go_wp2
      go_ret
      exact ⟨⟨_, rfl⟩, rfl⟩

/-- What it says that the lines are not too big. -/
def Small (len : Nat) (L : Nat → Ln) : Prop := len ≤ 26214 ∧ ∀ k, k < len → (L k).n ≤ 21845

set_option maxHeartbeats 1000000 in
theorem tooBig_any (a : Option Addr) (len cap : Nat) (L : Nat → Ln) (w : World) (h : Lines w a len L) (hl : len ≤ maxLen) : Calls Try.prog 6 #[.slice a len cap] w fun e w' => Tells false (Small len L) e ∧ w' = w := by
  have hm : maxLen = 9223372036854775807 := rfl
  go_enter Try.func6, Try.ntmps6
  go_wp2
  go_loop [3, 4] (fun t i => ∃ (k : Nat) (x : Nat), k ≤ len ∧ x ≤ 1048576 ∧ 40 * k ≤ x ∧ i = .int .i64 k ∧ t = .int .i64 x ∧ ∀ j, j < k → (L j).n ≤ 21845) (fun _ i => len - (intOf i).toNat)
  case atStart => exact ⟨0, 0, by omega, by omega, by omega, rfl, rfl, fun j hj => by omega⟩
  case round =>
    obtain ⟨k, x, hk, hx, hkx, rfl, rfl, hall⟩ := hrel
    have HK := hide2 hkx
    have HA := hide2 hall
    clear hkx hall
    by_cases hlt : k < len
    · have hix := h.index cap hlt
      have hc2 := h.c2 k hlt
      by_cases t1 : (1048576 : Int) < (x : Int) + 40
      · go_wp2
        go_ret
        exact ⟨⟨_, rfl, fun e => by cases e⟩, rfl⟩
      by_cases t2 : (1048576 : Int) < ((L k).n : Int)
      · go_wp2
        go_ret
        exact ⟨⟨_, rfl, fun e => by cases e⟩, rfl⟩
      by_cases t3 : (1048576 : Int) < (x : Int) + 40 + ((L k).n : Int) * 48
      · go_wp2
        go_ret
        exact ⟨⟨_, rfl, fun e => by cases e⟩, rfl⟩
      go_wp2
      go_round
      case rel =>
        have hkx := HK.out
        refine ⟨k + 1, x + 40 + (L k).n * 48, by omega, by omega, by omega, by go_num, by go_num, fun j hj => ?_⟩
        by_cases e : j = k
        · subst e; omega
        · exact HA.out j (by omega)
      case measure => simp [intOf]; omega
    · go_wp2
      go_ret
      have hkx := HK.out
      exact ⟨⟨_, rfl, fun _ => ⟨by omega, fun j hj => HA.out j (by omega)⟩⟩, rfl⟩

theorem below_drewN (w : World) (n : Nat) : Below w.heap.size w (w.drewN n) := ⟨rfl, rfl, rfl, Nat.le_refl _, fun _ _ => rfl⟩

/-- Every line holds a timer at its head. -/
def Heads (len : Nat) (L : Nat → Ln) : Prop := ∀ k, k < len → 0 ≤ (L k).head ∧ (L k).head < (L k).n

set_option maxHeartbeats 1000000 in
theorem headsValid_any (a : Option Addr) (len cap : Nat) (L : Nat → Ln) (w : World) (h : Lines w a len L) (hl : len ≤ maxLen) : Calls Try.prog 7 #[.slice a len cap] w fun e w' => Tells true (Heads len L) e ∧ Below w.heap.size w w' := by
  have hm : maxLen = 9223372036854775807 := rfl
  go_enter Try.func7, Try.ntmps7
  go_wp2
  go_loopw [3] (fun i wr => ∃ (k x : Nat), k ≤ len ∧ i = .int .i64 k ∧ wr = w.drewN x ∧ ∀ j, j < k → 0 ≤ (L j).head ∧ (L j).head < (L j).n) (fun i _ => len - (intOf i).toNat)
  case atStart => exact ⟨0, 0, by omega, rfl, rfl, fun j hj => by omega⟩
  case round =>
    obtain ⟨k, x, hk, rfl, rfl, hall⟩ := hrel
    by_cases hlt : k < len
    · have hix := h.index cap hlt
      have hc1 := h.c1 k hlt
      have hc2 := h.c2 k hlt
      by_cases h0 : (L k).head < 0
      · go_wp2_with fail
        go_quiet (fail)
        go_wp2
        go_ret
        exact ⟨⟨_, rfl, fun e => by cases e⟩, (below_drewN w x).trans (below_drewN (w.drewN x) _)⟩
      have h0' : decide ((L k).head < 0) = false := decide_eq_false h0
      by_cases h1 : ((L k).n : Int) ≤ (L k).head
      · go_wp2_with fail
        go_quiet (fail)
        go_wp2
        go_ret
        exact ⟨⟨_, rfl, fun e => by cases e⟩, (below_drewN w x).trans (below_drewN (w.drewN x) _)⟩
      have h1' : decide (((L k).n : Int) ≤ (L k).head) = false := decide_eq_false h1
      go_wp2_with fail
      go_quiet (fail)
      go_wp2
      go_roundw
      case rel =>
        refine ⟨k + 1, _, by omega, by go_num, rfl, fun j hj => ?_⟩
        by_cases e : j = k
        · subst e; omega
        · exact hall j (by omega)
      case measure => simp [intOf]; omega
    · go_wp2
      go_ret
      exact ⟨⟨_, rfl, fun _ j hj => hall j (by omega)⟩, below_drewN w _⟩
end Go.Proofs.Qxb6625878a
