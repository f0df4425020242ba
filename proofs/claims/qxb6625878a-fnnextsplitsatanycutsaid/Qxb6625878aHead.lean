/-
  OUR OWN WORK. Seat b6625878a: THE CONTRACT of zzHead (12).
-/
import Derived.Test.Qxb6625878aLines
namespace Go.Proofs.Qxb6625878a
open Go.RowKit

attribute [local go_sem ↓] Go.wp_at_zero Go.wp_at_succ

theorem Timers.cells {w : World} {a : Option Addr} {n : Nat} {ts : Nat → Tm} (h : Timers w a n ts) {k : Nat} (hk : k < n) :
    w.cell? ⟨blk a, off a + k * 6, none⟩ = some (.int .i64 (ts k).due) ∧ w.cell? ⟨blk a, off a + k * 6 + 1, none⟩ = some (.int .u64 (ts k).ord) ∧ w.cell? ⟨blk a, off a + k * 6 + 2, none⟩ = some (.int .i64 (ts k).kind) ∧ w.cell? ⟨blk a, off a + k * 6 + 3, none⟩ = some (.int .i64 (ts k).rep) ∧ w.cell? ⟨blk a, off a + k * 6 + 4, none⟩ = some (.int .i64 (ts k).seq) ∧ w.cell? ⟨blk a, off a + k * 6 + 5, none⟩ = some (.int .i64 (ts k).aft) :=
  ⟨h.all k hk 0 _ rfl, h.all k hk 1 _ rfl, h.all k hk 2 _ rfl, h.all k hk 3 _ rfl, h.all k hk 4 _ rfl, h.all k hk 5 _ rfl⟩

set_option maxHeartbeats 2000000 in
theorem zzHead_any (a : Option Addr) (len cap : Nat) (L : Nat → Ln) (k : Nat) (w : World) (h : Lines w a len L) (hk : k < len) (hh : Heads len L) :
    Calls Try.prog 12 #[.slice a len cap, .int .i64 (k : Int)] w fun e w' => e = .returned (.agg (L k).hd.cells.toArray) ∧ Below w.heap.size w w' := by
  obtain ⟨g0, g1⟩ := hh k hk
  have hlt : (L k).head.toNat < (L k).n := by omega
  have hix := h.index cap hk
  have hc1 := h.c1 k hk
  have hc2 := h.c2 k hk
  have hT := h.ts k hk
  have hjx := hT.index (L k).tc hlt
  obtain ⟨d0, d1, d2, d3, d4, d5⟩ := hT.cells hlt
  have e : (((L k).head.toNat : Nat) : Int) = (L k).head := by omega
  rw [e] at hjx
  obtain ⟨b, o, hab, hbl⟩ := h.lt k hk
  obtain ⟨b', o', hab', hbl'⟩ := hT.lt _ hlt
  have n1 : blk a < w.heap.size := by rw [hab]; exact hbl
  have n2 : blk (L k).ta < w.heap.size := by rw [hab']; exact hbl'
  unfold Ln.hd
  clear hab hab' hbl hbl' hT e g0 g1 hh
  generalize (L k).ts (L k).head.toNat = t at *
  generalize blk (L k).ta = tb at *
  generalize off (L k).ta + (L k).head.toNat * 6 = to at *
  generalize blk a = lb at *
  generalize off a + k * 3 = lo at *
  generalize (L k).head = hd at *
  unfold Tm.cells
  go_enter Try.func12, Try.ntmps12
  go_wp2
  go_region
  go_wp2
  exact bodyPost_ret (v := .agg #[.int .i64 t.due, .int .u64 t.ord, .int .i64 t.kind, .int .i64 t.rep, .int .i64 t.seq, .int .i64 t.aft]) (results_cell_row Try.results12 _ _ w.heap.size 34 _ _ _ rfl (heap_alloc_new w _) Try.underlying34 rfl (by kernel_rfl)) rfl ⟨rfl, ((Below.refl _ w).alloc (Nat.le_refl _) _).drew⟩
end Go.Proofs.Qxb6625878a
