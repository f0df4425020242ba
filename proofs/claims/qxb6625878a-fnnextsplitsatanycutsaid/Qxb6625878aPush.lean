/-
  OUR OWN WORK. Seat b6625878a: THE CONTRACTS of ZZnewLine (15) and ZZpushTimer (16).
-/
import Derived.Test.Qxb6625878aBuild
import Derived.Deep.RegionLaw
namespace Go.Proofs.Qxb6625878a
open Go.RowKit

attribute [local go_sem ↓] Go.wp_at_zero Go.wp_at_succ

set_option maxHeartbeats 400000 in
theorem newLine_any (a hd : Int) (w : World) : Calls Try.prog 15 #[.int .i64 a, .int .i64 hd] w fun e w' => e = .returned (.pointer (some ⟨w.heap.size, 0, none⟩)) ∧ w' = w.alloc (.cells #[.int .i64 a, .slice none 0 0, .int .i64 hd] 49) := by
  go_enter Try.func15, Try.ntmps15
  go_wp2
  go_ret
  exact ⟨rfl, rfl⟩

/-- Block lb is a line under way: its slice holds n timers, xs. -/
structure Lst (w : World) (B lb n : Nat) (xs : List Value) (a hd : Value) : Prop where
  lo : B ≤ lb
  st : ∃ v, w.heap[lb]? = some (.cells #[a, v, hd] 49 (0, 0)) ∧ w.ownsRow B 60 8 v n xs ∧ v.ownBlock ≠ some lb

theorem own_below {w w' : World} {B : Nat} {e : TypeId} {size n : Nat} {v : Value} {xs : List Value} (h : w.ownsRow B e size v n xs) (hb : Below w.heap.size w w') : w'.ownsRow B e size v n xs :=
  h.kept (row := none) ⟨hb.os, hb.tape, hb.output, hb.size, fun k hk _ => hb.block k hk⟩ (by cases hv : v.ownBlock <;> simp)

theorem info60 : ∃ i z, Try.prog.info? 60 = some i ∧ i.zero = some z ∧ i.size = 8 ∧ i.bytes = 64 ∧ z.cells.size = 8 := by
  have h : ((Try.prog.info? 60).map fun i => (i.size, i.bytes)) = some (8, 64) := by kernel_rfl
  have hz : ((Try.prog.info? 60).bind fun i => i.zero.map fun z => z.cells.size) = some 8 := by kernel_rfl
  obtain ⟨i, hi, he⟩ := Option.map_eq_some_iff.1 h
  rw [hi] at hz
  obtain ⟨z, h1, h2⟩ := Option.map_eq_some_iff.1 hz
  simp only [Prod.mk.injEq] at he
  exact ⟨i, z, hi, h1, he.1, he.2, h2⟩

set_option maxHeartbeats 2000000 in
set_option maxRecDepth 100000 in
theorem push_any (B lb n : Nat) (xs : List Value) (a hd : Value) (t : Tm) (w : World) (h : Lst w B lb n xs a hd) (hn : n ≤ 1048576) (hd' : (Lit.int .i64 t.due).wf = true) :
    Calls Try.prog 16 #[.pointer (some ⟨lb, 0, none⟩), .int .i64 t.due, .int .u64 t.ord, .int .i64 t.kind, .int .i64 t.rep, .int .i64 t.seq, .int .i64 t.aft] w fun e w' => e = .returned (.tuple #[]) ∧ Lst w' B lb (n + 1) (xs ++ t.qcells) a hd ∧ Below B w w' := by
  obtain ⟨v, hq, hown, hne⟩ := h.st
  obtain ⟨i, z, hi, hz, hs, hby, hzc⟩ := info60
  have hlt : lb < w.heap.size := (Array.getElem?_eq_some_iff.1 hq).1
  have hB := h.lo
  have c1 : w.cell? ⟨lb, 1, none⟩ = some v := cell_here hq rfl
  have hml : maxLen = 9223372036854775807 := rfl
  have HO := hide2 hown
  have HQ := hide2 hq
  have HI := hide2 (And.intro hi (And.intro hz (And.intro hs (And.intro hby hzc))))
  clear hq hi hz hs hby hzc hown h
  have hadd : ∀ w : World, Calls Try.prog 20 #[.agg #[.int .u64 0, .int .i64 0, .pointer none], .int .i64 t.due] w fun e w' => e = .returned (.agg #[.int .u64 (t.due % 1000000000), .int .i64 (t.due / 1000000000), .pointer none]) ∧ Below w.heap.size w w' := fun w => add_any t.due w hd'
  have HA := hide2 hadd
  clear hadd hd'
  unfold Tm.qcells
  generalize t.due % 1000000000 = x at *
  generalize t.due / 1000000000 = y at *
  go_enter Try.func16, Try.ntmps16
  go_wp2_with fail
  go_region_law (first
    | (go_simp; go_at_call 20; refine (HA.out _).mono ?_; rintro e w1 ⟨rfl, hb1⟩; have l1 : lb < w1.heap.size := Nat.lt_of_lt_of_le hlt hb1.size; have c1' : w1.cell? ⟨lb, 1, none⟩ = some v := (hb1.cell hlt).trans c1; have HB1 := hide2 hb1; clear hb1)
    | (refine step_append_lies _ (by rfl) _ _ _ (by rfl) B 60 i z 8 64 Try.underlying47 HI.out.1 HI.out.2.1 HI.out.2.2.1 HI.out.2.2.2.1 HI.out.2.2.2.2 (by omega) v n xs (by rfl) ((own_below HO.out.drew HB1.out).alloc _) ⟨w1.heap.size, 0, none⟩ 1 1 [.int .u64 x, .int .i64 y, .pointer none, .int .u64 t.ord, .int .i64 t.kind, .int .i64 t.rep, .int .i64 t.seq, .int .i64 t.aft] (by rfl) rfl (World.news_of_block (heap_alloc_new w1 _)) (by simp [Value.oneCell']) (by omega) (by omega) (by omega) (by simp; omega) (w1.heap.size + 1) (by simp) ?_; intro g cap w2 hown2 hgrow hat hlt2; have hq2 : w2.heap[lb]? = some (.cells #[a, v, hd] 49 (0, 0)) := (hgrow.block lb (by simp; omega) (Ne.symm hne)).trans ((Below.heap_alloc w1 _ lb l1).trans ((HB1.out.block lb hlt).trans HQ.out)); have d1 : w2.cell? ⟨lb, 1, none⟩ = some v := cell_here hq2 rfl; have f1 : w2.frozen? ⟨lb, 1, none⟩ = false := frozen_here hq2 1; have H2 := hide2 (And.intro hq2 (And.intro hown2 (And.intro hgrow hat))); clear hq2 hown2 hgrow hat))
  all_goals
    obtain ⟨hq2, hown2, hgrow, hat⟩ := H2.out
    have hb1 := HB1.out
    go_end0
    have hgq : some g ≠ some lb := by
      rcases hat with h1 | h1
      · rw [← h1]; exact hne
      · intro e; simp at e; omega
    have hs1 : w.heap.size ≤ w1.heap.size := hb1.size
    have hbel : Below B w w2 := (((Below.refl B w).drew.trans (hb1.mono (Nat.le_of_lt (Nat.lt_of_le_of_lt hB hlt)))).alloc (by omega) _).grown hgrow (by simp; omega) (fun k hk => (HO.out.lt k hk).1)
    exact ⟨rfl, ⟨hB, _, setCell_here hq2 _, own_set hown2 hgq, hgq⟩, hbel.setCell hB _⟩
end Go.Proofs.Qxb6625878a
