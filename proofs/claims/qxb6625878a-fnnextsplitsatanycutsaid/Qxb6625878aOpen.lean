/-
  OUR OWN WORK. Seat b6625878a: THE ARGUMENT OPENED: whatever reads as a []ZLine is 'Lines'.
-/
import Derived.Test.Qxb6625878aLines
import Derived.ProofKit
import Derived.OpenShut
import Derived.ChangeArms
namespace Go.Proofs.Qxb6625878a
open Go.RowKit Go.ChangeShapes Go.WideShapes

section
variable {H : Type} {enc : TypeId × Value → H} {w : World} {base : Nat} {sp : Nat → Bool} {held : Bool}

theorem field_of {t : TypeId} {fs : Array Field} {fuel : Nat} {cs : List Value} {x : DataW H × List MemPlace} (ht : Try.prog.underlying t = some (.struct fs)) (h : DataW.trod enc Try.prog w base sp held fuel t cs = some x) (i : Nat) (ty : TypeId) (off : Nat) (hi : (fs[i]?).map (fun f => (f.type, f.offset)) = some (ty, off)) (n : Nat) (hn : Try.prog.cellsOf ty = n) :
    ∃ y m, DataW.trod enc Try.prog w base sp held m ty ((cs.drop off).take n) = some y := by
  obtain ⟨xs, m, _, _, _, hlen, hf⟩ := DataW.trod_struct ht h
  obtain ⟨f, hf0, he⟩ := Option.map_eq_some_iff.1 hi
  simp only [Prod.mk.injEq] at he
  obtain ⟨rfl, rfl⟩ := he
  have := hf i f hf0
  rw [hn] at this
  have hlt : i < xs.length := by rw [hlen]; exact (Array.getElem?_eq_some_iff.1 hf0).1
  rw [List.getElem?_eq_getElem hlt] at this
  exact ⟨_, m, this⟩
theorem len_of {t : TypeId} {fs : Array Field} {fuel : Nat} {cs : List Value} {x : DataW H × List MemPlace} (ht : Try.prog.underlying t = some (.struct fs)) (h : DataW.trod enc Try.prog w base sp held fuel t cs = some x) : cs.length = Try.prog.cellsOf t := by
  obtain ⟨xs, m, _, _, hl, _, _⟩ := DataW.trod_struct ht h
  exact hl
theorem int_of {t : TypeId} {k : IntKind} (ht : Try.prog.underlying t = some (.int k)) {fuel : Nat} {cs : List Value} {x : DataW H × List MemPlace} (h : DataW.trod enc Try.prog w base sp held fuel t cs = some x) : ∃ n, cs = [.int k n] ∧ (Lit.int k n).wf = true := by
  cases fuel with
  | zero => simp [DataW.trod] at h
  | succ n =>
    unfold DataW.trod at h
    rw [ht] at h
    split at h <;> simp_all
/-- The cells behind a pointer. -/
theorem cells_of {a : Addr} {n : Nat} {cs : List Value} (h : w.cells? base a n = some cs) (hn : 0 < n) : ∃ b o, a = ⟨b, o, none⟩ ∧ cs.length = n ∧ ∀ i v, cs[i]? = some v → w.cell? ⟨b, o + i, none⟩ = some v := by
  obtain ⟨_, hl, hc⟩ := World.cells?_some h
  obtain ⟨b, o, spot⟩ := a
  have h0 := hc 0 hn
  rw [List.getElem?_eq_getElem (by omega)] at h0
  have hspot : spot = none := by simpa [Addr.add] using World.cell?_spot h0
  subst hspot
  refine ⟨b, o, rfl, hl, fun i v hv => ?_⟩
  have hi : i < n := by rw [← hl]; exact (List.getElem?_eq_some_iff.1 hv).1
  rw [← hv, ← hc i hi, Addr.add_mid]

theorem at_of {cs : List Value} {i : Nat} {v : Value} (h : (cs.drop i).take 1 = [v]) : cs[i]? = some v := by
  have : ((cs.drop i).take 1)[0]? = some v := by rw [h]; rfl
  simpa [List.getElem?_take, List.getElem?_drop] using this

theorem n34 : Try.prog.cellsOf 34 = 6 := by kernel_rfl
theorem n40 : Try.prog.cellsOf 40 = 3 := by kernel_rfl
theorem n2 : Try.prog.cellsOf 2 = 1 := by kernel_rfl
theorem n3 : Try.prog.cellsOf 3 = 1 := by kernel_rfl
theorem n23 : Try.prog.cellsOf 23 = 1 := by kernel_rfl
theorem n38 : Try.prog.cellsOf 38 = 1 := by kernel_rfl

theorem timer_of {fuel : Nat} {cs : List Value} {x : DataW H × List MemPlace} (h : DataW.trod enc Try.prog w base sp held fuel 34 cs = some x) : ∃ t : Tm, (∀ (j : Nat) (v : Value), t.cells[j]? = some v → cs[j]? = some v) ∧ (Lit.int .i64 t.due).wf = true := by
  obtain ⟨_, _, f0⟩ := field_of Try.underlying34 h 0 2 0 rfl 1 n2
  obtain ⟨_, _, f1⟩ := field_of Try.underlying34 h 1 23 1 rfl 1 n23
  obtain ⟨_, _, f2⟩ := field_of Try.underlying34 h 2 3 2 rfl 1 n3
  obtain ⟨_, _, f3⟩ := field_of Try.underlying34 h 3 3 3 rfl 1 n3
  obtain ⟨_, _, f4⟩ := field_of Try.underlying34 h 4 3 4 rfl 1 n3
  obtain ⟨_, _, f5⟩ := field_of Try.underlying34 h 5 2 5 rfl 1 n2
  obtain ⟨i0, e0, w0⟩ := int_of Try.underlying2 f0
  obtain ⟨i1, e1, _⟩ := int_of Try.underlying23 f1
  obtain ⟨i2, e2, _⟩ := int_of Try.underlying3 f2
  obtain ⟨i3, e3, _⟩ := int_of Try.underlying3 f3
  obtain ⟨i4, e4, _⟩ := int_of Try.underlying3 f4
  obtain ⟨i5, e5, _⟩ := int_of Try.underlying2 f5
  refine ⟨⟨i0, i1, i2, i3, i4, i5⟩, fun j v hv => ?_, w0⟩
  have hj : j < 6 := (List.getElem?_eq_some_iff.1 hv).1
  obtain rfl | rfl | rfl | rfl | rfl | rfl : j = 0 ∨ j = 1 ∨ j = 2 ∨ j = 3 ∨ j = 4 ∨ j = 5 := by omega
  · cases hv; exact at_of e0
  · cases hv; exact at_of e1
  · cases hv; exact at_of e2
  · cases hv; exact at_of e3
  · cases hv; exact at_of e4
  · cases hv; exact at_of e5

/-- The elements of a slice, each of size cells. -/
theorem row_of {t e : TypeId} (ht : Try.prog.underlying t = some (.slice e)) {size : Nat} (hs : Try.prog.cellsOf e = size) (hp : 0 < size) {fuel : Nat} {cs : List Value} {x : DataW H × List MemPlace} (h : DataW.trod enc Try.prog w base sp held fuel t cs = some x) :
    ∃ a n cap, cs = [.slice a n cap] ∧ n ≤ maxLen ∧ (∀ k, k < n → ∃ b o, a = some ⟨b, o, none⟩ ∧ b < w.heap.size) ∧
      ∀ k, k < n → ∃ cs' m y, DataW.trod enc Try.prog w base sp held m e cs' = some y ∧ ∀ (i : Nat) (v : Value), cs'[i]? = some v → w.cell? ⟨blk a, off a + k * size + i, none⟩ = some v := by
  rcases DataW.trod_slice ht h with ⟨rfl, _⟩ | ⟨⟨b, o, spot⟩, n, cap, elems, rest, m, _, rfl, _, _, hnc, hcm, hel, hi, _, _⟩
  · exact ⟨none, 0, 0, rfl, by decide, fun k hk => by omega, fun k hk => by omega⟩
  · refine ⟨_, n, cap, rfl, by omega, fun k hk => ?_, fun k hk => ?_⟩
    all_goals
      have hk' := hi k hk
      rw [hs, List.getElem?_eq_getElem (by omega)] at hk'
      obtain ⟨cs', hc, hy⟩ := Option.bind_eq_some_iff.1 hk'
      obtain ⟨b', o', e', hl, hat⟩ := cells_of hc hp
      have hsp : spot = none := by
        have h0 := hi 0 (by omega)
        rw [hs, List.getElem?_eq_getElem (by omega), Nat.zero_mul] at h0
        obtain ⟨cs0, hc0, _⟩ := Option.bind_eq_some_iff.1 h0
        obtain ⟨b0, o0, e0, _, _⟩ := cells_of hc0 hp
        have := congrArg Addr.spot e0
        simpa [Addr.add] using this
      subst hsp
      rw [Addr.add_mid] at e'
      simp only [Addr.mk.injEq, and_true] at e'
      obtain ⟨rfl, rfl⟩ := e'
    · have h0 := hat 0 _ (List.getElem?_eq_getElem (by omega))
      exact ⟨b, o, rfl, World.block_lt_of_cell? _ ⟨b, o + k * size + 0, none⟩ h0⟩
    · exact ⟨cs', m, _, hy, hat⟩

theorem timers_of {fuel : Nat} {cs : List Value} {x : DataW H × List MemPlace} (h : DataW.trod enc Try.prog w base sp held fuel 38 cs = some x) : ∃ a n cap ts, cs = [.slice a n cap] ∧ Timers w a n ts := by
  obtain ⟨a, n, cap, rfl, _, hlt, hel⟩ := row_of Try.underlying38 n34 (by omega) h
  have hex : ∀ k, ∃ t : Tm, k < n → w.rangeAt (blk a) (off a + k * 6) t.cells ∧ (Lit.int .i64 t.due).wf = true := fun k => by
    by_cases hk : k < n
    · obtain ⟨cs', m, y, hy, hat⟩ := hel k hk
      obtain ⟨t, ht, hw⟩ := timer_of hy
      exact ⟨t, fun _ => ⟨fun j v hv => hat j v (ht j v hv), hw⟩⟩
    · exact ⟨⟨0, 0, 0, 0, 0, 0⟩, fun h => absurd h hk⟩
  obtain ⟨ts, hts⟩ := Classical.skolem.1 hex
  exact ⟨a, n, cap, ts, rfl, hlt, fun k hk => (hts k hk).1, fun k hk => (hts k hk).2⟩

theorem line_of {fuel : Nat} {cs : List Value} {x : DataW H × List MemPlace} (h : DataW.trod enc Try.prog w base sp held fuel 40 cs = some x) : ∃ l : Ln, cs[0]? = some (.int .i64 l.aft) ∧ cs[1]? = some (.int .i64 l.head) ∧ cs[2]? = some (.slice l.ta l.n l.tc) ∧ Timers w l.ta l.n l.ts ∧ (Lit.int .i64 l.head).wf = true := by
  obtain ⟨_, _, f0⟩ := field_of Try.underlying40 h 0 2 0 rfl 1 n2
  obtain ⟨_, _, f1⟩ := field_of Try.underlying40 h 1 3 1 rfl 1 n3
  obtain ⟨_, _, f2⟩ := field_of Try.underlying40 h 2 38 2 rfl 1 n38
  obtain ⟨i0, e0, _⟩ := int_of Try.underlying2 f0
  obtain ⟨i1, e1, w1⟩ := int_of Try.underlying3 f1
  obtain ⟨a, n, cap, ts, e2, ht⟩ := timers_of f2
  exact ⟨⟨i0, i1, a, n, cap, ts⟩, at_of e0, at_of e1, at_of e2, ht, w1⟩

theorem lines_of {fuel : Nat} {cs : List Value} {x : DataW H × List MemPlace} (h : DataW.trod enc Try.prog w base sp held fuel 22 cs = some x) : ∃ a n cap L, cs = [.slice a n cap] ∧ Lines w a n L ∧ n ≤ maxLen := by
  obtain ⟨a, n, cap, rfl, hm, hlt, hel⟩ := row_of Try.underlying22 n40 (by omega) h
  have hex : ∀ k, ∃ l : Ln, k < n → w.cell? ⟨blk a, off a + k * 3, none⟩ = some (.int .i64 l.aft) ∧ w.cell? ⟨blk a, off a + k * 3 + 1, none⟩ = some (.int .i64 l.head) ∧ w.cell? ⟨blk a, off a + k * 3 + 2, none⟩ = some (.slice l.ta l.n l.tc) ∧ Timers w l.ta l.n l.ts ∧ (Lit.int .i64 l.head).wf = true := fun k => by
    by_cases hk : k < n
    · obtain ⟨cs', m, y, hy, hat⟩ := hel k hk
      obtain ⟨l, h0, h1, h2, ht, hw⟩ := line_of hy
      exact ⟨l, fun _ => ⟨hat 0 _ h0, hat 1 _ h1, hat 2 _ h2, ht, hw⟩⟩
    · exact ⟨⟨0, 0, none, 0, 0, fun _ => ⟨0, 0, 0, 0, 0, 0⟩⟩, fun h => absurd h hk⟩
  obtain ⟨L, hL⟩ := Classical.skolem.1 hex
  exact ⟨a, n, cap, L, rfl, ⟨hlt, fun k hk => (hL k hk).1, fun k hk => (hL k hk).2.1, fun k hk => (hL k hk).2.2.1, fun k hk => (hL k hk).2.2.2.1, fun k hk => (hL k hk).2.2.2.2⟩, hm⟩
end
end Go.Proofs.Qxb6625878a
