/-
  OUR OWN WORK. Seat b6625645a: THE WORDS OF THE CONTRACTS: a row of numbers that a slice leads to ('Row'); a set that a map[uint64]bool keeps ('SetIs'); what has not turned ('Keeps').
-/
import Derived.Test.Qxb6625645aRows
import Derived.WalkKit
import Derived.Maps.OwnSet
namespace Go.Proofs.Qxb6625645a
open Go.RowKit Go.Maps Go.ChangeMaps

theorem law26 : Keyed Try.prog 26 := int_keyed Try.underlying26
theorem zero4 (w : World) : (zeroValue 4).run Try.prog w = .ok (.bool false) w := by kernel_rfl

/-- All blocks but those listed are as they were; new ones may have come. -/
structure Keeps (S : List Nat) (w w' : World) : Prop where
  os : w'.os = w.os
  tape : w'.tape = w.tape
  output : w'.output = w.output
  size : w.heap.size ≤ w'.heap.size
  block : ∀ k, k < w.heap.size → k ∉ S → w'.heap[k]? = w.heap[k]?

theorem Keeps.refl (S : List Nat) (w : World) : Keeps S w w := ⟨rfl, rfl, rfl, Nat.le_refl _, fun _ _ _ => rfl⟩
theorem Keeps.trans {S : List Nat} {a b c : World} (h : Keeps S a b) (k : Keeps S b c) : Keeps S a c :=
  ⟨k.os.trans h.os, k.tape.trans h.tape, k.output.trans h.output, Nat.le_trans h.size k.size, fun i hi hn => (k.block i (Nat.lt_of_lt_of_le hi h.size) hn).trans (h.block i hi hn)⟩
theorem Keeps.mono {S T : List Nat} {a b : World} (h : Keeps S a b) (hs : ∀ x, x ∈ S → x < a.heap.size → x ∈ T) : Keeps T a b :=
  ⟨h.os, h.tape, h.output, h.size, fun i hi hn => h.block i hi (fun e => hn (hs i e hi))⟩
theorem Keeps.drew {S : List Nat} {a w : World} (h : Keeps S a w) : Keeps S a w.drew := ⟨h.os, h.tape, h.output, h.size, h.block⟩
theorem Keeps.of_below {w w' : World} (h : Below w.heap.size w w') (S : List Nat) : Keeps S w w' := ⟨h.os, h.tape, h.output, h.size, fun k hk _ => h.block k hk⟩
theorem Keeps.below {S : List Nat} {w w' : World} (h : Keeps S w w') {N : Nat} (hN : N ≤ w.heap.size) (hs : ∀ x, x ∈ S → N ≤ x) : Below N w w' :=
  ⟨h.os, h.tape, h.output, h.size, fun k hk => h.block k (by omega) (fun e => by have := hs k e; omega)⟩
theorem Keeps.of_grown {w w' : World} {b : Nat} (h : w.grownBy w' (some b)) : Keeps [b] w w' :=
  ⟨h.os, h.tape, h.output, h.size, fun k hk hn => h.block k hk (fun e => hn (by cases e; simp))⟩
theorem Keeps.alloc (S : List Nat) (w : World) (o : Obj) : Keeps S w (w.alloc o) := ⟨rfl, rfl, rfl, by simp, fun k hk _ => Below.heap_alloc _ _ _ hk⟩
theorem Keeps.setCell (w : World) (a : Addr) (v : Value) : Keeps [a.block] w (w.setCell a v) :=
  ⟨rfl, rfl, rfl, by simp [World.setCell], fun k _ hn => Below.heap_setCell _ _ _ _ (fun e => hn (by simp [e]))⟩

/-- A slice of length 'len' (nil or not) whose elements are z 0, z 1, ..; the place of the k-th: 'at_ a k'. -/
def base (a : Option Addr) : Addr := a.getD ⟨0, 0, none⟩
def place (a : Option Addr) (k : Nat) : Addr := ⟨(base a).block, (base a).off + k, none⟩
structure Row (w : World) (a : Option Addr) (len cap : Nat) (z : Nat → Int) : Prop where
  le : len ≤ cap
  lt : ∀ k, k < len → ∃ b off, a = some ⟨b, off, none⟩ ∧ b < w.heap.size
  cell : ∀ k, k < len → w.cell? (place a k) = some (.int .u64 (z k))
  wf : ∀ k, k < len → (Lit.int .u64 (z k)).wf = true

theorem Row.keeps {w w' : World} {a : Option Addr} {len cap : Nat} {z : Nat → Int} (h : Row w a len cap z) {S : List Nat} (hk : Keeps S w w') (hn : 0 < len → (base a).block ∉ S) : Row w' a len cap z := by
  refine ⟨h.le, fun k hl => ?_, fun k hl => ?_, h.wf⟩
  · obtain ⟨b, off, e, hb⟩ := h.lt k hl
    exact ⟨b, off, e, Nat.lt_of_lt_of_le hb hk.size⟩
  · rw [← h.cell k hl]
    obtain ⟨b, off, e, hb⟩ := h.lt k hl
    exact World.cell?_of_block (hk.block _ (by subst e; exact hb) (hn (by omega)))
theorem Row.below {w w' : World} {a : Option Addr} {len cap : Nat} {z : Nat → Int} (h : Row w a len cap z) (hk : Below w.heap.size w w') : Row w' a len cap z :=
  h.keeps (Keeps.of_below hk []) (by simp)

theorem Try.elem22 : Try.prog.elem 22 = 26 := by kernel_rfl
theorem Try.cells26 : Try.prog.cellsOf 26 = 1 := by kernel_rfl
theorem size26 (w : World) : (sizeOf 26).run Try.prog w = .ok 1 w := by kernel_rfl

theorem Row.index {w : World} {a : Option Addr} {len cap : Nat} {z : Nat → Int} (h : Row w a len cap z) {k : Nat} (hk : k < len) (W : World) :
    (Instr.indexAt 22 (.slice a len cap) (.int .i64 (k : Int))).run Try.prog W = .ok (.pointer (some (place a k))) W := by
  obtain ⟨b, off, e, _⟩ := h.lt k hk
  subst e
  have h1 : (k : Int) < (len : Int) := by omega
  rw [run_indexAt_slice W 22 _ len cap .i64 _ (by rw [Try.elem22]; exact Try.underlying22), Try.elem22, size26]
  simp [Result.andThen, h1, place, base, Addr.add]

/-- What the walk is told of the k-th element, ahead of it. -/
theorem Row.at {w : World} {a : Option Addr} {len cap : Nat} {z : Nat → Int} (h : Row w a len cap z) {k : Nat} (hk : k < len) :
    (∀ W, (Instr.indexAt 22 (.slice a len cap) (.int .i64 (k : Int))).run Try.prog W = .ok (.pointer (some (place a k))) W) ∧ w.cell? (place a k) = some (.int .u64 (z k)) :=
  ⟨fun W => h.index hk W, h.cell k hk⟩

/-! ### sets -/
/-- Is x among the numbers of L? (behind a name of its own: the walk must not open it) -/
def inS (L : List Int) (x : Int) : Bool := L.contains x
theorem inS_iff {L : List Int} {x : Int} : inS L x = true ↔ x ∈ L := by simp [inS]
theorem inS_nil (x : Int) : inS [] x = false := rfl

/-- 'm' IS A MAP OF AT MOST N ENTRIES WHOSE KEYS ARE THE NUMBERS OF L, each with 'true'. -/
def SetN (w : World) (m N : Nat) (L : List Int) : Prop :=
  ∃ (D : DataW Unit), w.ownsMap Try.prog 26 (plainElem Try.prog 4) m N D ∧ (∀ x, (Lit.int .u64 x).wf = true → Maps.has D (.int .u64 x) = inS L x) ∧ (∀ x, (Lit.int .u64 x).wf = true → D.atKey (.int .u64 x) (.lit (.bool false)) = .lit (.bool (inS L x))) ∧ Maps.size D = L.length
def SetIs (w : World) (m : Nat) (L : List Int) : Prop := SetN w m 1048576 L

theorem SetN.lt {w : World} {m N : Nat} {L : List Int} (h : SetN w m N L) : m < w.heap.size := by
  obtain ⟨D, h, _⟩ := h
  exact h.lt
theorem SetN.mono {w : World} {m N N' : Nat} {L : List Int} (h : SetN w m N L) (hN : N ≤ N') : SetN w m N' L := by
  obtain ⟨D, h, r⟩ := h
  exact ⟨D, h.mono hN, r⟩

theorem SetN.keeps {w w' : World} {m N : Nat} {L : List Int} (h : SetN w m N L) {S : List Nat} (hk : Keeps S w w') (hn : m ∉ S) : SetN w' m N L := by
  obtain ⟨D, h, r⟩ := h
  have hlt := h.lt
  obtain ⟨es, clock, hb, F, hs, hD⟩ := h
  exact ⟨D, ⟨es, clock, (hk.block m hlt hn).trans hb, F, hs, hD⟩, r⟩
theorem SetN.below {w w' : World} {m N : Nat} {L : List Int} (h : SetN w m N L) (hk : Below w.heap.size w w') : SetN w' m N L := h.keeps (Keeps.of_below hk []) (by simp)

theorem plainElem_bool_inv {H : Type} {P : Program} {e : TypeId} (he : P.underlying e = some .bool) {v : Value} {z : DataW H × List MemPlace} (h : plainElem P e v = some z) : ∃ x, v = .bool x ∧ z = (.lit (.bool x), []) := by
  unfold plainElem at h
  rw [he] at h
  cases v <;> simp at h
  exact ⟨_, rfl, h.symm⟩

/-- 'm[x]'. -/
theorem SetN.look {w : World} {m N : Nat} {L : List Int} (h : SetN w m N L) {x : Int} (hx : (Lit.int .u64 x).wf = true) :
    (Instr.lookup 28 (.map (some m)) (.int .u64 x) false).run Try.prog w = .ok (.bool (inS L x)) w := by
  obtain ⟨D, h, _, hat, _⟩ := h
  obtain ⟨v, ps, hrun, hv⟩ := h.lookup law26 Try.underlying28 (zero4 w) (plainElem_bool Try.underlying4 false) (keyOf_int_mk Try.underlying26 hx)
  obtain ⟨b, rfl, hb⟩ := plainElem_bool_inv Try.underlying4 hv
  rw [hat x hx] at hb
  simp at hb
  rw [hrun, ← hb.1]

/-- .. whatever has been drawn since. -/
theorem SetN.drew {w : World} {m N : Nat} {L : List Int} (h : SetN w m N L) : SetN w.drew m N L := h

/-- 'len(m)'. -/
theorem SetN.len {w : World} {m N : Nat} {L : List Int} (h : SetN w m N L) (ty : TypeId) : (Builtin.len_ #[28] ty #[.map (some m)]).run Try.prog w = .ok (.int .i64 L.length) w := by
  obtain ⟨D, h, _, _, hs⟩ := h
  rw [h.len Try.underlying28, hs]

theorem SetN.length_le {w : World} {m N : Nat} {L : List Int} (h : SetN w m N L) : L.length ≤ N := by
  obtain ⟨D, h, _, _, hs⟩ := h
  have := h.size_le
  omega

/-- 'make(map[uint64]bool)'. -/
theorem SetN.made (w : World) (N : Nat) : SetN (w.alloc (.map #[] 0)) w.heap.size N [] :=
  ⟨_, (World.ownsMap_made w _ _ _).mono (Nat.zero_le _), fun _ _ => rfl, fun _ _ => rfl, rfl⟩

/-- 'clear(m)'. -/
theorem SetN.clear {w : World} {m N : Nat} {L : List Int} (h : SetN w m N L) :
    ∃ w', (∀ ty, (Builtin.clear_ #[28] ty #[.map (some m)]).run Try.prog w = .ok (.tuple #[]) w') ∧ SetN w' m N [] ∧ Keeps [m] w w' := by
  obtain ⟨D, ⟨es, clock, hb, F, hs, hD⟩, _⟩ := h
  refine ⟨setBlock w m (.map #[] clock), ?_, ⟨.map [], ⟨#[], clock, heap_setBlock_same hb _, ⟨by simp, MapKept.stamped_empty clock, by simp⟩, Nat.zero_le _, rfl⟩, fun _ _ => rfl, fun _ _ => rfl, rfl⟩, ?_⟩
  · intro ty
    simp [Builtin.clear_, run_underlying Try.underlying28, MapKept.run_getObj_map hb, MapKept.run_setObj_map _ hb, Result.andThen]
    rfl
  · exact Keeps.of_grown (World.mapTurned.grown ⟨es, clock, #[], clock, hb, rfl⟩)

/-- One number more, unless it is there. -/
def addTo (L : List Int) (x : Int) : List Int := if inS L x then L else L ++ [x]
theorem mem_addTo {L : List Int} {x y : Int} : y ∈ addTo L x ↔ y ∈ L ∨ y = x := by
  unfold addTo
  split
  · rename_i h
    rw [inS_iff] at h
    constructor
    · exact Or.inl
    · rintro (h' | rfl)
      · exact h'
      · exact h
  · simp
theorem nodup_addTo {L : List Int} {x : Int} (h : L.Nodup) : (addTo L x).Nodup := by
  unfold addTo
  split
  · exact h
  · rename_i hx
    rw [inS_iff] at hx
    rw [List.nodup_append]
    refine ⟨h, by simp, ?_⟩
    intro a ha b hb e
    simp at hb
    subst hb e
    exact hx ha

/-- 'm[x] = true'. -/
theorem SetN.put {w : World} {m N : Nat} {L : List Int} (h : SetN w m N L) (hN : N ≤ 1048576) {x : Int} (hx : (Lit.int .u64 x).wf = true) :
    ∃ w', (Instr.mapUpdate 28 (.map (some m)) (.int .u64 x) (.bool true)).run Try.prog w = .ok () w' ∧ SetN w' m (N + 1) (addTo L x) ∧ Keeps [m] w w' := by
  obtain ⟨D, h, hhas, hat, hs⟩ := h
  obtain ⟨w', hrun, h1, h2⟩ := h.update law26 Try.underlying28 (by unfold maxLen; omega) (keyOf_int_mk Try.underlying26 hx) (plainElem_bool Try.underlying4 true)
  have hkl : WideAt.IsKeyLit (.int .u64 x) := by simp [WideAt.IsKeyLit]
  refine ⟨w', hrun, ⟨_, h1, fun y hy => ?_, fun y hy => ?_, ?_⟩, Keeps.of_grown h2⟩
  · by_cases e : y = x
    · subst e
      rw [has_put_same h.isMap hkl]
      exact (inS_iff.2 (mem_addTo.2 (Or.inr rfl))).symm
    · rw [has_put_other (by simpa using e), hhas y hy, Bool.eq_iff_iff, inS_iff, inS_iff, mem_addTo]
      simp [e]
  · by_cases e : y = x
    · subst e
      rw [atKey_put_same h.isMap hkl, inS_iff.2 (mem_addTo.2 (Or.inr rfl))]
    · rw [atKey_put_other (by simpa using e), hat y hy]
      have : inS L y = inS (addTo L x) y := by rw [Bool.eq_iff_iff, inS_iff, inS_iff, mem_addTo]; simp [e]
      rw [this]
  · rw [size_put (h.tidy law26), hhas x hx, hs]
    unfold addTo
    split <;> simp_all

/-- The keys of a set that is filled from z 0, .., z (k - 1). -/
def keys (z : Nat → Int) : Nat → List Int
  | 0 => []
  | k + 1 => addTo (keys z k) (z k)
theorem mem_keys {z : Nat → Int} {x : Int} : ∀ {k : Nat}, x ∈ keys z k ↔ ∃ j, j < k ∧ z j = x
  | 0 => by simp [keys]
  | k + 1 => by
    rw [keys, mem_addTo, mem_keys]
    constructor
    · rintro (⟨j, hj, e⟩ | rfl)
      · exact ⟨j, by omega, e⟩
      · exact ⟨k, by omega, rfl⟩
    · rintro ⟨j, hj, e⟩
      by_cases h : j = k
      · subst h; exact Or.inr e.symm
      · exact Or.inl ⟨j, by omega, e⟩
theorem nodup_keys (z : Nat → Int) : ∀ k, (keys z k).Nodup
  | 0 => by simp [keys]
  | k + 1 => nodup_addTo (nodup_keys z k)

/-- 'm[x] = true', at the operation. -/
theorem wpList_put {w : World} {ops : Array Oper} {rest : List Oper} {o : Oper} {a : Act} {Q : Exit → Act → World → Prop}
    (hg : o.guard = none) (p q v : Operand) (hop : o.op = Op.mapUpdate 28 p q v) (m N : Nat) (L : List Int) (x : Int) (hm : a.eval p = .map (some m)) (hq : a.eval q = .int .u64 x) (hv : a.eval v = .bool true)
    (h : SetN w m N L) (hN : N ≤ 1048576) (hx : (Lit.int .u64 x).wf = true)
    (hK : ∀ w', SetN w' m (N + 1) (addTo L x) → Keeps [m] w w' → wpList Try.prog ops Q rest (a.put o.dst undef) w') :
    wpList Try.prog ops Q (o :: rest) a w := by
  refine wpList_plain hg fun K' hK' => ?_
  obtain ⟨w', hrun, r1, r2⟩ := h.put hN hx
  unfold Oper.wp
  simp [execOp, hop, hm, hq, hv, hrun, Result.andThen]
  exact hK' _ _ (hK w' r1 r2)

/-- 'make(map[uint64]bool, n)'. -/
theorem run_makeMap_hint (n : Int) (w : World) : (Instr.makeMap 28 (some (.int .i64 n))).run Try.prog w = .ok (.map (some w.heap.size)) (w.alloc (.map #[] 0)) := by
  simp [Instr.makeMap, run_underlying Try.underlying28, asInt, asIntOf, Result.andThen, newObj]
  rfl


end Go.Proofs.Qxb6625645a
