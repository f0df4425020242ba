/-
  OUR OWN WORK. Seat b6625833a: WHAT THE TWO LAWS' WALKS WANT: what stays while other blocks are written; equality of references and of their texts.
-/
import Derived.Test.Qxb6625833aZz
import Derived.Test.Qxb6625833aBytesB
import Derived.Stop.BytesEq
import Derived.Lib.Builder
namespace Go.Proofs.Qxb6625833a
open Go.RowKit Go.Lib

theorem heap_setCells_other (b k : Nat) (hne : k ≠ b) : ∀ (vs : List Value) (o : Nat) (w : World), (w.setCells b o vs).heap[k]? = w.heap[k]?
  | [], _, _ => rfl
  | v :: r, o, w => by rw [World.setCells, heap_setCells_other b k hne r (o + 1), Below.heap_setCell _ _ _ _ hne]

theorem rangeAt_of_block {w w' : World} {b o : Nat} {l : List Value} (h : w.rangeAt b o l) (e : w'.heap[b]? = w.heap[b]?) : w'.rangeAt b o l := fun j v hv => (World.cell?_of_block (w := w) (a := ⟨b, o + j, none⟩) e).trans (h j v hv)
theorem there_of_block {w w' : World} {b n : Nat} (h : w.there b 0 n) (e : w'.heap[b]? = w.heap[b]?) : w'.there b 0 n := fun j hj => by
  rw [World.cell?_of_block (w := w) (a := ⟨b, 0 + j, none⟩) e, World.frozen?_of_block (w := w) (a := ⟨b, 0 + j, none⟩) e]
  exact h j hj

theorem size_setCells (b : Nat) : ∀ (vs : List Value) (o : Nat) (w : World), (w.setCells b o vs).heap.size = w.heap.size
  | [], _, _ => rfl
  | v :: r, o, w => by rw [World.setCells, size_setCells b r]; simp [World.setCell]
theorem ChgAt.of_block {w w' : World} {b : Nat} {c : Chg} (h : ChgAt w b c) (e : w'.heap[b]? = w.heap[b]?) : ChgAt w' b c := by
  refine ⟨?_, h.le, h.lv, rangeAt_of_block h.all e, there_of_block h.fr e⟩
  have h1 := Array.getElem?_eq_getElem h.lt
  rw [h1] at e
  exact (Array.getElem?_eq_some_iff.1 e).1

/-- One stage: a kind is stored, the event asked for, a variable made for it and filled: all other blocks are as they were. -/
structure Stage (w w' : World) (sb nb : Nat) : Prop where
  os : w'.os = w.os
  tape : w'.tape = w.tape
  output : w'.output = w.output
  lo : w.heap.size ≤ nb
  hi : nb < w'.heap.size
  block : ∀ k, k < w.heap.size → k ≠ sb → w'.heap[k]? = w.heap[k]?

/-- Block b alone has been written. -/
structure Only (w w' : World) (b : Nat) : Prop where
  os : w'.os = w.os
  tape : w'.tape = w.tape
  output : w'.output = w.output
  size : w'.heap.size = w.heap.size
  block : ∀ k, k ≠ b → w'.heap[k]? = w.heap[k]?
theorem Only.setCell (w : World) (a : Addr) (v : Value) : Only w (w.setCell a v) a.block := ⟨rfl, rfl, rfl, by simp [World.setCell], fun _ hk => Below.heap_setCell _ _ _ _ hk⟩
theorem Only.setCells (b : Nat) : ∀ (vs : List Value) (o : Nat) (w : World), Only w (w.setCells b o vs) b
  | [], _, _ => ⟨rfl, rfl, rfl, rfl, fun _ _ => rfl⟩
  | v :: r, o, w => by
    have h1 := Only.setCell w ⟨b, o, none⟩ v
    have h2 := Only.setCells b r (o + 1) (w.setCell ⟨b, o, none⟩ v)
    rw [World.setCells]
    exact ⟨h2.os.trans h1.os, h2.tape.trans h1.tape, h2.output.trans h1.output, h2.size.trans h1.size, fun k hk => (h2.block k hk).trans (h1.block k hk)⟩
theorem Only.below {w0 w w' : World} {b : Nat} (h : Only w w' b) (hb : Below w0.heap.size w0 w) (hle : w0.heap.size ≤ b) : Below w0.heap.size w0 w' :=
  hb.trans ⟨h.os, h.tape, h.output, Nat.le_of_eq h.size.symm, fun k hk => h.block k (by omega)⟩

theorem Stage.of {W w1 w2 w3 w4 : World} {sb : Nat} (h1 : Only W w1 sb) (h2 : Below w1.heap.size w1 w2) (h3 : Below w2.heap.size w2 w3) (hz : w3.heap.size = w2.heap.size + 1) (h4 : Only w3 w4 w2.heap.size) : Stage W w4 sb w2.heap.size := by
  have s1 := h1.size
  have s2 := h2.size
  have s4 := h4.size
  refine ⟨h4.os.trans (h3.os.trans (h2.os.trans h1.os)), h4.tape.trans (h3.tape.trans (h2.tape.trans h1.tape)), h4.output.trans (h3.output.trans (h2.output.trans h1.output)), by omega, by omega, fun k hk hne => ?_⟩
  rw [h4.block k (by omega), h3.block k (by omega), h2.block k (by omega), h1.block k hne]

theorem EvAt.stage {w w' : World} {sb nb b : Nat} {l : List Value} (h : EvAt w b l) (hs : Stage w w' sb nb) (hb : b < w.heap.size) (hne : b ≠ sb) : EvAt w' b l :=
  ⟨h.len, rangeAt_of_block h.all (hs.block b hb hne), there_of_block h.fr (hs.block b hb hne)⟩
theorem ChgAt.stage {w w' : World} {sb nb b : Nat} {c : Chg} (h : ChgAt w b c) (hs : Stage w w' sb nb) (hne : b ≠ sb) : ChgAt w' b c :=
  ⟨Nat.lt_of_lt_of_le h.lt (by have := hs.lo; have := hs.hi; omega), h.le, h.lv, rangeAt_of_block h.all (hs.block b h.lt hne), there_of_block h.fr (hs.block b h.lt hne)⟩
theorem Stage.below {w0 w w' : World} {sb nb : Nat} (hs : Stage w w' sb nb) (hb : Below w0.heap.size w0 w) (hsb : w0.heap.size ≤ sb) : Below w0.heap.size w0 w' :=
  hb.trans ⟨hs.os, hs.tape, hs.output, by have := hs.lo; have := hs.hi; omega, fun k hk => hs.block k (by have := hb.size; omega) (by omega)⟩

theorem ChgAt.setKind {w : World} {b : Nat} {c : Chg} (h : ChgAt w b c) (k : ByteArray) : ChgAt (w.setCell ⟨b, 0, none⟩ (.string k)) b { c with kind := k } := by
  refine ⟨by simpa [World.setCell] using h.lt, h.le, h.lv, fun j v hv => ?_, there_setCell h.fr _ _⟩
  rw [Nat.zero_add]
  cases j with
  | zero =>
    have : v = .string k := by
      have e : (Chg.cells { c with kind := k })[0]? = some (.string k) := rfl
      rw [e] at hv; cases hv; rfl
    subst this
    exact World.cell?_setCell_same _ _ _ h.c0
  | succ j =>
    rw [World.cell?_setCell_other _ _ _ _ (fun e => by cases e)]
    exact h.at (j + 1) v (by
      have e1 : ∀ d : Chg, d.cells[j + 1]? = (d.cells.drop 1)[j]? := fun d => by rw [List.getElem?_drop, Nat.add_comm]
      rw [e1] at hv ⊢
      exact hv)
theorem ChgAt.f0 {w : World} {b : Nat} {c : Chg} (h : ChgAt w b c) : w.frozen? ⟨b, 0, none⟩ = false := by
  have := (h.fr 0 (by omega)).2
  rwa [Nat.zero_add] at this


/-- 's.Kind = k', at the operation. -/
theorem wpList_store_kind {w : World} {ops : Array Oper} {rest : List Oper} {o : Oper} {a : Act} {Q : Exit → Act → World → Prop}
    (hg : o.guard = none) (x y : Operand) (hop : o.op = Op.store 32 x y) (b : Nat) (hx : a.eval x = .pointer (some ⟨b, 0, none⟩)) (k : ByteArray) (hy : a.eval y = .string k) (c : Chg) (h : ChgAt w b c)
    (hK : ∀ W, ChgAt W b { c with kind := k } → Only w W b → wpList Try.prog ops Q rest (a.put o.dst undef) W) : wpList Try.prog ops Q (o :: rest) a w := by
  refine wpList_plain hg fun K' hK' => ?_
  unfold Oper.wp
  have hrun : (Instr.storeAt 32 (.pointer (some ⟨b, 0, none⟩)) (.string k)).run Try.prog w = .ok () (w.setCell ⟨b, 0, none⟩ (.string k)) := by
    have hs : (sizeOf 32).run Try.prog w = .ok 1 w := by kernel_rfl
    have c0 := h.c0
    have f0 := h.f0
    simp [Instr.storeAt, Instr.sureAddr, storeVar, Value.cells, hs, storeCells, run_store_string, stored, c0, f0, Addr.add]
  simp [execOp, hop, hx, hy, hrun]
  exact hK' _ _ (hK _ (h.setKind k) (Only.setCell w ⟨b, 0, none⟩ (.string k)))

/-- A change stored whole. -/
theorem wpList_store_chg {w : World} {ops : Array Oper} {rest : List Oper} {o : Oper} {a : Act} {Q : Exit → Act → World → Prop}
    (hg : o.guard = none) (x y : Operand) (hop : o.op = Op.store 44 x y) (b : Nat) (hx : a.eval x = .pointer (some ⟨b, 0, none⟩)) (c : Chg) (hy : a.eval y = c.val) (le : c.eref.length = 32) (lv : c.vref.length = 32) (h1 : c.cells.toArray.all (·.oneCell') = true) (hb : b < w.heap.size) (ht : w.there b 0 78)
    (hK : ∀ W, ChgAt W b c → Only w W b → wpList Try.prog ops Q rest (a.put o.dst undef) W) : wpList Try.prog ops Q (o :: rest) a w := by
  refine wpList_store_mid hg 44 x y hop b 0 c.cells.toArray hx hy (by rw [List.size_toArray, Chg.length le lv]; exact ht) (by rw [info44, List.size_toArray, Chg.length le lv]) h1 ?_
  rw [List.toList_toArray]
  have ho := Only.setCells b c.cells 0 w
  exact hK _ ⟨by rw [ho.size]; exact hb, le, lv, World.rangeAt_setCells_same w b 0 _ (by rw [Chg.length le lv]; exact ht), World.there_setCells ht _ _ _⟩ ho

/-- An event stored whole. -/
theorem wpList_store_evt {w : World} {ops : Array Oper} {rest : List Oper} {o : Oper} {a : Act} {Q : Exit → Act → World → Prop}
    (hg : o.guard = none) (x y : Operand) (hop : o.op = Op.store 48 x y) (b : Nat) (hx : a.eval x = .pointer (some ⟨b, 0, none⟩)) (k : ByteArray) (pos : Int) (name er s p o' : ByteArray) (v : Int) (r : ByteArray) (pr : Option Addr) (hy : a.eval y = evt k pos name er s p o' v r pr) (ht : w.there b 0 10)
    (hK : ∀ W, EvAt W b (evl k pos name er s p o' v r pr) → Only w W b → wpList Try.prog ops Q rest (a.put o.dst undef) W) : wpList Try.prog ops Q (o :: rest) a w := by
  refine wpList_store_mid hg 48 x y hop b 0 (evl k pos name er s p o' v r pr).toArray hx hy (there_evl ht _ _ _ _ _ _ _ _ _ _) (info48s _ _ _ _ _ _ _ _ _ _) (evl_all _ _ _ _ _ _ _ _ _ _) ?_
  rw [List.toList_toArray]
  exact hK _ ⟨rfl, World.rangeAt_setCells_same w b 0 _ (there_evl' ht _ _ _ _ _ _ _ _ _ _), World.there_setCells ht _ _ _⟩ (Only.setCells b _ 0 w)

/-! ### equality -/
theorem some_info54 : ∃ j, Try.prog.info? 59 = some j := by
  have h : (Try.prog.info? 59).isSome = true := by kernel_rfl
  exact Option.isSome_iff_exists.1 h
theorem neq_ptr (q : Option Addr) (w : World) : (binOp .neq 33 (.pointer q) (.pointer q)).run Try.prog w = .ok (.bool false) w := by
  cases q with
  | none => rw [run_neq_pointer_nil w 33 none (by kernel_rfl)]; rfl
  | some a =>
    obtain ⟨j, hj⟩ := some_info54
    exact run_neq_ptr_same w a Try.underlying33 hj

theorem size5 (w : World) : (sizeOf 5).run Try.prog w = .ok 1 w := by kernel_rfl
theorem ref_cells {l : List Value} {xs : List Int} (h : IsRef l xs) : l = (Lib.bytesOf xs).map Extern.Stop.cell := by
  rw [h.eq]
  apply List.ext_getElem
  · simp [Lib.bytesOf_length]
  · intro i h1 h2
    have hi : i < 32 := by simpa [h.len] using h1
    obtain ⟨r0, r1⟩ := h.rng i hi
    have hg : xs.getD i 0 = xs[i]'(by rw [h.len]; exact hi) := by rw [List.getD_eq_getElem?_getD, List.getElem?_eq_getElem (by rw [h.len]; exact hi)]; rfl
    rw [hg] at r0 r1
    simp [Lib.bytesOf, Extern.Stop.cell]
    omega
theorem eql_ref {l m : List Value} {xs ys : List Int} (hl : IsRef l xs) (hm : IsRef m ys) (w : World) : (binOp .eql 23 (.agg l.toArray) (.agg m.toArray)).run Try.prog w = .ok (.bool (Lib.bytesOf xs == Lib.bytesOf ys)) w := by
  rw [ref_cells hl, ref_cells hm]
  exact run_eql_bytes w 23 5 32 Try.underlying23 Try.underlying5 size5 _ _ (by rw [Lib.bytesOf_length, hl.len]) (by rw [Lib.bytesOf_length, hm.len])

theorem digit_inj' : ∀ a : Fin 16, ∀ b : Fin 16, Hx.digit a.val = Hx.digit b.val → a = b := by decide
theorem digit_inj (a b : Nat) (ha : a < 16) (hb : b < 16) (h : Hx.digit a = Hx.digit b) : a = b := by
  have := digit_inj' ⟨a, ha⟩ ⟨b, hb⟩ h
  simpa using this
theorem encode_inj : ∀ l m : List UInt8, l.length = m.length → Hx.encode l = Hx.encode m → l = m
  | [], [], _, _ => rfl
  | [], _ :: _, h, _ => by simp at h
  | _ :: _, [], h, _ => by simp at h
  | a :: t, b :: u, hl, h => by
    rw [Hx.encode_cons, Hx.encode_cons] at h
    simp only [List.cons.injEq] at h
    obtain ⟨h1, h2, h3⟩ := h
    have ha := a.toNat_lt
    have hb := b.toNat_lt
    have e1 := digit_inj _ _ (by omega) (by omega) h1
    have e2 := digit_inj _ _ (by omega) (by omega) h2
    have e : a = b := UInt8.toNat_inj.1 (by omega)
    rw [e, encode_inj t u (by simpa using hl) h3]
theorem refText_list (xs : List Int) : (refText xs).toList = [115, 104, 97, 50, 53, 54, 58] ++ Hx.encode (Lib.bytesOf xs) := by
  unfold refText
  rw [ByteArray.toList_eq]
  simp
theorem refText_eq {xs ys : List Int} (hx : xs.length = 32) (hy : ys.length = 32) : ((refText xs).toList == (refText ys).toList) = (Lib.bytesOf xs == Lib.bytesOf ys) := by
  rw [Bool.eq_iff_iff, beq_iff_eq, beq_iff_eq, refText_list, refText_list]
  constructor
  · intro h
    exact encode_inj _ _ (by rw [Lib.bytesOf_length, Lib.bytesOf_length, hx, hy]) (List.append_cancel_left h)
  · intro h; rw [h]
theorem refText_ne (xs : List Int) : (refText xs).toList.isEmpty = false := by rw [refText_list]; rfl
end Go.Proofs.Qxb6625833a
