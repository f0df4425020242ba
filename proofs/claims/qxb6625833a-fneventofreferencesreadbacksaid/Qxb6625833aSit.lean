/-
  OUR OWN WORK. Seat b6625833a: THE WALK OF THE LAW FnEventOfReferencesReadBack (function 3).
-/
import Derived.Test.Qxb6625833aBack
import Derived.BigFrame
namespace Go.Proofs.Qxb6625833a
open Go.RowKit Go.Lib

theorem wpList_load_mid_want {ops : Array Oper} {rest : List Oper} {op : Oper} {a : Act} {w : World} {Q : Exit → Act → World → Prop} (hw : Region.wanted op (yielded ops a.tmps) = true) (ty : TypeId) (x : Operand) (ho : op.op = .load ty x)
    (b o : Nat) (hx : a.eval x = .pointer (some ⟨b, o, none⟩)) (cs : List Value) (d : TypeDesc) (hc : w.rangeAt b o cs)
    (hu : Try.prog.underlying ty = some d) (hd : d.isRow = true) (hi : (Try.prog.info? ty).map (·.size) = some cs.length)
    (h : wpList Try.prog ops Q rest (a.put op.dst (.agg cs.toArray)) w) : wpList Try.prog ops Q (op :: rest) a w :=
  BigFrame.wpList_want hw fun _ hK => wp_load_mid ty x ho b o hx cs d hc hu hd hi (hK _ _ h)

theorem kind_eq {k k' : ByteArray} (h : (k.toList == k'.data.toList) = true) : k = k' := by
  have h' : k.data.toList = k'.data.toList := by rw [← ByteArray.toList_eq]; exact eq_of_beq h
  have h2 : k.data = k'.data := Array.toList_inj.1 h'
  cases k; cases k'; exact congrArg ByteArray.mk h2

theorem kind_no {k K : ByteArray} (h : k = K) {L : List UInt8} (hl : (K.data.toList == L) = false) : (k.toList == L) = false := by
  rw [h, ByteArray.toList_eq]; exact hl
theorem ev_mk (c : Chg) (le : c.eref.length = 32) (lv : c.vref.length = 32) {K : ByteArray} (hk : c.kind = K) {A R S P O : ByteArray} {N : Int} {V : ByteArray} {p : Option Addr}
    (h : ∀ w : World, Calls Try.prog 16 #[c.val] w fun e w' => e = .returned (evt K c.pos A R S P O N V p) ∧ Below w.heap.size w w') (w : World) : Calls Try.prog 9 #[c.val] w fun e w' => e = .returned (evt c.kind c.pos A R S P O N V p) ∧ Below w.heap.size w w' := by
  subst hk
  exact zzevent_any c w le lv _ _ _ _ _ _ _ _ _ _ h

/-- What the event of a change holds, for each kind of change. -/
def Sit (xs ys : List Int) (q q' : Option Addr) (A R S P O : ByteArray) (N : Int) (V : ByteArray) (p : Option Addr) (k1 k2 k3 k4 k5 : Bool) : Prop :=
  (k1 = true ∧ k2 = false ∧ k3 = false ∧ k4 = false ∧ k5 = false ∧ R = { data := #[] } ∧ V = { data := #[] } ∧ p = none) ∨
  (k1 = false ∧ k2 = true ∧ k3 = false ∧ k4 = false ∧ k5 = false ∧ R = refText xs ∧ V = { data := #[] } ∧ p = q) ∨
  (k1 = false ∧ k2 = false ∧ k3 = true ∧ k4 = false ∧ k5 = false ∧ R = refText xs ∧ V = { data := #[] } ∧ p = none) ∨
  (k1 = false ∧ k2 = false ∧ k3 = false ∧ k4 = true ∧ k5 = false ∧ R = { data := #[] } ∧ V = refText ys ∧ p = q') ∨
  (k1 = false ∧ k2 = false ∧ k3 = false ∧ k4 = false ∧ k5 = true ∧ R = { data := #[] } ∧ V = { data := #[] } ∧ p = none) ∨
  (k1 = false ∧ k2 = false ∧ k3 = false ∧ k4 = false ∧ k5 = false ∧ R = { data := #[] } ∧ V = { data := #[] } ∧ p = none ∧ A = { data := #[] } ∧ S = { data := #[] } ∧ P = { data := #[] } ∧ O = { data := #[] } ∧ N = 0)

theorem ev_sit (c : Chg) (xs ys : List Int) (he : IsRef c.eref xs) (hv : IsRef c.vref ys) (q q' : Option Addr) :
    ∃ (A R S P O : ByteArray) (N : Int) (V : ByteArray) (p : Option Addr) (k1 k2 k3 k4 k5 : Bool),
      (∀ w : World, Calls Try.prog 9 #[Chg.val { c with ep := q, vp := q' }] w fun e w' => e = .returned (evt c.kind c.pos A R S P O N V p) ∧ Below w.heap.size w w') ∧
      (c.kind.toList == [110, 111, 100, 101, 95, 99, 114, 101, 97, 116, 101, 100]) = k1 ∧ (c.kind.toList == [101, 100, 103, 101, 95, 97, 100, 100, 101, 100]) = k2 ∧ (c.kind.toList == [101, 100, 103, 101, 95, 116, 111, 109, 98, 115, 116, 111, 110, 101, 100]) = k3 ∧ (c.kind.toList == [118, 101, 114, 115, 105, 111, 110, 95, 97, 100, 100, 101, 100]) = k4 ∧ (c.kind.toList == [118, 101, 114, 115, 105, 111, 110, 95, 116, 111, 109, 98, 115, 116, 111, 110, 101, 100]) = k5 ∧
      Sit xs ys q q' A R S P O N V p k1 k2 k3 k4 k5 := by
  have le := he.length
  have lv := hv.length
  by_cases h1 : (c.kind.toList == [110, 111, 100, 101, 95, 99, 114, 101, 97, 116, 101, 100]) = true
  · have hk : c.kind = kNode := kind_eq h1
    exact ⟨c.name, emp, emp, emp, emp, 0, emp, none, true, false, false, false, false, ev_mk { c with ep := q, vp := q' } le lv hk (fun w => event_node { c with ep := q, vp := q' } w le lv hk), h1, kind_no hk rfl, kind_no hk rfl, kind_no hk rfl, kind_no hk rfl, .inl ⟨rfl, rfl, rfl, rfl, rfl, rfl, rfl, rfl⟩⟩
  have g1 := (Bool.not_eq_true _).mp h1
  by_cases h2 : (c.kind.toList == [101, 100, 103, 101, 95, 97, 100, 100, 101, 100]) = true
  · have hk : c.kind = kEdge := kind_eq h2
    exact ⟨emp, refText xs, c.subj, c.pred, c.obj, 0, emp, q, false, true, false, false, false, ev_mk { c with ep := q, vp := q' } le lv hk (fun w => event_edge { c with ep := q, vp := q' } xs ys w he hv hk), kind_no hk rfl, h2, kind_no hk rfl, kind_no hk rfl, kind_no hk rfl, .inr (.inl ⟨rfl, rfl, rfl, rfl, rfl, rfl, rfl, rfl⟩)⟩
  have g2 := (Bool.not_eq_true _).mp h2
  by_cases h3 : (c.kind.toList == [101, 100, 103, 101, 95, 116, 111, 109, 98, 115, 116, 111, 110, 101, 100]) = true
  · have hk : c.kind = kEdgeT := kind_eq h3
    exact ⟨emp, refText xs, emp, emp, emp, 0, emp, none, false, false, true, false, false, ev_mk { c with ep := q, vp := q' } le lv hk (fun w => event_edgeT { c with ep := q, vp := q' } xs ys w he hv hk), kind_no hk rfl, kind_no hk rfl, h3, kind_no hk rfl, kind_no hk rfl, .inr (.inr (.inl ⟨rfl, rfl, rfl, rfl, rfl, rfl, rfl, rfl⟩))⟩
  have g3 := (Bool.not_eq_true _).mp h3
  by_cases h4 : (c.kind.toList == [118, 101, 114, 115, 105, 111, 110, 95, 97, 100, 100, 101, 100]) = true
  · have hk : c.kind = kVer := kind_eq h4
    exact ⟨c.vname, emp, emp, emp, emp, c.num, refText ys, q', false, false, false, true, false, ev_mk { c with ep := q, vp := q' } le lv hk (fun w => event_ver { c with ep := q, vp := q' } xs ys w he hv hk), kind_no hk rfl, kind_no hk rfl, kind_no hk rfl, h4, kind_no hk rfl, .inr (.inr (.inr (.inl ⟨rfl, rfl, rfl, rfl, rfl, rfl, rfl, rfl⟩)))⟩
  have g4 := (Bool.not_eq_true _).mp h4
  by_cases h5 : (c.kind.toList == [118, 101, 114, 115, 105, 111, 110, 95, 116, 111, 109, 98, 115, 116, 111, 110, 101, 100]) = true
  · have hk : c.kind = kVerT := kind_eq h5
    exact ⟨c.vname, emp, emp, emp, emp, c.num, emp, none, false, false, false, false, true, ev_mk { c with ep := q, vp := q' } le lv hk (fun w => event_verT { c with ep := q, vp := q' } xs ys w he hv hk), kind_no hk rfl, kind_no hk rfl, kind_no hk rfl, kind_no hk rfl, h5, .inr (.inr (.inr (.inr (.inl ⟨rfl, rfl, rfl, rfl, rfl, rfl, rfl, rfl⟩))))⟩
  have g5 := (Bool.not_eq_true _).mp h5
  exact ⟨emp, emp, emp, emp, emp, 0, emp, none, false, false, false, false, false, ev_mk { c with ep := q, vp := q' } le lv rfl (fun w => event_other { c with ep := q, vp := q' } w le lv g1 g2 g3 g4 g5), g1, g2, g3, g4, g5, .inr (.inr (.inr (.inr (.inr ⟨rfl, rfl, rfl, rfl, rfl, rfl, rfl, rfl, rfl, rfl, rfl, rfl, rfl⟩))))⟩
end Go.Proofs.Qxb6625833a
