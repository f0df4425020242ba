/-
  OUR OWN WORK. Seat b6625833a: THE WORDS OF THE CONTRACTS (a change in memory, a provenance that can be read) AND THE FIRST CONTRACTS (functions 12, 13, 6).
-/
import Derived.Test.Qxb6625833aRows
import Derived.WalkKit
import Derived.WalkSpells
import Derived.WalkLawsBesides
import Derived.Deep.MidRow
import Derived.Deep.RegionHeld3
import Derived.Deep.QuietTactic
import Derived.BigQuiet
namespace Go.Proofs.Qxb6625833a
open Go.RowKit

set_option maxHeartbeats 400000 in
theorem step_any (n l : Int) (w : World) : Calls Try.prog 12 #[.int .i64 n, .int .i64 l] w fun e w' => (∃ m, e = .returned (.int .i64 m)) ∧ w' = w := by
  by_cases h1 : 1048576 < n
  · go_enter Try.func12, Try.ntmps12
    go_wp2
    go_ret
    exact ⟨⟨_, rfl⟩, rfl⟩
  by_cases h2 : 1048576 < l
  · go_enter Try.func12, Try.ntmps12
    go_wp2
    go_ret
    exact ⟨⟨_, rfl⟩, rfl⟩
  go_enter Try.func12, Try.ntmps12
  go_wp2
  go_ret
  exact ⟨⟨_, rfl⟩, rfl⟩

/-- A pointer that can be read as *ZProv: nil, or it leads to seven cells. -/
structure Prov (w : World) (b o : Nat) (s1 s2 s3 : ByteArray) (n1 n2 : Int) (cf lc : Option Addr) : Prop where
  c0 : w.cell? ⟨b, o, none⟩ = some (.string s1)
  c1 : w.cell? ⟨b, o + 1, none⟩ = some (.string s2)
  c2 : w.cell? ⟨b, o + 2, none⟩ = some (.string s3)
  c3 : w.cell? ⟨b, o + 3, none⟩ = some (.int .i64 n1)
  c4 : w.cell? ⟨b, o + 4, none⟩ = some (.int .i64 n2)
  c5 : w.cell? ⟨b, o + 5, none⟩ = some (.pointer cf)
  c6 : w.cell? ⟨b, o + 6, none⟩ = some (.pointer lc)

set_option maxHeartbeats 400000 in
theorem provBytes_nil (n : Int) (w : World) : Calls Try.prog 13 #[.int .i64 n, .pointer none] w fun e w' => (∃ m, e = .returned (.int .i64 m)) ∧ w' = w := by
  go_enter Try.func13, Try.ntmps13
  go_wp2
  go_ret
  exact ⟨⟨_, rfl⟩, rfl⟩

set_option maxHeartbeats 400000 in
theorem provBytes_a (n : Int) (b o : Nat) (s1 s2 s3 : ByteArray) (n1 n2 : Int) (cf : Option Addr) (w : World) (h : Prov w b o s1 s2 s3 n1 n2 cf none) :
    Calls Try.prog 13 #[.int .i64 n, .pointer (some ⟨b, o, none⟩)] w fun e w' => (∃ m, e = .returned (.int .i64 m)) ∧ w' = w := by
  obtain ⟨c0, c1, c2, c3, c4, c5, c6⟩ := h
  go_enter Try.func13, Try.ntmps13
  go_wp2_with (go_at_call 12; refine (step_any _ _ _).mono ?_; rintro e w' ⟨⟨m, rfl⟩, hw⟩; subst w')
  go_ret
  exact ⟨⟨_, rfl⟩, rfl⟩

set_option maxHeartbeats 400000 in
theorem provBytes_b (n : Int) (b o : Nat) (s1 s2 s3 : ByteArray) (n1 n2 : Int) (cf : Option Addr) (lb lo : Nat) (s4 : ByteArray) (w : World) (h : Prov w b o s1 s2 s3 n1 n2 cf (some ⟨lb, lo, none⟩)) (hl : w.cell? ⟨lb, lo, none⟩ = some (.string s4)) :
    Calls Try.prog 13 #[.int .i64 n, .pointer (some ⟨b, o, none⟩)] w fun e w' => (∃ m, e = .returned (.int .i64 m)) ∧ w' = w := by
  obtain ⟨c0, c1, c2, c3, c4, c5, c6⟩ := h
  go_enter Try.func13, Try.ntmps13
  go_wp2_with (go_at_call 12; refine (step_any _ _ _).mono ?_; rintro e w' ⟨⟨m, rfl⟩, hw⟩; subst w')
  go_ret
  exact ⟨⟨_, rfl⟩, rfl⟩

def LicOk (w : World) (lc : Option Addr) : Prop := lc = none ∨ ∃ b o s, lc = some ⟨b, o, none⟩ ∧ w.cell? ⟨b, o, none⟩ = some (.string s)
def CfOk (w : World) (cf : Option Addr) : Prop := cf = none ∨ ∃ b o k x, cf = some ⟨b, o, none⟩ ∧ w.cell? ⟨b, o, none⟩ = some (.float k x)
/-- p can be read as a *ZProv. -/
def ProvAt (w : World) (p : Option Addr) : Prop := p = none ∨ ∃ b o s1 s2 s3 n1 n2 cf lc, p = some ⟨b, o, none⟩ ∧ Prov w b o s1 s2 s3 n1 n2 cf lc ∧ CfOk w cf ∧ LicOk w lc

theorem cell_below {w w' : World} (hb : Below w.heap.size w w') {a : Addr} {v : Value} (h : w.cell? a = some v) : w'.cell? a = some v :=
  (hb.cell (World.block_lt_of_cell? w a h)).trans h

theorem Prov.below {w w' : World} {b o : Nat} {s1 s2 s3 : ByteArray} {n1 n2 : Int} {cf lc : Option Addr} (h : Prov w b o s1 s2 s3 n1 n2 cf lc) (hb : Below w.heap.size w w') : Prov w' b o s1 s2 s3 n1 n2 cf lc :=
  ⟨cell_below hb h.c0, cell_below hb h.c1, cell_below hb h.c2, cell_below hb h.c3, cell_below hb h.c4, cell_below hb h.c5, cell_below hb h.c6⟩
theorem ProvAt.below {w w' : World} {p : Option Addr} (h : ProvAt w p) (hb : Below w.heap.size w w') : ProvAt w' p := by
  rcases h with h | ⟨b, o, s1, s2, s3, n1, n2, cf, lc, e, h1, h2, h3⟩
  · exact .inl h
  · refine .inr ⟨b, o, s1, s2, s3, n1, n2, cf, lc, e, h1.below hb, ?_, ?_⟩
    · rcases h2 with h2 | ⟨b', o', k, x, e', h2⟩
      · exact .inl h2
      · exact .inr ⟨b', o', k, x, e', cell_below hb h2⟩
    · rcases h3 with h3 | ⟨b', o', s, e', h3⟩
      · exact .inl h3
      · exact .inr ⟨b', o', s, e', cell_below hb h3⟩

theorem provBytes_any (n : Int) (p : Option Addr) (w : World) (h : ProvAt w p) : Calls Try.prog 13 #[.int .i64 n, .pointer p] w fun e w' => (∃ m, e = .returned (.int .i64 m)) ∧ w' = w := by
  rcases h with rfl | ⟨b, o, s1, s2, s3, n1, n2, cf, lc, rfl, h1, h2, h3⟩
  · exact provBytes_nil n w
  · rcases h3 with rfl | ⟨lb, lo, s4, rfl, h3⟩
    · exact provBytes_a n b o s1 s2 s3 n1 n2 cf w h1
    · exact provBytes_b n b o s1 s2 s3 n1 n2 cf lb lo s4 w h1 h3

/-- The fields of a change (ZChange and store.Change lie alike in memory). -/
structure Chg where
  kind : ByteArray
  pos : Int
  name : ByteArray
  subj : ByteArray
  pred : ByteArray
  obj : ByteArray
  ep : Option Addr
  eref : List Value
  epos : Int
  etomb : Int
  vname : ByteArray
  vref : List Value
  vp : Option Addr
  num : Int
  vpos : Int
  vtomb : Int

/-- Its cells. -/
def Chg.cells (c : Chg) : List Value :=
  [.string c.kind, .int .i64 c.pos, .string c.name, .string c.subj, .string c.pred, .string c.obj, .pointer c.ep] ++ c.eref ++
  [.int .i64 c.epos, .int .i64 c.etomb, .string c.vname] ++ c.vref ++ [.pointer c.vp, .int .i64 c.num, .int .i64 c.vpos, .int .i64 c.vtomb]
def Chg.val (c : Chg) : Value := .agg c.cells.toArray

/-- In block b of w lies the change c. -/
structure ChgAt (w : World) (b : Nat) (c : Chg) : Prop where
  lt : b < w.heap.size
  le : c.eref.length = 32
  lv : c.vref.length = 32
  all : w.rangeAt b 0 c.cells
  fr : w.there b 0 78

theorem Chg.length {c : Chg} (le : c.eref.length = 32) (lv : c.vref.length = 32) : c.cells.length = 78 := by simp [Chg.cells, le, lv]

theorem ChgAt.at {w : World} {b : Nat} {c : Chg} (h : ChgAt w b c) (i : Nat) (v : Value) (hi : c.cells[i]? = some v) : w.cell? ⟨b, i, none⟩ = some v := by
  have := h.all i v hi
  rwa [Nat.zero_add] at this
theorem ChgAt.c0 {w : World} {b : Nat} {c : Chg} (h : ChgAt w b c) : w.cell? ⟨b, 0, none⟩ = some (.string c.kind) := h.at 0 _ rfl
theorem ChgAt.c1 {w : World} {b : Nat} {c : Chg} (h : ChgAt w b c) : w.cell? ⟨b, 1, none⟩ = some (.int .i64 c.pos) := h.at 1 _ rfl
theorem ChgAt.c2 {w : World} {b : Nat} {c : Chg} (h : ChgAt w b c) : w.cell? ⟨b, 2, none⟩ = some (.string c.name) := h.at 2 _ rfl
theorem ChgAt.c3 {w : World} {b : Nat} {c : Chg} (h : ChgAt w b c) : w.cell? ⟨b, 3, none⟩ = some (.string c.subj) := h.at 3 _ rfl
theorem ChgAt.c4 {w : World} {b : Nat} {c : Chg} (h : ChgAt w b c) : w.cell? ⟨b, 4, none⟩ = some (.string c.pred) := h.at 4 _ rfl
theorem ChgAt.c5 {w : World} {b : Nat} {c : Chg} (h : ChgAt w b c) : w.cell? ⟨b, 5, none⟩ = some (.string c.obj) := h.at 5 _ rfl
theorem ChgAt.c6 {w : World} {b : Nat} {c : Chg} (h : ChgAt w b c) : w.cell? ⟨b, 6, none⟩ = some (.pointer c.ep) := h.at 6 _ rfl
theorem Chg.get_ref {c : Chg} (le : c.eref.length = 32) (j : Nat) (v : Value) (h : c.eref[j]? = some v) : c.cells[7 + j]? = some v := by
  have hj : j < 32 := by rw [← le]; exact (List.getElem?_eq_some_iff.1 h).1
  unfold Chg.cells
  rw [List.append_assoc, List.append_assoc, List.append_assoc, List.getElem?_append_right (by simp), List.getElem?_append_left (by simp; omega)]
  simpa using h
theorem Chg.get_mid {c : Chg} (le : c.eref.length = 32) (j : Nat) (hj : j < 3) : c.cells[39 + j]? = [.int .i64 c.epos, .int .i64 c.etomb, .string c.vname][j]? := by
  unfold Chg.cells
  rw [List.append_assoc, List.append_assoc, List.append_assoc, List.getElem?_append_right (by simp; omega), List.getElem?_append_right (by simp [le]; omega), List.getElem?_append_left (by simp [le]; omega)]
  congr 1
  simp [le]
  omega
theorem Chg.get_vref {c : Chg} (le : c.eref.length = 32) (lv : c.vref.length = 32) (j : Nat) (v : Value) (h : c.vref[j]? = some v) : c.cells[42 + j]? = some v := by
  have hj : j < 32 := by rw [← lv]; exact (List.getElem?_eq_some_iff.1 h).1
  unfold Chg.cells
  rw [List.append_assoc, List.getElem?_append_right (by simp [le]), List.getElem?_append_left (by simp [le]; omega), ← h]
  congr 1
  simp [le]
theorem Chg.get_end {c : Chg} (le : c.eref.length = 32) (lv : c.vref.length = 32) (j : Nat) : c.cells[74 + j]? = [.pointer c.vp, .int .i64 c.num, .int .i64 c.vpos, .int .i64 c.vtomb][j]? := by
  unfold Chg.cells
  rw [List.getElem?_append_right (by simp [le, lv])]
  congr 1
  simp [le, lv]
theorem ChgAt.ref {w : World} {b : Nat} {c : Chg} (h : ChgAt w b c) : w.rangeAt b 7 c.eref := fun j v hv => h.at _ _ (Chg.get_ref h.le j v hv)
theorem ChgAt.c39 {w : World} {b : Nat} {c : Chg} (h : ChgAt w b c) : w.cell? ⟨b, 39, none⟩ = some (.int .i64 c.epos) := h.at _ _ (Chg.get_mid h.le 0 (by omega))
theorem ChgAt.c40 {w : World} {b : Nat} {c : Chg} (h : ChgAt w b c) : w.cell? ⟨b, 40, none⟩ = some (.int .i64 c.etomb) := h.at _ _ (Chg.get_mid h.le 1 (by omega))
theorem ChgAt.c41 {w : World} {b : Nat} {c : Chg} (h : ChgAt w b c) : w.cell? ⟨b, 41, none⟩ = some (.string c.vname) := h.at _ _ (Chg.get_mid h.le 2 (by omega))
theorem ChgAt.vrf {w : World} {b : Nat} {c : Chg} (h : ChgAt w b c) : w.rangeAt b 42 c.vref := fun j v hv => h.at _ _ (Chg.get_vref h.le h.lv j v hv)
theorem ChgAt.c74 {w : World} {b : Nat} {c : Chg} (h : ChgAt w b c) : w.cell? ⟨b, 74, none⟩ = some (.pointer c.vp) := h.at _ _ (Chg.get_end h.le h.lv 0)
theorem ChgAt.c75 {w : World} {b : Nat} {c : Chg} (h : ChgAt w b c) : w.cell? ⟨b, 75, none⟩ = some (.int .i64 c.num) := h.at _ _ (Chg.get_end h.le h.lv 1)
theorem ChgAt.c76 {w : World} {b : Nat} {c : Chg} (h : ChgAt w b c) : w.cell? ⟨b, 76, none⟩ = some (.int .i64 c.vpos) := h.at _ _ (Chg.get_end h.le h.lv 2)
theorem ChgAt.c77 {w : World} {b : Nat} {c : Chg} (h : ChgAt w b c) : w.cell? ⟨b, 77, none⟩ = some (.int .i64 c.vtomb) := h.at _ _ (Chg.get_end h.le h.lv 3)

theorem ChgAt.boxed (w : World) (c : Chg) (t : TypeId) (le : c.eref.length = 32) (lv : c.vref.length = 32) : ChgAt (w.alloc (.cells c.cells.toArray t)) w.heap.size c := by
  refine ⟨by simp, le, lv, fun j v hv => ?_, fun j hj => ⟨?_, ?_⟩⟩
  · rw [World.cell?_alloc_new]; simpa using hv
  · rw [World.cell?_alloc_new]; simp [Chg.length le lv, hj]
  · exact World.frozen?_alloc_new _ _ _ _
theorem ChgAt.below {w w' : World} {b : Nat} {c : Chg} (h : ChgAt w b c) (hb : Below w.heap.size w w') : ChgAt w' b c :=
  ⟨Nat.lt_of_lt_of_le h.lt hb.size, h.le, h.lv, fun j v hv => cell_below hb (h.all j v hv), fun j hj => by
    obtain ⟨h1, h2⟩ := h.fr j hj
    rw [hb.cell (by exact h.lt), hb.frozen (by exact h.lt)]
    exact ⟨h1, h2⟩⟩


/-- A change laid into a block of its own. -/
theorem wpList_box {w : World} {ops : Array Oper} {rest : List Oper} {o : Oper} {a : Act} {Q : Exit → Act → World → Prop}
    (hg : o.guard = none) (T : TypeId) (x : Operand) (hop : o.op = Op.box T x) (c : Chg) (hx : a.eval x = c.val) (le : c.eref.length = 32) (lv : c.vref.length = 32)
    (hK : ∀ W, ChgAt W w.heap.size c → Below w.heap.size w W → W.heap.size = w.heap.size + 1 → wpList Try.prog ops Q rest (a.put o.dst (.pointer (some ⟨w.heap.size, 0, none⟩))) W) :
    wpList Try.prog ops Q (o :: rest) a w := by
  refine wpList_plain hg fun K' hK' => ?_
  unfold Oper.wp
  have hrun : (Instr.box T c.val).run Try.prog w = .ok (.pointer (some ⟨w.heap.size, 0, none⟩)) (w.alloc (.cells c.cells.toArray T)) := rfl
  simp [execOp, hop, hx, hrun, Result.andThen]
  exact hK' _ _ (hK _ (ChgAt.boxed w c T le lv) ((Below.refl _ _).alloc (Nat.le_refl _) _) (by simp))

theorem run_load_chg {w : World} {b : Nat} {c : Chg} (h : ChgAt w b c) (T : TypeId) (d : TypeDesc) (hu : Try.prog.underlying T = some d) (hd : d.isRow = true) (hi : (Try.prog.info? T).map (·.size) = some 78) :
    (Instr.loadAt T (.pointer (some ⟨b, 0, none⟩))).run Try.prog w = .ok c.val w :=
  run_loadAt_mid w b 0 T c.cells d h.all hu hd (by rw [Chg.length h.le h.lv]; exact hi)

theorem info29 : (Try.prog.info? 29).map (·.size) = some 78 := by kernel_rfl
theorem info44 : (Try.prog.info? 44).map (·.size) = some 78 := by kernel_rfl

/-- The whole change read out of its block. -/
theorem wpList_load_chg {w : World} {ops : Array Oper} {rest : List Oper} {o : Oper} {a : Act} {Q : Exit → Act → World → Prop}
    (hg : o.guard = none) (T : TypeId) (x : Operand) (hop : o.op = Op.load T x) (hT : T = 29 ∨ T = 44) (b : Nat) (hx : a.eval x = .pointer (some ⟨b, 0, none⟩)) (c : Chg) (h : ChgAt w b c)
    (hK : wpList Try.prog ops Q rest (a.put o.dst c.val) w) : wpList Try.prog ops Q (o :: rest) a w := by
  refine wpList_plain hg fun K' hK' => ?_
  unfold Oper.wp
  have hrun : (Instr.loadAt T (.pointer (some ⟨b, 0, none⟩))).run Try.prog w = .ok c.val w := by
    rcases hT with rfl | rfl
    · exact run_load_chg h 29 _ Try.underlying29 rfl info29
    · exact run_load_chg h 44 _ Try.underlying44 rfl info44
  simp [execOp, hop, hx, hrun, Result.andThen]
  exact hK' _ _ hK

set_option maxHeartbeats 800000 in
theorem changeBytes_any (c : Chg) (w : World) (le : c.eref.length = 32) (lv : c.vref.length = 32) (h1 : ProvAt w c.ep) (h2 : ProvAt w c.vp) :
    Calls Try.prog 6 #[c.val] w fun e w' => (∃ m, e = .returned (.int .i64 m)) ∧ Below w.heap.size w w' := by
  go_enter Try.func6, Try.ntmps6
  go_wp2_with (refine wpList_box rfl 29 _ rfl c rfl le lv ?_)
  intro W hW hb _
  have d0 := hW.c0
  have d2 := hW.c2
  have d3 := hW.c3
  have d4 := hW.c4
  have d5 := hW.c5
  have d6 := hW.c6
  have d41 := hW.c41
  have d74 := hW.c74
  have p1 := h1.below hb
  have p2 := h2.below hb
  go_wp2_with (first
    | (go_at_call 12; refine (step_any _ _ _).mono ?_; rintro e w' ⟨⟨m, rfl⟩, hw⟩; subst w')
    | (go_at_call_of 13 (Value.pointer c.ep); refine (provBytes_any _ _ _ p1).mono ?_; rintro e w' ⟨⟨m, rfl⟩, hw⟩; subst w')
    | (go_at_call_of 13 (Value.pointer c.vp); refine (provBytes_any _ _ _ p2).mono ?_; rintro e w' ⟨⟨m, rfl⟩, hw⟩; subst w'))
  go_ret
  exact ⟨⟨_, rfl⟩, hb⟩
end Go.Proofs.Qxb6625833a
