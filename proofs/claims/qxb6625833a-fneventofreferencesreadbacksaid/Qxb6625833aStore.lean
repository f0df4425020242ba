/-
  OUR OWN WORK. Seat b6625833a: THE CONTRACT OF zzToStore (function 7): ONE region of 53 operations that draws its order and holds two calls; walked by the base's own moves.
-/
import Derived.Test.Qxb6625833aProv
import Derived.Test.Qxb6625833aHex
namespace Go.Proofs.Qxb6625833a
open Go.RowKit

theorem list32 (l : List Value) (h : l.length = 32) : l = (List.range 32).map (fun i => l.getD i undef) := by
  apply List.ext_getElem
  · simp [h]
  · intro i h1 h2
    simp [List.getElem?_eq_getElem h1]

/-- store.RecordedEdge's cells; store.Version's; store.RecordedVersion's. -/
def edgeCells (s p o : ByteArray) (q : Option Addr) (ref : List Value) (n1 n2 : Int) : List Value := [Value.string s, .string p, .string o, .pointer q] ++ ref ++ [.int .i64 n1, .int .i64 n2]
def verCells0 (v : ByteArray) (ref : List Value) (q : Option Addr) : List Value := [Value.string v] ++ ref ++ [.pointer q]
def verCells (v : ByteArray) (ref : List Value) (q : Option Addr) (n3 n4 n5 : Int) : List Value := [Value.string v] ++ ref ++ [.pointer q, .int .i64 n3, .int .i64 n4, .int .i64 n5]

theorem b38 (f : Nat → Value) (s p o : ByteArray) (q : Option Addr) (n1 n2 : Int) (w : World) :
    (Instr.build 38 #[(0, .agg #[.string s, .string p, .string o, .pointer q]), (1, .agg ((List.range 32).map f).toArray), (2, .int .i64 n1), (3, .int .i64 n2)]).run Try.prog w =
      .ok (.agg (edgeCells s p o q ((List.range 32).map f) n1 n2).toArray) w := by kernel_rfl
theorem b40 (f : Nat → Value) (s : ByteArray) (q : Option Addr) (w : World) :
    (Instr.build 40 #[(0, .string s), (1, .agg ((List.range 32).map f).toArray), (2, .pointer q)]).run Try.prog w =
      .ok (.agg (verCells0 s ((List.range 32).map f) q).toArray) w := by kernel_rfl
theorem b42 (f : Nat → Value) (s : ByteArray) (q : Option Addr) (n1 n2 n3 : Int) (w : World) :
    (Instr.build 42 #[(0, .agg (verCells0 s ((List.range 32).map f) q).toArray), (1, .int .i64 n1), (2, .int .i64 n2), (3, .int .i64 n3)]).run Try.prog w =
      .ok (.agg (verCells s ((List.range 32).map f) q n1 n2 n3).toArray) w := by kernel_rfl
theorem b44 (f g : Nat → Value) (k n s p o v : ByteArray) (q q' : Option Addr) (n0 n1 n2 n3 n4 n5 : Int) (w : World) :
    (Instr.build 44 #[(0, .string k), (1, .int .i64 n0), (2, .string n), (3, .agg (edgeCells s p o q ((List.range 32).map f) n1 n2).toArray), (4, .agg (verCells v ((List.range 32).map g) q' n3 n4 n5).toArray)]).run Try.prog w =
      .ok (Chg.val ⟨k, n0, n, s, p, o, q, (List.range 32).map f, n1, n2, v, (List.range 32).map g, q', n3, n4, n5⟩) w := by kernel_rfl

/-- What a build of a struct comes to (behind a name: the walk must not lay the build open, part by part). -/
def outB (P : Program) (T : TypeId) (parts : Array (Nat × Value)) (w : World) : Result Next := (Sem.run P (Instr.build T parts) w).andThen (fun v w => .ok (.value v) w)
/-- What a store of many cells comes to. -/
def outS (P : Program) (T : TypeId) (x y : Value) (w : World) : Result Next := (Sem.run P (Instr.storeAt T x y) w).andThen (fun _ w => .ok .skip w)
section
variable (ρ : Operand → Value) (d : Option Tmp) (parts : Array (Nat × Operand)) (x y : Operand) (ty : TypeId) (pos : String) (af : Array Edge) (g : Option (Nat × Bool)) (w : World)
theorem exec_b38 : Sem.run Try.prog (execOp ρ { dst := d, op := Op.build 38 parts, type := ty, pos := pos, after := af, guard := g }) w = outB Try.prog 38 (parts.map fun p => (p.1, ρ p.2)) w := by simp [execOp, outB]
theorem exec_b40 : Sem.run Try.prog (execOp ρ { dst := d, op := Op.build 40 parts, type := ty, pos := pos, after := af, guard := g }) w = outB Try.prog 40 (parts.map fun p => (p.1, ρ p.2)) w := by simp [execOp, outB]
theorem exec_b42 : Sem.run Try.prog (execOp ρ { dst := d, op := Op.build 42 parts, type := ty, pos := pos, after := af, guard := g }) w = outB Try.prog 42 (parts.map fun p => (p.1, ρ p.2)) w := by simp [execOp, outB]
theorem exec_b44 : Sem.run Try.prog (execOp ρ { dst := d, op := Op.build 44 parts, type := ty, pos := pos, after := af, guard := g }) w = outB Try.prog 44 (parts.map fun p => (p.1, ρ p.2)) w := by simp [execOp, outB]
theorem exec_s44 : Sem.run Try.prog (execOp ρ { dst := d, op := Op.store 44 x y, type := ty, pos := pos, after := af, guard := g }) w = outS Try.prog 44 (ρ x) (ρ y) w := by simp [execOp, outS]
end
theorem out_b38 (s p o : ByteArray) (q : Option Addr) (ref : List Value) (n1 n2 : Int) (w : World) (h : ref.length = 32) :
    outB Try.prog 38 #[(0, .agg #[.string s, .string p, .string o, .pointer q]), (1, .agg ref.toArray), (2, .int .i64 n1), (3, .int .i64 n2)] w = .ok (.value (.agg (edgeCells s p o q ref n1 n2).toArray)) w := by
  rw [list32 ref h]; unfold outB; rw [b38]; rfl
theorem out_b40 (s : ByteArray) (ref : List Value) (q : Option Addr) (w : World) (h : ref.length = 32) :
    outB Try.prog 40 #[(0, .string s), (1, .agg ref.toArray), (2, .pointer q)] w = .ok (.value (.agg (verCells0 s ref q).toArray)) w := by
  rw [list32 ref h]; unfold outB; rw [b40]; rfl
theorem out_b42 (s : ByteArray) (ref : List Value) (q : Option Addr) (n1 n2 n3 : Int) (w : World) (h : ref.length = 32) :
    outB Try.prog 42 #[(0, .agg (verCells0 s ref q).toArray), (1, .int .i64 n1), (2, .int .i64 n2), (3, .int .i64 n3)] w = .ok (.value (.agg (verCells s ref q n1 n2 n3).toArray)) w := by
  rw [list32 ref h]; unfold outB; rw [b42]; rfl
theorem out_b44 (k n s p o v : ByteArray) (q q' : Option Addr) (ref ref' : List Value) (n0 n1 n2 n3 n4 n5 : Int) (w : World) (h : ref.length = 32) (h' : ref'.length = 32) :
    outB Try.prog 44 #[(0, .string k), (1, .int .i64 n0), (2, .string n), (3, .agg (edgeCells s p o q ref n1 n2).toArray), (4, .agg (verCells v ref' q' n3 n4 n5).toArray)] w =
      .ok (.value (Chg.val ⟨k, n0, n, s, p, o, q, ref, n1, n2, v, ref', q', n3, n4, n5⟩)) w := by
  rw [list32 ref h, list32 ref' h']; unfold outB; rw [b44]; rfl

/-- Each cell of a change is one cell. -/
theorem Chg.one {c : Chg} {xs ys : List Int} (he : IsRef c.eref xs) (hv : IsRef c.vref ys) : c.cells.toArray.all (·.oneCell') = true := by
  apply all_oneCell_toArray
  unfold Chg.cells
  rw [he.eq, hv.eq]
  simp only [List.mem_append, List.mem_cons, List.mem_map, List.not_mem_nil, or_false]
  rintro v ((((h | ⟨x, _, rfl⟩) | h) | ⟨x, _, rfl⟩) | h)
  · rcases h with rfl | rfl | rfl | rfl | rfl | rfl | rfl <;> rfl
  · rfl
  · rcases h with rfl | rfl | rfl <;> rfl
  · rfl
  · rcases h with rfl | rfl | rfl | rfl <;> rfl

theorem out_s44 (c : Chg) (b : Nat) (w : World) (le : c.eref.length = 32) (lv : c.vref.length = 32) (h1 : c.cells.toArray.all (·.oneCell') = true) (ht : w.there b 0 78) :
    outS Try.prog 44 (.pointer (some ⟨b, 0, none⟩)) c.val w = .ok .skip (w.setCells b 0 c.cells) := by
  unfold outS Chg.val
  rw [run_storeAt_mid w b 0 44 c.cells.toArray (by simpa [Chg.length le lv] using ht) (by rw [info44]; simp [Chg.length le lv]) h1]
  simp

/-- The zero value's cells. -/
def zeroOf (P : Program) (T : TypeId) : Array Value := match (zeroValue T).run P default with | .ok v _ => v.cells | _ => #[]
theorem zeroSize44 : (zeroOf Try.prog 44).size = 78 := by kernel_rfl
theorem zeroSize38 : (zeroOf Try.prog 38).size = 38 := by kernel_rfl
theorem zeroSize42 : (zeroOf Try.prog 42).size = 37 := by kernel_rfl
theorem runAlloc44 (w : World) : (Instr.alloc 44 true (.tuple #[])).run Try.prog w = .ok (.pointer (some ⟨w.heap.size, 0, none⟩)) (w.alloc (.cells (zeroOf Try.prog 44) 44)) := by kernel_rfl
theorem runAlloc38 (w : World) : (Instr.alloc 38 true (.tuple #[])).run Try.prog w = .ok (.pointer (some ⟨w.heap.size, 0, none⟩)) (w.alloc (.cells (zeroOf Try.prog 38) 38)) := by kernel_rfl
theorem runAlloc42 (w : World) : (Instr.alloc 42 true (.tuple #[])).run Try.prog w = .ok (.pointer (some ⟨w.heap.size, 0, none⟩)) (w.alloc (.cells (zeroOf Try.prog 42) 42)) := by kernel_rfl

/-- A variable of many cells is made: n cells are there. -/
theorem wpList_alloc {w : World} {ops : Array Oper} {rest : List Oper} {o : Oper} {a : Act} {Q : Exit → Act → World → Prop}
    (hg : o.guard = none) (T n : Nat) (hop : o.op = Op.alloc T) (hz : (zeroOf Try.prog T).size = n)
    (hr : ∀ w : World, (Instr.alloc T true (.tuple #[])).run Try.prog w = .ok (.pointer (some ⟨w.heap.size, 0, none⟩)) (w.alloc (.cells (zeroOf Try.prog T) T)))
    (hK : ∀ W, W.there w.heap.size 0 n → Below w.heap.size w W → W.heap.size = w.heap.size + 1 → wpList Try.prog ops Q rest (a.put o.dst (.pointer (some ⟨w.heap.size, 0, none⟩))) W) :
    wpList Try.prog ops Q (o :: rest) a w := by
  refine wpList_plain hg fun K' hK' => ?_
  unfold Oper.wp
  simp [execOp, hop, hr w, Result.andThen]
  refine hK' _ _ (hK _ (fun j hj => ⟨?_, ?_⟩) ((Below.refl _ _).alloc (Nat.le_refl _) _) (by simp))
  · rw [World.cell?_alloc_new]; simp [hz, hj]
  · exact World.frozen?_alloc_new _ _ _ _

theorem there_below {w w' : World} (hb : Below w.heap.size w w') {b n : Nat} (h : w.there b 0 n) : w'.there b 0 n := fun j hj => by
  obtain ⟨h1, h2⟩ := h j hj
  obtain ⟨u, hu⟩ := Option.isSome_iff_exists.1 h1
  have hl := World.block_lt_of_cell? w _ hu
  rw [hb.cell hl, hb.frozen hl]
  exact ⟨h1, h2⟩

theorem rangeAt_below {w w' : World} (hb : Below w.heap.size w w') {b o : Nat} {cs : List Value} (h : w.rangeAt b o cs) : w'.rangeAt b o cs := fun j v hv => cell_below hb (h j v hv)
theorem below_setCells {B : Nat} {w0 : World} (b : Nat) (hb : B ≤ b) : ∀ (vs : List Value) (o : Nat) (w : World), Below B w0 w → Below B w0 (w.setCells b o vs)
  | [], _, _, h => h
  | v :: r, o, w, h => by rw [World.setCells]; exact below_setCells b hb r (o + 1) _ (h.setCell hb v)
theorem cell_setCells {w : World} {B i : Nat} {v : Value} (h : w.cell? ⟨B, i, none⟩ = some v) (R : Nat) (hne : B ≠ R) (o : Nat) (vs : List Value) : (w.setCells R o vs).cell? ⟨B, i, none⟩ = some v := by
  rw [World.cell?_setCells_out R vs o w ⟨B, i, none⟩ (fun e _ => absurd e hne)]; exact h

/-- What is held of the world while the store's change is put together. -/
abbrev SS (c : Chg) (B R : Nat) (w0 w : World) : Prop :=
  w.cell? ⟨B, 0, none⟩ = some (.string c.kind) ∧ w.cell? ⟨B, 1, none⟩ = some (.int .i64 c.pos) ∧ w.cell? ⟨B, 2, none⟩ = some (.string c.name) ∧
  w.cell? ⟨B, 3, none⟩ = some (.string c.subj) ∧ w.cell? ⟨B, 4, none⟩ = some (.string c.pred) ∧ w.cell? ⟨B, 5, none⟩ = some (.string c.obj) ∧ w.cell? ⟨B, 6, none⟩ = some (.pointer c.ep) ∧
  w.rangeAt B 7 c.eref ∧ w.cell? ⟨B, 39, none⟩ = some (.int .i64 c.epos) ∧ w.cell? ⟨B, 40, none⟩ = some (.int .i64 c.etomb) ∧ w.cell? ⟨B, 41, none⟩ = some (.string c.vname) ∧
  w.rangeAt B 42 c.vref ∧ w.cell? ⟨B, 74, none⟩ = some (.pointer c.vp) ∧ w.cell? ⟨B, 75, none⟩ = some (.int .i64 c.num) ∧ w.cell? ⟨B, 76, none⟩ = some (.int .i64 c.vpos) ∧ w.cell? ⟨B, 77, none⟩ = some (.int .i64 c.vtomb) ∧
  w.there R 0 78 ∧ Below w0.heap.size w0 w
theorem SS.start {c : Chg} {B R : Nat} {w0 w : World} (h : ChgAt w B c) (ht : w.there R 0 78) (h1 : Below w0.heap.size w0 w) : SS c B R w0 w :=
  ⟨h.c0, h.c1, h.c2, h.c3, h.c4, h.c5, h.c6, h.ref, h.c39, h.c40, h.c41, h.vrf, h.c74, h.c75, h.c76, h.c77, ht, h1⟩
theorem SS.below {c : Chg} {B R : Nat} {w0 w w' : World} (h : SS c B R w0 w) (hb : Below w.heap.size w w') : SS c B R w0 w' := by
  obtain ⟨a0, a1, a2, a3, a4, a5, a6, a7, a8, a9, b0, b1, b2, b3, b4, b5, b6, b7⟩ := h
  exact ⟨cell_below hb a0, cell_below hb a1, cell_below hb a2, cell_below hb a3, cell_below hb a4, cell_below hb a5, cell_below hb a6, rangeAt_below hb a7, cell_below hb a8, cell_below hb a9, cell_below hb b0, rangeAt_below hb b1, cell_below hb b2, cell_below hb b3, cell_below hb b4, cell_below hb b5, there_below hb b6, b7.trans (hb.mono b7.size)⟩
theorem SS.stored {c : Chg} {B R : Nat} {w0 w : World} (h : SS c B R w0 w) (hne : B ≠ R) (hR : w0.heap.size ≤ R) (vs : List Value) : SS c B R w0 (w.setCells R 0 vs) := by
  obtain ⟨a0, a1, a2, a3, a4, a5, a6, a7, a8, a9, b0, b1, b2, b3, b4, b5, b6, b7⟩ := h
  exact ⟨cell_setCells a0 R hne 0 vs, cell_setCells a1 R hne 0 vs, cell_setCells a2 R hne 0 vs, cell_setCells a3 R hne 0 vs, cell_setCells a4 R hne 0 vs, cell_setCells a5 R hne 0 vs, cell_setCells a6 R hne 0 vs, World.rangeAt_setCells_apart a7 R 0 vs (Or.inl hne), cell_setCells a8 R hne 0 vs, cell_setCells a9 R hne 0 vs, cell_setCells b0 R hne 0 vs, World.rangeAt_setCells_apart b1 R 0 vs (Or.inl hne), cell_setCells b2 R hne 0 vs, cell_setCells b3 R hne 0 vs, cell_setCells b4 R hne 0 vs, cell_setCells b5 R hne 0 vs, World.there_setCells b6 R 0 vs, below_setCells R hR vs 0 w b7⟩
theorem SS.bel {c : Chg} {B R : Nat} {w0 w : World} (h : SS c B R w0 w) : Below w0.heap.size w0 w := h.2.2.2.2.2.2.2.2.2.2.2.2.2.2.2.2.2
theorem SS.th {c : Chg} {B R : Nat} {w0 w : World} (h : SS c B R w0 w) : w.there R 0 78 := h.2.2.2.2.2.2.2.2.2.2.2.2.2.2.2.2.1
/-- The region's first world. -/
theorem SS.drew {c : Chg} {B R : Nat} {w0 w : World} (h : SS c B R w0 w) : SS c B R w0 w.drew := by
  have hb : Below w.heap.size w w.drew := (Below.refl _ _).drew
  exact h.below hb

/-! ### the moves of a region that draws its order, the operations as a list (so that each comes written out) -/
section
variable {P : Program} {L : List Oper} {Q : Exit → Act → World → Prop} {md : Region.Mode} {S : World → Prop}
theorem take_list {i : Nat} {oi : Oper} {v : Value} {fuel : Nat} {listed : Array Bool} {a : Act} {w : World} (hi : L[i]? = some oi)
    (hs : Region.noSelect L.toArray = true) (hf : Region.free md L.toArray listed i = true) (hr : (Region.ready md L.toArray listed).contains i = true)
    (hQ : ∀ c a w, Q (.panic c) (a.put oi.dst v) w → Q (.panic c) a w) (hS : S w) (hy : YieldsIf P L.toArray S oi v a)
    (h : wpAnyH P md L.toArray Q S fuel (listed.setIfInBounds i true) (a.put oi.dst v) w) : wpAnyH P md L.toArray Q S (fuel + 1) listed a w :=
  wpAnyH_take (by simpa using hi) hs hf hr hQ hy hS h
theorem cons_list {fuel : Nat} {listed : Array Bool} {a : Act} {w : World} {i : Nat} {o : Oper} {rs : List Nat} (ho : L[i]? = some o)
    (h : ∀ K' : Act → World → Prop, Shut (∀ a w, S w → (S w → wpAnyH P md L.toArray Q S fuel (listed.setIfInBounds i true) a w) → K' a w) → if Region.wanted o (yielded L.toArray a.tmps) = true then Oper.wp P o a w K' Q else K' (a.put o.dst undef) w)
    (hs : AllReadyH P md L.toArray Q S fuel listed a w rs) : AllReadyH P md L.toArray Q S fuel listed a w (i :: rs) :=
  AllReadyH.cons (by simpa using ho) h hs
end

/-- A result that lies in memory, of many cells. -/
theorem results_range {fn : Func} {p : Tmp} {ty : TypeId} (h : fn.results = #[.cell p ty]) (tmps : Array Value) (w : World) (g : Nat) (hp : tmps.getD p undef = .pointer (some ⟨g, 0, none⟩)) (cs : List Value) (hc : w.rangeAt g 0 cs)
    (d : TypeDesc) (hu : Try.prog.underlying ty = some d) (hd : d.isRow = true) (hi : (Try.prog.info? ty).map (·.size) = some cs.length) : (results fn tmps).run Try.prog w = .ok (.agg cs.toArray) w := by
  have hp' : tmps[p]?.getD undef = .pointer (some ⟨g, 0, none⟩) := by simpa using hp
  simp [results, h, hp', asAddr, run_loadVar_mid w g 0 ty cs d hc hu hd hi]

/-- The store's change: the provenances new, all else as it was. -/
def StoreOut (c : Chg) (e : Ending) : Prop := ∃ q q', e = .returned (Chg.val { c with ep := q, vp := q' })
theorem SS.r1 {c : Chg} {B R : Nat} {w0 w : World} (h : SS c B R w0 w) : w.rangeAt B 7 c.eref := h.2.2.2.2.2.2.2.1
theorem SS.r2 {c : Chg} {B R : Nat} {w0 w : World} (h : SS c B R w0 w) : w.rangeAt B 42 c.vref := h.2.2.2.2.2.2.2.2.2.2.2.1
set_option maxHeartbeats 4000000 in
set_option maxRecDepth 100000 in
attribute [local go_sem ↓] exec_b38 exec_b40 exec_b42 exec_b44 exec_s44 in
attribute [local go_sem] out_b38 out_b40 out_b42 out_b44 out_s44 in
theorem toStore_any (c : Chg) (xs ys : List Int) (w : World) (he : IsRef c.eref xs) (hv : IsRef c.vref ys) (h1 : ProvAt w c.ep) (h2 : ProvAt w c.vp) :
    Calls Try.prog 7 #[c.val] w fun e w' => StoreOut c e ∧ Below w.heap.size w w' := by
  have le := he.length
  have lv := hv.length
  go_enter Try.func7, Try.ntmps7
  go_wp2_with (refine wpList_box rfl 29 _ rfl c rfl le lv ?_)
  intro W hW hb hsz
  have HZ : Hid (W.heap.size = w.heap.size + 1) := hsz
  clear hsz
  go_wp2_with (refine wpList_alloc rfl 44 78 rfl zeroSize44 runAlloc44 ?_)
  intro W1 ht hb1 hsz1
  have hS : SS c w.heap.size W.heap.size w W1 := SS.start (hW.below hb1) ht (hb.trans (hb1.mono hb.size))
  have hu23 := Try.underlying23
  have hi1 : (Try.prog.info? 23).map (·.size) = some c.eref.length := by rw [le]; exact rowInfo23
  have hi2 : (Try.prog.info? 23).map (·.size) = some c.vref.length := by rw [lv]; exact rowInfo23
  clear hsz1 ht hW
  obtain ⟨R, HR⟩ : ∃ R, Hid (R = W.heap.size) := ⟨_, rfl⟩
  rw [← HR.out] at hS ⊢
  go_wp2_with fail
  refine wp_region_noPanic ?_
  refine wp_region_held_drew (S := SS c w.heap.size R w) (by kernel_rfl) (SS.drew hS) (fun hHeld => ?_)
  refine take_list (i := 0) (v := ?_) rfl (by kernel_rfl) (by kernel_rfl) (by kernel_rfl) (fun _ _ _ h => h) (by assumption) (Or.inl ⟨by rfl, ?_⟩) ?_
  rotate_left
  · (intro w hSw; (try dsimp only at hSw); go_simp; try with_reducible rfl)
  simp only [Act.put, List.setIfInBounds_toArray, List.set_cons_zero, List.set_cons_succ]
  refine take_list (i := 1) (v := ?_) rfl (by kernel_rfl) (by kernel_rfl) (by kernel_rfl) (fun _ _ _ h => h) (by assumption) (Or.inl ⟨by rfl, ?_⟩) ?_
  rotate_left
  · (intro w hSw; (try dsimp only at hSw); go_simp; try with_reducible rfl)
  simp only [Act.put, List.setIfInBounds_toArray, List.set_cons_zero, List.set_cons_succ]
  refine take_list (i := 2) (v := ?_) rfl (by kernel_rfl) (by kernel_rfl) (by kernel_rfl) (fun _ _ _ h => h) (by assumption) (Or.inl ⟨by rfl, ?_⟩) ?_
  rotate_left
  · (intro w hSw; (try dsimp only at hSw); go_simp; try with_reducible rfl)
  simp only [Act.put, List.setIfInBounds_toArray, List.set_cons_zero, List.set_cons_succ]
  refine take_list (i := 3) (v := ?_) rfl (by kernel_rfl) (by kernel_rfl) (by kernel_rfl) (fun _ _ _ h => h) (by assumption) (Or.inl ⟨by rfl, ?_⟩) ?_
  rotate_left
  · (intro w hSw; (try dsimp only at hSw); go_simp; try with_reducible rfl)
  simp only [Act.put, List.setIfInBounds_toArray, List.set_cons_zero, List.set_cons_succ]
  refine take_list (i := 4) (v := ?_) rfl (by kernel_rfl) (by kernel_rfl) (by kernel_rfl) (fun _ _ _ h => h) (by assumption) (Or.inl ⟨by rfl, ?_⟩) ?_
  rotate_left
  · (intro w hSw; (try dsimp only at hSw); go_simp; try with_reducible rfl)
  simp only [Act.put, List.setIfInBounds_toArray, List.set_cons_zero, List.set_cons_succ]
  refine take_list (i := 5) (v := ?_) rfl (by kernel_rfl) (by kernel_rfl) (by kernel_rfl) (fun _ _ _ h => h) (by assumption) (Or.inl ⟨by rfl, ?_⟩) ?_
  rotate_left
  · (intro w hSw; (try dsimp only at hSw); go_simp; try with_reducible rfl)
  simp only [Act.put, List.setIfInBounds_toArray, List.set_cons_zero, List.set_cons_succ]
  refine take_list (i := 6) (v := ?_) rfl (by kernel_rfl) (by kernel_rfl) (by kernel_rfl) (fun _ _ _ h => h) (by assumption) (Or.inl ⟨by rfl, ?_⟩) ?_
  rotate_left
  · (intro w hSw; (try dsimp only at hSw); go_simp; try with_reducible rfl)
  simp only [Act.put, List.setIfInBounds_toArray, List.set_cons_zero, List.set_cons_succ]
  refine take_list (i := 7) (v := ?_) rfl (by kernel_rfl) (by kernel_rfl) (by kernel_rfl) (fun _ _ _ h => h) (by assumption) (Or.inl ⟨by rfl, ?_⟩) ?_
  rotate_left
  · (intro w hSw; (try dsimp only at hSw); go_simp; try with_reducible rfl)
  simp only [Act.put, List.setIfInBounds_toArray, List.set_cons_zero, List.set_cons_succ]
  refine take_list (i := 8) (v := ?_) rfl (by kernel_rfl) (by kernel_rfl) (by kernel_rfl) (fun _ _ _ h => h) (by assumption) (Or.inl ⟨by rfl, ?_⟩) ?_
  rotate_left
  · (intro w hSw; (try dsimp only at hSw); go_simp; try with_reducible rfl)
  simp only [Act.put, List.setIfInBounds_toArray, List.set_cons_zero, List.set_cons_succ]
  refine take_list (i := 9) (v := ?_) rfl (by kernel_rfl) (by kernel_rfl) (by kernel_rfl) (fun _ _ _ h => h) (by assumption) (Or.inl ⟨by rfl, ?_⟩) ?_
  rotate_left
  · (intro w hSw; (try dsimp only at hSw); go_simp; try with_reducible rfl)
  simp only [Act.put, List.setIfInBounds_toArray, List.set_cons_zero, List.set_cons_succ]
  refine take_list (i := 10) (v := ?_) rfl (by kernel_rfl) (by kernel_rfl) (by kernel_rfl) (fun _ _ _ h => h) (by assumption) (Or.inl ⟨by rfl, ?_⟩) ?_
  rotate_left
  · (intro w hSw; (try dsimp only at hSw); go_simp; try with_reducible rfl)
  simp only [Act.put, List.setIfInBounds_toArray, List.set_cons_zero, List.set_cons_succ]
  refine take_list (i := 11) (v := ?_) rfl (by kernel_rfl) (by kernel_rfl) (by kernel_rfl) (fun _ _ _ h => h) (by assumption) (Or.inl ⟨by rfl, ?_⟩) ?_
  rotate_left
  · (intro w hSw; (try dsimp only at hSw); go_simp; try with_reducible rfl)
  simp only [Act.put, List.setIfInBounds_toArray, List.set_cons_zero, List.set_cons_succ]
  refine take_list (i := 12) (v := ?_) rfl (by kernel_rfl) (by kernel_rfl) (by kernel_rfl) (fun _ _ _ h => h) (by assumption) (Or.inl ⟨by rfl, ?_⟩) ?_
  rotate_left
  · (intro w hSw; (try dsimp only at hSw); go_simp; try with_reducible rfl)
  simp only [Act.put, List.setIfInBounds_toArray, List.set_cons_zero, List.set_cons_succ]
  refine take_list (i := 13) (v := ?_) rfl (by kernel_rfl) (by kernel_rfl) (by kernel_rfl) (fun _ _ _ h => h) (by assumption) (Or.inl ⟨by rfl, ?_⟩) ?_
  rotate_left
  · (intro w hSw; (try dsimp only at hSw); go_simp; try with_reducible rfl)
  simp only [Act.put, List.setIfInBounds_toArray, List.set_cons_zero, List.set_cons_succ]
  refine take_list (i := 14) (v := ?_) rfl (by kernel_rfl) (by kernel_rfl) (by kernel_rfl) (fun _ _ _ h => h) (by assumption) (Or.inl ⟨by rfl, ?_⟩) ?_
  rotate_left
  · (intro w hSw; (try dsimp only at hSw); go_simp; try with_reducible rfl)
  simp only [Act.put, List.setIfInBounds_toArray, List.set_cons_zero, List.set_cons_succ]
  refine take_list (i := 15) (v := ?_) rfl (by kernel_rfl) (by kernel_rfl) (by kernel_rfl) (fun _ _ _ h => h) (by assumption) (Or.inl ⟨by rfl, ?_⟩) ?_
  rotate_left
  · (intro w hSw; (try dsimp only at hSw); go_simp; try with_reducible rfl)
  simp only [Act.put, List.setIfInBounds_toArray, List.set_cons_zero, List.set_cons_succ]
  refine take_list (i := 16) (v := ?_) rfl (by kernel_rfl) (by kernel_rfl) (by kernel_rfl) (fun _ _ _ h => h) (by assumption) (Or.inl ⟨by rfl, ?_⟩) ?_
  rotate_left
  · (intro w hSw; (try dsimp only at hSw); go_simp; try with_reducible rfl)
  simp only [Act.put, List.setIfInBounds_toArray, List.set_cons_zero, List.set_cons_succ]
  refine take_list (i := 17) (v := ?_) rfl (by kernel_rfl) (by kernel_rfl) (by kernel_rfl) (fun _ _ _ h => h) (by assumption) (Or.inl ⟨by rfl, ?_⟩) ?_
  rotate_left
  · (intro w hSw; (try dsimp only at hSw); go_simp; try with_reducible rfl)
  simp only [Act.put, List.setIfInBounds_toArray, List.set_cons_zero, List.set_cons_succ]
  refine take_list (i := 20) (v := ?_) rfl (by kernel_rfl) (by kernel_rfl) (by kernel_rfl) (fun _ _ _ h => h) (by assumption) (Or.inl ⟨by rfl, ?_⟩) ?_
  rotate_left
  · (intro w hSw; (try dsimp only at hSw); go_simp; try with_reducible rfl)
  simp only [Act.put, List.setIfInBounds_toArray, List.set_cons_zero, List.set_cons_succ]
  refine take_list (i := 21) (v := ?_) rfl (by kernel_rfl) (by kernel_rfl) (by kernel_rfl) (fun _ _ _ h => h) (by assumption) (Or.inl ⟨by rfl, ?_⟩) ?_
  rotate_left
  · (intro w hSw; (try dsimp only at hSw); go_simp; try with_reducible rfl)
  simp only [Act.put, List.setIfInBounds_toArray, List.set_cons_zero, List.set_cons_succ]
  refine take_list (i := 22) rfl (by kernel_rfl) (by kernel_rfl) (by kernel_rfl) (fun _ _ _ h => h) (by assumption) (yieldsIf_load_mid (by rfl) 23 _ rfl w.heap.size 7 rfl c.eref _ (fun w hw => SS.r1 hw) hu23 rfl hi1) ?_
  simp only [Act.put, List.setIfInBounds_toArray, List.set_cons_zero, List.set_cons_succ]
  refine take_list (i := 23) (v := ?_) rfl (by kernel_rfl) (by kernel_rfl) (by kernel_rfl) (fun _ _ _ h => h) (by assumption) (Or.inl ⟨by rfl, ?_⟩) ?_
  rotate_left
  · (intro w hSw; (try dsimp only at hSw); go_simp; try with_reducible rfl)
  simp only [Act.put, List.setIfInBounds_toArray, List.set_cons_zero, List.set_cons_succ]
  refine take_list (i := 24) (v := ?_) rfl (by kernel_rfl) (by kernel_rfl) (by kernel_rfl) (fun _ _ _ h => h) (by assumption) (Or.inl ⟨by rfl, ?_⟩) ?_
  rotate_left
  · (intro w hSw; (try dsimp only at hSw); go_simp; try with_reducible rfl)
  simp only [Act.put, List.setIfInBounds_toArray, List.set_cons_zero, List.set_cons_succ]
  refine take_list (i := 25) (v := ?_) rfl (by kernel_rfl) (by kernel_rfl) (by kernel_rfl) (fun _ _ _ h => h) (by assumption) (Or.inl ⟨by rfl, ?_⟩) ?_
  rotate_left
  · (intro w hSw; (try dsimp only at hSw); go_simp; try with_reducible rfl)
  simp only [Act.put, List.setIfInBounds_toArray, List.set_cons_zero, List.set_cons_succ]
  refine take_list (i := 26) (v := ?_) rfl (by kernel_rfl) (by kernel_rfl) (by kernel_rfl) (fun _ _ _ h => h) (by assumption) (Or.inl ⟨by rfl, ?_⟩) ?_
  rotate_left
  · (intro w hSw; (try dsimp only at hSw); go_simp; try with_reducible rfl)
  simp only [Act.put, List.setIfInBounds_toArray, List.set_cons_zero, List.set_cons_succ]
  refine take_list (i := 27) (v := ?_) rfl (by kernel_rfl) (by kernel_rfl) (by kernel_rfl) (fun _ _ _ h => h) (by assumption) (Or.inl ⟨by rfl, ?_⟩) ?_
  rotate_left
  · (intro w hSw; (try dsimp only at hSw); go_simp; try with_reducible rfl)
  simp only [Act.put, List.setIfInBounds_toArray, List.set_cons_zero, List.set_cons_succ]
  refine take_list (i := 28) (v := ?_) rfl (by kernel_rfl) (by kernel_rfl) (by kernel_rfl) (fun _ _ _ h => h) (by assumption) (Or.inl ⟨by rfl, ?_⟩) ?_
  rotate_left
  · (intro w hSw; (try dsimp only at hSw); go_simp; try with_reducible rfl)
  simp only [Act.put, List.setIfInBounds_toArray, List.set_cons_zero, List.set_cons_succ]
  refine take_list (i := 30) (v := ?_) rfl (by kernel_rfl) (by kernel_rfl) (by kernel_rfl) (fun _ _ _ h => h) (by assumption) (Or.inl ⟨by rfl, ?_⟩) ?_
  rotate_left
  · (intro w hSw; (try dsimp only at hSw); go_simp; try with_reducible rfl)
  simp only [Act.put, List.setIfInBounds_toArray, List.set_cons_zero, List.set_cons_succ]
  refine take_list (i := 31) (v := ?_) rfl (by kernel_rfl) (by kernel_rfl) (by kernel_rfl) (fun _ _ _ h => h) (by assumption) (Or.inl ⟨by rfl, ?_⟩) ?_
  rotate_left
  · (intro w hSw; (try dsimp only at hSw); go_simp; try with_reducible rfl)
  simp only [Act.put, List.setIfInBounds_toArray, List.set_cons_zero, List.set_cons_succ]
  refine take_list (i := 32) (v := ?_) rfl (by kernel_rfl) (by kernel_rfl) (by kernel_rfl) (fun _ _ _ h => h) (by assumption) (Or.inl ⟨by rfl, ?_⟩) ?_
  rotate_left
  · (intro w hSw; (try dsimp only at hSw); go_simp; try with_reducible rfl)
  simp only [Act.put, List.setIfInBounds_toArray, List.set_cons_zero, List.set_cons_succ]
  refine take_list (i := 33) (v := ?_) rfl (by kernel_rfl) (by kernel_rfl) (by kernel_rfl) (fun _ _ _ h => h) (by assumption) (Or.inl ⟨by rfl, ?_⟩) ?_
  rotate_left
  · (intro w hSw; (try dsimp only at hSw); go_simp; try with_reducible rfl)
  simp only [Act.put, List.setIfInBounds_toArray, List.set_cons_zero, List.set_cons_succ]
  refine take_list (i := 34) (v := ?_) rfl (by kernel_rfl) (by kernel_rfl) (by kernel_rfl) (fun _ _ _ h => h) (by assumption) (Or.inl ⟨by rfl, ?_⟩) ?_
  rotate_left
  · (intro w hSw; (try dsimp only at hSw); go_simp; try with_reducible rfl)
  simp only [Act.put, List.setIfInBounds_toArray, List.set_cons_zero, List.set_cons_succ]
  refine take_list (i := 35) rfl (by kernel_rfl) (by kernel_rfl) (by kernel_rfl) (fun _ _ _ h => h) (by assumption) (yieldsIf_load_mid (by rfl) 23 _ rfl w.heap.size 42 rfl c.vref _ (fun w hw => SS.r2 hw) hu23 rfl hi2) ?_
  simp only [Act.put, List.setIfInBounds_toArray, List.set_cons_zero, List.set_cons_succ]
  refine take_list (i := 36) (v := ?_) rfl (by kernel_rfl) (by kernel_rfl) (by kernel_rfl) (fun _ _ _ h => h) (by assumption) (Or.inl ⟨by rfl, ?_⟩) ?_
  rotate_left
  · (intro w hSw; (try dsimp only at hSw); go_simp; try with_reducible rfl)
  simp only [Act.put, List.setIfInBounds_toArray, List.set_cons_zero, List.set_cons_succ]
  refine take_list (i := 37) (v := ?_) rfl (by kernel_rfl) (by kernel_rfl) (by kernel_rfl) (fun _ _ _ h => h) (by assumption) (Or.inl ⟨by rfl, ?_⟩) ?_
  rotate_left
  · (intro w hSw; (try dsimp only at hSw); go_simp; try with_reducible rfl)
  simp only [Act.put, List.setIfInBounds_toArray, List.set_cons_zero, List.set_cons_succ]
  refine take_list (i := 38) (v := ?_) rfl (by kernel_rfl) (by kernel_rfl) (by kernel_rfl) (fun _ _ _ h => h) (by assumption) (Or.inl ⟨by rfl, ?_⟩) ?_
  rotate_left
  · (intro w hSw; (try dsimp only at hSw); go_simp; try with_reducible rfl)
  simp only [Act.put, List.setIfInBounds_toArray, List.set_cons_zero, List.set_cons_succ]
  refine take_list (i := 41) (v := ?_) rfl (by kernel_rfl) (by kernel_rfl) (by kernel_rfl) (fun _ _ _ h => h) (by assumption) (Or.inl ⟨by rfl, ?_⟩) ?_
  rotate_left
  · (intro w hSw; (try dsimp only at hSw); go_simp; try with_reducible rfl)
  simp only [Act.put, List.setIfInBounds_toArray, List.set_cons_zero, List.set_cons_succ]
  refine take_list (i := 42) (v := ?_) rfl (by kernel_rfl) (by kernel_rfl) (by kernel_rfl) (fun _ _ _ h => h) (by assumption) (Or.inl ⟨by rfl, ?_⟩) ?_
  rotate_left
  · (intro w hSw; (try dsimp only at hSw); go_simp; try with_reducible rfl)
  simp only [Act.put, List.setIfInBounds_toArray, List.set_cons_zero, List.set_cons_succ]
  refine take_list (i := 43) (v := ?_) rfl (by kernel_rfl) (by kernel_rfl) (by kernel_rfl) (fun _ _ _ h => h) (by assumption) (Or.inl ⟨by rfl, ?_⟩) ?_
  rotate_left
  · (intro w hSw; (try dsimp only at hSw); go_simp; try with_reducible rfl)
  simp only [Act.put, List.setIfInBounds_toArray, List.set_cons_zero, List.set_cons_succ]
  refine take_list (i := 44) (v := ?_) rfl (by kernel_rfl) (by kernel_rfl) (by kernel_rfl) (fun _ _ _ h => h) (by assumption) (Or.inl ⟨by rfl, ?_⟩) ?_
  rotate_left
  · (intro w hSw; (try dsimp only at hSw); go_simp; try with_reducible rfl)
  simp only [Act.put, List.setIfInBounds_toArray, List.set_cons_zero, List.set_cons_succ]
  refine take_list (i := 45) (v := ?_) rfl (by kernel_rfl) (by kernel_rfl) (by kernel_rfl) (fun _ _ _ h => h) (by assumption) (Or.inl ⟨by rfl, ?_⟩) ?_
  rotate_left
  · (intro w hSw; (try dsimp only at hSw); go_simp; try with_reducible rfl)
  simp only [Act.put, List.setIfInBounds_toArray, List.set_cons_zero, List.set_cons_succ]
  refine take_list (i := 46) (v := ?_) rfl (by kernel_rfl) (by kernel_rfl) (by kernel_rfl) (fun _ _ _ h => h) (by assumption) (Or.inl ⟨by rfl, ?_⟩) ?_
  rotate_left
  · (intro w hSw; (try dsimp only at hSw); go_simp; try with_reducible rfl)
  simp only [Act.put, List.setIfInBounds_toArray, List.set_cons_zero, List.set_cons_succ]
  refine take_list (i := 47) (v := ?_) rfl (by kernel_rfl) (by kernel_rfl) (by kernel_rfl) (fun _ _ _ h => h) (by assumption) (Or.inl ⟨by rfl, ?_⟩) ?_
  rotate_left
  · (intro w hSw; (try dsimp only at hSw); go_simp; try with_reducible rfl)
  simp only [Act.put, List.setIfInBounds_toArray, List.set_cons_zero, List.set_cons_succ]
  refine take_list (i := 48) (v := ?_) rfl (by kernel_rfl) (by kernel_rfl) (by kernel_rfl) (fun _ _ _ h => h) (by assumption) (Or.inl ⟨by rfl, ?_⟩) ?_
  rotate_left
  · (intro w hSw; (try dsimp only at hSw); go_simp; try with_reducible rfl)
  simp only [Act.put, List.setIfInBounds_toArray, List.set_cons_zero, List.set_cons_succ]
  refine take_list (i := 49) (v := ?_) rfl (by kernel_rfl) (by kernel_rfl) (by kernel_rfl) (fun _ _ _ h => h) (by assumption) (Or.inl ⟨by rfl, ?_⟩) ?_
  rotate_left
  · (intro w hSw; (try dsimp only at hSw); go_simp; try with_reducible rfl)
  simp only [Act.put, List.setIfInBounds_toArray, List.set_cons_zero, List.set_cons_succ]
  refine wpAnyH_ready (rs := [18]) (by kernel_rfl) (by simp) ?_
  refine cons_list rfl ?_ AllReadyH.nil
  intro K hK
  go_simp
  refine (prov_any c.ep _ (h1.below (SS.bel (by assumption)))).mono ?_
  rintro e w18 ⟨⟨q, rfl⟩, hb18⟩
  refine hK.out _ _ (SS.below (by assumption) hb18) (fun hHeld => ?_)
  clear hK K
  try simp only [Act.put, List.setIfInBounds_toArray, List.set_cons_zero, List.set_cons_succ]
  refine take_list (i := 19) (v := ?_) rfl (by kernel_rfl) (by kernel_rfl) (by kernel_rfl) (fun _ _ _ h => h) (by assumption) (Or.inl ⟨by rfl, ?_⟩) ?_
  rotate_left
  · (intro w hSw; (try dsimp only at hSw); go_simp; try with_reducible rfl)
  try simp only [Act.put, List.setIfInBounds_toArray, List.set_cons_zero, List.set_cons_succ]
  refine take_list (i := 29) (v := ?_) rfl (by kernel_rfl) (by kernel_rfl) (by kernel_rfl) (fun _ _ _ h => h) (by assumption) (Or.inl ⟨by rfl, ?_⟩) ?_
  rotate_left
  · (intro w hSw; (try dsimp only at hSw); go_simp; try with_reducible rfl)
  try simp only [Act.put, List.setIfInBounds_toArray, List.set_cons_zero, List.set_cons_succ]
  refine wpAnyH_ready (rs := [39]) (by kernel_rfl) (by simp) ?_
  refine cons_list rfl ?_ AllReadyH.nil
  intro K hK
  go_simp
  refine (prov_any c.vp _ (h2.below (SS.bel (by assumption)))).mono ?_
  rintro e w39 ⟨⟨q', rfl⟩, hb39⟩
  refine hK.out _ _ (SS.below (by assumption) hb39) (fun hHeld => ?_)
  clear hK K
  try simp only [Act.put, List.setIfInBounds_toArray, List.set_cons_zero, List.set_cons_succ]
  refine take_list (i := 40) (v := ?_) rfl (by kernel_rfl) (by kernel_rfl) (by kernel_rfl) (fun _ _ _ h => h) (by assumption) (Or.inl ⟨by rfl, ?_⟩) ?_
  rotate_left
  · (intro w hSw; (try dsimp only at hSw); go_simp; try with_reducible rfl)
  try simp only [Act.put, List.setIfInBounds_toArray, List.set_cons_zero, List.set_cons_succ]
  refine take_list (i := 50) (v := ?_) rfl (by kernel_rfl) (by kernel_rfl) (by kernel_rfl) (fun _ _ _ h => h) (by assumption) (Or.inl ⟨by rfl, ?_⟩) ?_
  rotate_left
  · (intro w hSw; (try dsimp only at hSw); go_simp; try with_reducible rfl)
  try simp only [Act.put, List.setIfInBounds_toArray, List.set_cons_zero, List.set_cons_succ]
  refine take_list (i := 51) (v := ?_) rfl (by kernel_rfl) (by kernel_rfl) (by kernel_rfl) (fun _ _ _ h => h) (by assumption) (Or.inl ⟨by rfl, ?_⟩) ?_
  rotate_left
  · (intro w hSw; (try dsimp only at hSw); go_simp; try with_reducible rfl)
  try simp only [Act.put, List.setIfInBounds_toArray, List.set_cons_zero, List.set_cons_succ]
  have h1c : (Chg.cells { c with ep := q, vp := q' }).toArray.all (·.oneCell') = true := Chg.one he hv
  refine wpAnyH_ready (rs := [52]) (by kernel_rfl) (by simp) ?_
  refine cons_list rfl ?_ AllReadyH.nil
  intro K hK
  go_simp
  rw [out_s44 { c with ep := q, vp := q' } R w39 le lv h1c (SS.th (by assumption))]
  go_simp
  have hnR : w.heap.size ≠ R := by rw [HR.out, HZ.out]; omega
  have hgR : w.heap.size ≤ R := by rw [HR.out, HZ.out]; omega
  have hthere : w39.there R 0 78 := SS.th (by assumption)
  refine hK.out _ _ (SS.stored (by assumption) hnR hgR _) (fun hHeld => ?_)
  clear hK K
  try simp only [Act.put, List.setIfInBounds_toArray, List.set_cons_zero, List.set_cons_succ]
  refine wpAnyH_done (by kernel_rfl) ?_ _
  refine NoPanic.normal ?_
  go_wp2
  refine bodyPost_ret (v := Chg.val { c with ep := q, vp := q' }) (results_range Try.results7 _ _ R rfl _ (World.rangeAt_setCells_same w39 R 0 _ (by rw [Chg.length (c := { c with ep := q, vp := q' }) le lv]; exact hthere)) _ Try.underlying44 rfl (by rw [Chg.length (c := { c with ep := q, vp := q' }) le lv]; exact info44)) rfl ⟨⟨q, q', rfl⟩, SS.bel (by assumption)⟩
end Go.Proofs.Qxb6625833a
