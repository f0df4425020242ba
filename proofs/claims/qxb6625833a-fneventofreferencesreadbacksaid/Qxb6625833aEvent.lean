/-
  OUR OWN WORK. Seat b6625833a: eventOf (function 16) at a node's creation and at an edge's addition; the words for an event in memory.
-/
import Derived.Test.Qxb6625833aStore
namespace Go.Proofs.Qxb6625833a
open Go.RowKit Go.Lib

def kNode : ByteArray := { data := #[110, 111, 100, 101, 95, 99, 114, 101, 97, 116, 101, 100] }
def kEdge : ByteArray := { data := #[101, 100, 103, 101, 95, 97, 100, 100, 101, 100] }
def kEdgeT : ByteArray := { data := #[101, 100, 103, 101, 95, 116, 111, 109, 98, 115, 116, 111, 110, 101, 100] }
def kVer : ByteArray := { data := #[118, 101, 114, 115, 105, 111, 110, 95, 97, 100, 100, 101, 100] }
def kVerT : ByteArray := { data := #[118, 101, 114, 115, 105, 111, 110, 95, 116, 111, 109, 98, 115, 116, 111, 110, 101, 100] }
def emp : ByteArray := { data := #[] }
/-- An event's cells. -/
def evl (k : ByteArray) (pos : Int) (name er s p o : ByteArray) (v : Int) (r : ByteArray) (pr : Option Addr) : List Value :=
  [.string k, .int .i64 pos, .string name, .string er, .string s, .string p, .string o, .int .i64 v, .string r, .pointer pr]
def evt (k : ByteArray) (pos : Int) (name er s p o : ByteArray) (v : Int) (r : ByteArray) (pr : Option Addr) : Value := .agg (evl k pos name er s p o v r pr).toArray
theorem evl_all (k : ByteArray) (pos : Int) (name er s p o : ByteArray) (v : Int) (r : ByteArray) (pr : Option Addr) : (evl k pos name er s p o v r pr).toArray.all (·.oneCell') = true := all_oneCell_toArray (fun x hx => List.all_eq_true.1 (show (evl k pos name er s p o v r pr).all (·.oneCell') = true from rfl) x hx)
theorem evl_len (k : ByteArray) (pos : Int) (name er s p o : ByteArray) (v : Int) (r : ByteArray) (pr : Option Addr) : (evl k pos name er s p o v r pr).length = 10 := rfl
theorem evl_one (k : ByteArray) (pos : Int) (name er s p o : ByteArray) (v : Int) (r : ByteArray) (pr : Option Addr) : (evl k pos name er s p o v r pr).all (·.oneCell') = true := rfl

set_option maxHeartbeats 2000000 in
set_option maxRecDepth 100000 in
theorem event_node (c : Chg) (w : World) (le : c.eref.length = 32) (lv : c.vref.length = 32) (hk : c.kind = kNode) :
    Calls Try.prog 16 #[c.val] w fun e w' => e = .returned (evt kNode c.pos c.name emp emp emp emp 0 emp none) ∧ Below w.heap.size w w' := by
  go_enter Try.func16, Try.ntmps16
  go_wp2_with (refine wpList_box rfl 44 _ rfl c rfl le lv ?_)
  intro W hW hb hsz
  have d0 := hW.c0
  have d1 := hW.c1
  have d2 := hW.c2
  rw [hk] at d0
  unfold kNode at d0
  have lt := hW.lt
  clear hsz
  go_wp2
  refine bodyPost_ret (v := evt kNode c.pos c.name emp emp emp emp 0 emp none) (by simp [results, Try.results16, go_sem, evt, evl, kNode, emp]) rfl ⟨rfl, ?_⟩
  refine hb.trans (Below.mono ?_ hb.size)
  go_grown

theorem Chg.cells_eq (c : Chg) : c.cells = [Value.string c.kind, .int .i64 c.pos, .string c.name] ++ (edgeCells c.subj c.pred c.obj c.ep c.eref c.epos c.etomb ++ verCells c.vname c.vref c.vp c.num c.vpos c.vtomb) := by
  simp [Chg.cells, edgeCells, verCells]
theorem ChgAt.edge {w : World} {b : Nat} {c : Chg} (h : ChgAt w b c) : w.rangeAt b 3 (edgeCells c.subj c.pred c.obj c.ep c.eref c.epos c.etomb) := fun j v hv => h.at _ _ (by
  have hj := (List.getElem?_eq_some_iff.1 hv).1
  rw [Chg.cells_eq, List.getElem?_append_right (by simp), List.getElem?_append_left (by simpa using hj)]
  simpa using hv)
theorem length_edge {s p o : ByteArray} {q : Option Addr} {ref : List Value} {n1 n2 : Int} (h : ref.length = 32) : (edgeCells s p o q ref n1 n2).length = 38 := by simp [edgeCells, h]
theorem length_ver {v : ByteArray} {q : Option Addr} {ref : List Value} {n1 n2 n3 : Int} (h : ref.length = 32) : (verCells v ref q n1 n2 n3).length = 37 := by simp [verCells, h]
theorem ChgAt.ver {w : World} {b : Nat} {c : Chg} (h : ChgAt w b c) : w.rangeAt b 41 (verCells c.vname c.vref c.vp c.num c.vpos c.vtomb) := fun j v hv => h.at _ _ (by
  rw [Chg.cells_eq, List.getElem?_append_right (by simp; omega), List.getElem?_append_right (by simp [length_edge h.le]; omega)]
  rw [← hv]
  congr 1
  simp [length_edge h.le]
  omega)
theorem one_edge {s p o : ByteArray} {q : Option Addr} {ref : List Value} {n1 n2 : Int} {xs : List Int} (h : IsRef ref xs) : (edgeCells s p o q ref n1 n2).toArray.all (·.oneCell') = true := by
  apply all_oneCell_toArray
  unfold edgeCells
  rw [h.eq]
  simp only [List.mem_append, List.mem_cons, List.mem_map, List.not_mem_nil, or_false]
  rintro v ((h | ⟨x, _, rfl⟩) | h)
  · rcases h with rfl | rfl | rfl | rfl <;> rfl
  · rfl
  · rcases h with rfl | rfl <;> rfl
theorem one_ver {v : ByteArray} {q : Option Addr} {ref : List Value} {n1 n2 n3 : Int} {xs : List Int} (h : IsRef ref xs) : (verCells v ref q n1 n2 n3).toArray.all (·.oneCell') = true := by
  apply all_oneCell_toArray
  unfold verCells
  rw [h.eq]
  simp only [List.mem_append, List.mem_cons, List.mem_map, List.not_mem_nil, or_false]
  rintro v ((rfl | ⟨x, _, rfl⟩) | h)
  · rfl
  · rfl
  · rcases h with rfl | rfl | rfl | rfl <;> rfl
theorem info38 : (Try.prog.info? 38).map (·.size) = some 38 := by kernel_rfl
theorem info42 : (Try.prog.info? 42).map (·.size) = some 37 := by kernel_rfl

/-- An event being filled, in block b. -/
structure EvAt (w : World) (b : Nat) (l : List Value) : Prop where
  len : l.length = 10
  all : w.rangeAt b 0 l
  fr : w.there b 0 10
theorem EvAt.cell {w : World} {b : Nat} {l : List Value} (h : EvAt w b l) (i : Nat) (v : Value) (hi : l[i]? = some v) : w.cell? ⟨b, i, none⟩ = some v := by
  have := h.all i v hi
  rwa [Nat.zero_add] at this
theorem EvAt.frz {w : World} {b : Nat} {l : List Value} (h : EvAt w b l) (i : Nat) (hi : i < 10) : w.frozen? ⟨b, i, none⟩ = false := by
  have := (h.fr i hi).2
  rwa [Nat.zero_add] at this
theorem EvAt.of_alloc (w : World) (l : List Value) (t : TypeId) (hl : l.length = 10) : EvAt (w.alloc (.cells l.toArray t)) w.heap.size l := by
  refine ⟨hl, fun j v hv => ?_, fun j hj => ⟨?_, ?_⟩⟩
  · rw [World.cell?_alloc_new]; simpa using hv
  · rw [World.cell?_alloc_new]; simp [hl, hj]
  · exact World.frozen?_alloc_new _ _ _ _
theorem EvAt.below {w w' : World} {b : Nat} {l : List Value} (h : EvAt w b l) (hb : Below w.heap.size w w') : EvAt w' b l := ⟨h.len, rangeAt_below hb h.all, there_below hb h.fr⟩
theorem there_setCell {w : World} {b n : Nat} (h : w.there b 0 n) (a : Addr) (v : Value) : (w.setCell a v).there b 0 n := fun j hj => by
  obtain ⟨h1, h2⟩ := h j hj
  refine ⟨?_, by rw [World.frozen?_setCell]; exact h2⟩
  obtain ⟨u, hu⟩ := Option.isSome_iff_exists.1 h1
  by_cases e : a = ⟨b, 0 + j, none⟩
  · subst e; rw [World.cell?_setCell_same _ _ _ hu]; rfl
  · rw [World.cell?_setCell_other _ _ _ _ e, hu]; rfl
theorem rangeAt_setCell {w : World} {b o : Nat} {l : List Value} (h : w.rangeAt b o l) (a : Addr) (ha : b ≠ a.block) (v : Value) : (w.setCell a v).rangeAt b o l := fun j u hu => by
  rw [World.cell?_setCell_other _ _ _ _ (fun e => ha (by rw [e]))]; exact h j u hu
theorem EvAt.set {w : World} {b : Nat} {l : List Value} (h : EvAt w b l) (i : Nat) (hi : i < 10) (v : Value) : EvAt (w.setCell ⟨b, i, none⟩ v) b (l.set i v) := by
  refine ⟨by rw [List.length_set]; exact h.len, fun j u hu => ?_, there_setCell h.fr _ _⟩
  obtain ⟨x, hx⟩ := Option.isSome_iff_exists.1 (h.fr i hi).1
  rw [Nat.zero_add] at hx
  rw [Nat.zero_add]
  by_cases e : i = j
  · subst e
    rw [List.getElem?_set_self (by rw [h.len]; exact hi)] at hu
    cases hu
    exact World.cell?_setCell_same _ _ _ hx
  · rw [List.getElem?_set_ne e] at hu
    rw [World.cell?_setCell_other _ _ _ _ (fun e2 => e (by cases e2; rfl))]
    exact h.cell j u hu
theorem EvAt.setCells {w : World} {b : Nat} {l : List Value} (h : EvAt w b l) (R : Nat) (hne : b ≠ R) (vs : List Value) : EvAt (w.setCells R 0 vs) b l :=
  ⟨h.len, World.rangeAt_setCells_apart h.all R 0 vs (Or.inl hne), World.there_setCells h.fr R 0 vs⟩
theorem info48 : (Try.prog.info? 48).map (·.size) = some 10 := by kernel_rfl

theorem info48e (k : ByteArray) (pos : Int) (name er s p o : ByteArray) (v : Int) (r : ByteArray) (pr : Option Addr) : (Try.prog.info? 48).map (·.size) = some (evl k pos name er s p o v r pr).length := by rw [evl_len]; exact info48
theorem info48s (k : ByteArray) (pos : Int) (name er s p o : ByteArray) (v : Int) (r : ByteArray) (pr : Option Addr) : (Try.prog.info? 48).map (·.size) = some (evl k pos name er s p o v r pr).toArray.size := by rw [List.size_toArray, evl_len]; exact info48
theorem there_evl {w : World} {rb : Nat} (h : w.there rb 0 10) (k : ByteArray) (pos : Int) (name er s p o : ByteArray) (v : Int) (r : ByteArray) (pr : Option Addr) : w.there rb 0 (evl k pos name er s p o v r pr).toArray.size := by rw [List.size_toArray, evl_len]; exact h
theorem there_evl' {w : World} {rb : Nat} (h : w.there rb 0 10) (k : ByteArray) (pos : Int) (name er s p o : ByteArray) (v : Int) (r : ByteArray) (pr : Option Addr) : w.there rb 0 (evl k pos name er s p o v r pr).length := by rw [evl_len]; exact h

/-- The event is read whole, and stored whole into the result's cells. -/
theorem wpList_event_end {w : World} {ops : Array Oper} {o1 o2 : Oper} {a : Act} {Q : Exit → Act → World → Prop} (l : List Value) (eb rb : Nat) (h : EvAt w eb l) (ht : w.there rb 0 10) (h1 : l.all (·.oneCell') = true)
    (g1 : o1.guard = none) (g2 : o2.guard = none) (x y z : Operand) (e1 : o1.op = .load 48 x) (e2 : o2.op = .store 48 y z) (hx : a.eval x = .pointer (some ⟨eb, 0, none⟩))
    (hy : (a.put o1.dst (.agg l.toArray)).eval y = .pointer (some ⟨rb, 0, none⟩)) (hz : (a.put o1.dst (.agg l.toArray)).eval z = .agg l.toArray)
    (hK : wpList Try.prog ops Q [] ((a.put o1.dst (.agg l.toArray)).put o2.dst undef) (w.setCells rb 0 l)) : wpList Try.prog ops Q [o1, o2] a w := by
  refine wpList_load_mid g1 48 x e1 eb 0 hx l _ h.all Try.underlying48 rfl (by rw [h.len]; exact info48) ?_
  refine wpList_store_mid g2 48 y z e2 rb 0 l.toArray hy hz (by simpa [h.len] using ht) (by simp [h.len, info48]) (all_oneCell_toArray (fun v hv => List.all_eq_true.1 h1 v hv)) ?_
  simpa using hK

theorem hide2 {p : Prop} (h : p) : Hid p := h
theorem ev_two (W : World) (l0 l : List Value) (h0 : l0.length = 10) (hl : l.length = 10) :
    EvAt ((W.alloc (.cells l0.toArray 48)).alloc (.cells l.toArray 48)) (W.heap.size + 1) l ∧ ((W.alloc (.cells l0.toArray 48)).alloc (.cells l.toArray 48)).there W.heap.size 0 10 ∧
    Below W.heap.size W ((W.alloc (.cells l0.toArray 48)).alloc (.cells l.toArray 48)) := by
  have h1 := EvAt.of_alloc W l0 48 h0
  have h2 := EvAt.of_alloc (W.alloc (.cells l0.toArray 48)) l 48 hl
  refine ⟨by simpa using h2, (h1.below ((Below.refl _ _).alloc (Nat.le_refl _) _)).fr, ((Below.refl _ _).alloc (Nat.le_refl _) _).alloc (by simp) _⟩

/-- What is held of the copied edge while its fields are read. -/
abbrev SE (s p o : ByteArray) (ref : List Value) (eb : Nat) (w : World) : Prop :=
  w.cell? ⟨eb, 0, none⟩ = some (.string s) ∧ w.cell? ⟨eb, 1, none⟩ = some (.string p) ∧ w.cell? ⟨eb, 2, none⟩ = some (.string o) ∧ w.rangeAt eb 4 ref
theorem SE.below {s p o : ByteArray} {ref : List Value} {eb : Nat} {w w' : World} (h : SE s p o ref eb w) (hb : Below w.heap.size w w') : SE s p o ref eb w' :=
  ⟨cell_below hb h.1, cell_below hb h.2.1, cell_below hb h.2.2.1, rangeAt_below hb h.2.2.2⟩
theorem SE.set {s p o : ByteArray} {ref : List Value} {eb : Nat} {w : World} (h : SE s p o ref eb w) (b i : Nat) (hne : eb ≠ b) (v : Value) : SE s p o ref eb (w.setCell ⟨b, i, none⟩ v) := by
  have hc : ∀ j, (w.setCell ⟨b, i, none⟩ v).cell? ⟨eb, j, none⟩ = w.cell? ⟨eb, j, none⟩ := fun j => World.cell?_setCell_other _ _ _ _ (fun e => hne (by cases e; rfl))
  exact ⟨by rw [hc]; exact h.1, by rw [hc]; exact h.2.1, by rw [hc]; exact h.2.2.1, rangeAt_setCell h.2.2.2 _ hne v⟩
theorem SE.drew {s p o : ByteArray} {ref : List Value} {eb : Nat} {w : World} (h : SE s p o ref eb w) : SE s p o ref eb w.drew := h.below (Below.refl _ _).drew

theorem edge_at {w : World} {b : Nat} {s p o : ByteArray} {q : Option Addr} {ref : List Value} {n1 n2 : Int} (h : w.rangeAt b 0 (edgeCells s p o q ref n1 n2)) : SE s p o ref b w ∧ w.cell? ⟨b, 3, none⟩ = some (.pointer q) := by
  refine ⟨⟨?_, ?_, ?_, fun j v hv => ?_⟩, ?_⟩
  · simpa using h 0 _ rfl
  · simpa using h 1 _ rfl
  · simpa using h 2 _ rfl
  · have hj := (List.getElem?_eq_some_iff.1 hv).1
    have := h (4 + j) v (by
      unfold edgeCells
      rw [List.append_assoc, List.getElem?_append_right (by simp), List.getElem?_append_left (by simpa using hj)]
      simpa using hv)
    rwa [Nat.zero_add] at this
  · simpa using h 3 _ rfl

set_option maxHeartbeats 4000000 in
set_option maxRecDepth 100000 in
theorem event_edge (c : Chg) (xs ys : List Int) (w : World) (he : IsRef c.eref xs) (hv : IsRef c.vref ys) (hk : c.kind = kEdge) :
    Calls Try.prog 16 #[c.val] w fun e w' => e = .returned (evt kEdge c.pos emp (refText xs) c.subj c.pred c.obj 0 emp c.ep) ∧ Below w.heap.size w w' := by
  have le := he.length
  have lv := hv.length
  go_enter Try.func16, Try.ntmps16
  go_wp2_with (refine wpList_box rfl 44 _ rfl c rfl le lv ?_)
  intro W hW hb hsz
  have d0 := hW.c0
  have d1 := hW.c1
  rw [hk] at d0
  unfold kEdge at d0
  have lt := hW.lt
  have HE := hW.edge
  clear hsz hW
  obtain ⟨ev, th, bw⟩ := ev_two W [.string emp, .int .i64 0, .string emp, .string emp, .string emp, .string emp, .string emp, .int .i64 0, .string emp, .pointer none] [.string kEdge, .int .i64 c.pos, .string emp, .string emp, .string emp, .string emp, .string emp, .int .i64 0, .string emp, .pointer none] rfl rfl
  have EV := hide2 ev
  have TH := hide2 th
  have BW := hide2 bw
  clear ev th bw
  go_wp2_with (first
    | (refine wpList_load_mid rfl 38 _ rfl w.heap.size 3 rfl (edgeCells c.subj c.pred c.obj c.ep c.eref c.epos c.etomb) _ (by exact World.rangeAt_alloc (World.rangeAt_alloc HE _) _) Try.underlying38 rfl (by rw [length_edge le]; exact info38) ?_)
    | (refine wpList_alloc rfl 38 38 rfl zeroSize38 runAlloc38 ?_; intro W3 ht3 hb3 hz3; clear hz3)
    | (refine wpList_store_mid (by rfl) 38 _ _ (by rfl) _ 0 (edgeCells c.subj c.pred c.obj c.ep c.eref c.epos c.etomb).toArray (by rfl) (by rfl) ?_ (by rw [info38]; simp [length_edge le]) (one_edge he) ?_; (simpa [length_edge le] using ht3)))
  simp only [World.size_alloc] at hb3 ⊢
  have ev3 := EV.out.below (hb3.mono (by simp))
  have th3 := there_below (hb3.mono (by simp)) TH.out
  have hb3' : Below W.heap.size W W3 := BW.out.trans (hb3.mono (by omega))
  clear hb3 HE d0 d1 EV TH BW
  have evd := ev3.setCells (W.heap.size + 1 + 1) (by omega) (edgeCells c.subj c.pred c.obj c.ep c.eref c.epos c.etomb)
  have thd := World.there_setCells th3 (W.heap.size + 1 + 1) 0 (edgeCells c.subj c.pred c.obj c.ep c.eref c.epos c.etomb)
  have erd := World.rangeAt_setCells_same W3 (W.heap.size + 1 + 1) 0 (edgeCells c.subj c.pred c.obj c.ep c.eref c.epos c.etomb) (by simpa [length_edge le] using ht3)
  have bd : Below w.heap.size w (W3.setCells (W.heap.size + 1 + 1) 0 (edgeCells c.subj c.pred c.obj c.ep c.eref c.epos c.etomb)) := below_setCells _ (by omega) _ _ _ (hb.trans (hb3'.mono hb.size))
  clear ev3 th3 ht3 hb3' hb
  have ne1 : W.heap.size + 1 + 1 ≠ W.heap.size + 1 := by omega
  have ge1 : w.heap.size ≤ W.heap.size + 1 := by omega
  have ge0 : w.heap.size ≤ W.heap.size := by omega
  have ne2 : W.heap.size + 1 ≠ W.heap.size := by omega
  generalize W3.setCells (W.heap.size + 1 + 1) 0 (edgeCells c.subj c.pred c.obj c.ep c.eref c.epos c.etomb) = Wd at *
  generalize W.heap.size + 1 + 1 = eb at *
  generalize W.heap.size + 1 = vb at *
  generalize W.heap.size = rb at *
  obtain ⟨hS, hp⟩ := edge_at erd
  clear erd
  have hu36 := Try.underlying36
  have hi36 : (Try.prog.info? 36).map (·.size) = some c.eref.length := by rw [le]; exact rowInfo36
  refine wp_region_noPanic ?_
  refine wp_region_held_drew (S := SE c.subj c.pred c.obj c.eref eb) (by kernel_rfl) (SE.drew hS) (fun hHeld => ?_)
  clear hS
  refine take_list (i := 0) (v := ?_) rfl (by kernel_rfl) (by kernel_rfl) (by kernel_rfl) (fun _ _ _ h => h) (by assumption) (Or.inl ⟨by rfl, ?_⟩) ?_
  rotate_left
  · (intro w hSw; (try dsimp only at hSw); go_simp; try with_reducible rfl)
  try simp only [Act.put, List.setIfInBounds_toArray, List.set_cons_zero, List.set_cons_succ]
  refine take_list (i := 1) rfl (by kernel_rfl) (by kernel_rfl) (by kernel_rfl) (fun _ _ _ h => h) (by assumption) (yieldsIf_load_mid (by rfl) 36 _ rfl eb 4 rfl c.eref _ (fun w hw => hw.2.2.2) hu36 rfl hi36) ?_
  try simp only [Act.put, List.setIfInBounds_toArray, List.set_cons_zero, List.set_cons_succ]
  refine take_list (i := 3) (v := ?_) rfl (by kernel_rfl) (by kernel_rfl) (by kernel_rfl) (fun _ _ _ h => h) (by assumption) (Or.inl ⟨by rfl, ?_⟩) ?_
  rotate_left
  · (intro w hSw; (try dsimp only at hSw); go_simp; try with_reducible rfl)
  try simp only [Act.put, List.setIfInBounds_toArray, List.set_cons_zero, List.set_cons_succ]
  refine take_list (i := 4) (v := ?_) rfl (by kernel_rfl) (by kernel_rfl) (by kernel_rfl) (fun _ _ _ h => h) (by assumption) (Or.inl ⟨by rfl, ?_⟩) ?_
  rotate_left
  · (intro w hSw; (try dsimp only at hSw); go_simp; try with_reducible rfl)
  try simp only [Act.put, List.setIfInBounds_toArray, List.set_cons_zero, List.set_cons_succ]
  refine take_list (i := 5) (v := ?_) rfl (by kernel_rfl) (by kernel_rfl) (by kernel_rfl) (fun _ _ _ h => h) (by assumption) (Or.inl ⟨by rfl, ?_⟩) ?_
  rotate_left
  · (intro w hSw; (try dsimp only at hSw); go_simp; try with_reducible rfl)
  try simp only [Act.put, List.setIfInBounds_toArray, List.set_cons_zero, List.set_cons_succ]
  refine take_list (i := 6) (v := ?_) rfl (by kernel_rfl) (by kernel_rfl) (by kernel_rfl) (fun _ _ _ h => h) (by assumption) (Or.inl ⟨by rfl, ?_⟩) ?_
  rotate_left
  · (intro w hSw; (try dsimp only at hSw); go_simp; try with_reducible rfl)
  try simp only [Act.put, List.setIfInBounds_toArray, List.set_cons_zero, List.set_cons_succ]
  refine take_list (i := 7) (v := ?_) rfl (by kernel_rfl) (by kernel_rfl) (by kernel_rfl) (fun _ _ _ h => h) (by assumption) (Or.inl ⟨by rfl, ?_⟩) ?_
  rotate_left
  · (intro w hSw; (try dsimp only at hSw); go_simp; try with_reducible rfl)
  try simp only [Act.put, List.setIfInBounds_toArray, List.set_cons_zero, List.set_cons_succ]
  refine take_list (i := 8) (v := ?_) rfl (by kernel_rfl) (by kernel_rfl) (by kernel_rfl) (fun _ _ _ h => h) (by assumption) (Or.inl ⟨by rfl, ?_⟩) ?_
  rotate_left
  · (intro w hSw; (try dsimp only at hSw); go_simp; try with_reducible rfl)
  try simp only [Act.put, List.setIfInBounds_toArray, List.set_cons_zero, List.set_cons_succ]
  refine take_list (i := 9) (v := ?_) rfl (by kernel_rfl) (by kernel_rfl) (by kernel_rfl) (fun _ _ _ h => h) (by assumption) (Or.inl ⟨by rfl, ?_⟩) ?_
  rotate_left
  · (intro w hSw; (try dsimp only at hSw); go_simp; try with_reducible rfl)
  try simp only [Act.put, List.setIfInBounds_toArray, List.set_cons_zero, List.set_cons_succ]
  refine take_list (i := 10) (v := ?_) rfl (by kernel_rfl) (by kernel_rfl) (by kernel_rfl) (fun _ _ _ h => h) (by assumption) (Or.inl ⟨by rfl, ?_⟩) ?_
  rotate_left
  · (intro w hSw; (try dsimp only at hSw); go_simp; try with_reducible rfl)
  try simp only [Act.put, List.setIfInBounds_toArray, List.set_cons_zero, List.set_cons_succ]
  refine take_list (i := 11) (v := ?_) rfl (by kernel_rfl) (by kernel_rfl) (by kernel_rfl) (fun _ _ _ h => h) (by assumption) (Or.inl ⟨by rfl, ?_⟩) ?_
  rotate_left
  · (intro w hSw; (try dsimp only at hSw); go_simp; try with_reducible rfl)
  try simp only [Act.put, List.setIfInBounds_toArray, List.set_cons_zero, List.set_cons_succ]
  refine wpAnyH_ready (rs := [2]) (by kernel_rfl) (by simp) ?_
  refine cons_list rfl ?_ AllReadyH.nil
  intro K hK
  go_simp
  refine (string_any c.eref xs he _).mono ?_
  rintro e w1 ⟨rfl, hb1⟩
  refine hK.out _ _ (SE.below (by assumption) hb1) (fun hHeld => ?_)
  clear hK K
  try simp only [Act.put, List.setIfInBounds_toArray, List.set_cons_zero, List.set_cons_succ]
  have hb1' : Below Wd.heap.size Wd w1 := (Below.refl _ Wd).drew.trans hb1
  have ev1 := evd.below hb1'
  have th1 := there_below hb1' thd
  have hp1 := cell_below hb1' hp
  have bd1 : Below w.heap.size w w1 := bd.trans (hb1'.mono bd.size)
  clear evd thd hp bd hb1 hb1'
  have f3 := ev1.frz 3 (by omega)
  have f4 := ev1.frz 4 (by omega)
  have f5 := ev1.frz 5 (by omega)
  have f6 := ev1.frz 6 (by omega)
  have k3 := ev1.cell 3 _ rfl
  have k4 := ev1.cell 4 _ rfl
  have k5 := ev1.cell 5 _ rfl
  have k6 := ev1.cell 6 _ rfl
  refine take_list (i := 12) (v := ?_) rfl (by kernel_rfl) (by kernel_rfl) (by kernel_rfl) (fun _ _ _ h => h) (by assumption) (Or.inl ⟨by rfl, ?_⟩) ?_
  rotate_left
  · (intro w hSw; (try dsimp only at hSw); go_simp; try with_reducible rfl)
  try simp only [Act.put, List.setIfInBounds_toArray, List.set_cons_zero, List.set_cons_succ]
  refine wpAnyH_ready (rs := [13]) (by kernel_rfl) (by simp) ?_
  refine cons_list rfl ?_ AllReadyH.nil
  intro K hK
  go_simp
  refine hK.out _ _ (SE.set (by assumption) vb _ ne1 _) (fun hHeld => ?_)
  clear hK K
  try simp only [Act.put, List.setIfInBounds_toArray, List.set_cons_zero, List.set_cons_succ]
  refine take_list (i := 14) (v := ?_) rfl (by kernel_rfl) (by kernel_rfl) (by kernel_rfl) (fun _ _ _ h => h) (by assumption) (Or.inl ⟨by rfl, ?_⟩) ?_
  rotate_left
  · (intro w hSw; (try dsimp only at hSw); go_simp; try with_reducible rfl)
  try simp only [Act.put, List.setIfInBounds_toArray, List.set_cons_zero, List.set_cons_succ]
  refine wpAnyH_ready (rs := [15]) (by kernel_rfl) (by simp) ?_
  refine cons_list rfl ?_ AllReadyH.nil
  intro K hK
  go_simp
  refine hK.out _ _ (SE.set (by assumption) vb _ ne1 _) (fun hHeld => ?_)
  clear hK K
  try simp only [Act.put, List.setIfInBounds_toArray, List.set_cons_zero, List.set_cons_succ]
  refine take_list (i := 16) (v := ?_) rfl (by kernel_rfl) (by kernel_rfl) (by kernel_rfl) (fun _ _ _ h => h) (by assumption) (Or.inl ⟨by rfl, ?_⟩) ?_
  rotate_left
  · (intro w hSw; (try dsimp only at hSw); go_simp; try with_reducible rfl)
  try simp only [Act.put, List.setIfInBounds_toArray, List.set_cons_zero, List.set_cons_succ]
  refine wpAnyH_ready (rs := [17]) (by kernel_rfl) (by simp) ?_
  refine cons_list rfl ?_ AllReadyH.nil
  intro K hK
  go_simp
  refine hK.out _ _ (SE.set (by assumption) vb _ ne1 _) (fun hHeld => ?_)
  clear hK K
  try simp only [Act.put, List.setIfInBounds_toArray, List.set_cons_zero, List.set_cons_succ]
  refine take_list (i := 18) (v := ?_) rfl (by kernel_rfl) (by kernel_rfl) (by kernel_rfl) (fun _ _ _ h => h) (by assumption) (Or.inl ⟨by rfl, ?_⟩) ?_
  rotate_left
  · (intro w hSw; (try dsimp only at hSw); go_simp; try with_reducible rfl)
  try simp only [Act.put, List.setIfInBounds_toArray, List.set_cons_zero, List.set_cons_succ]
  refine wpAnyH_ready (rs := [19]) (by kernel_rfl) (by simp) ?_
  refine cons_list rfl ?_ AllReadyH.nil
  intro K hK
  go_simp
  refine hK.out _ _ (SE.set (by assumption) vb _ ne1 _) (fun hHeld => ?_)
  clear hK K
  try simp only [Act.put, List.setIfInBounds_toArray, List.set_cons_zero, List.set_cons_succ]
  refine wpAnyH_done (by kernel_rfl) ?_ _
  refine NoPanic.normal ?_
  have evf := (((ev1.set 3 (by omega) (.string (refText xs))).set 4 (by omega) (.string c.subj)).set 5 (by omega) (.string c.pred)).set 6 (by omega) (.string c.obj)
  have thf := there_setCell (there_setCell (there_setCell (there_setCell th1 ⟨vb, 3, none⟩ (.string (refText xs))) ⟨vb, 4, none⟩ (.string c.subj)) ⟨vb, 5, none⟩ (.string c.pred)) ⟨vb, 6, none⟩ (.string c.obj)
  have bdf := (((bd1.setCell (p := ⟨vb, 3, none⟩) ge1 (.string (refText xs))).setCell (p := ⟨vb, 4, none⟩) ge1 (.string c.subj)).setCell (p := ⟨vb, 5, none⟩) ge1 (.string c.pred)).setCell (p := ⟨vb, 6, none⟩) ge1 (.string c.obj)
  have hpf : ((((w1.setCell ⟨vb, 3, none⟩ (.string (refText xs))).setCell ⟨vb, 4, none⟩ (.string c.subj)).setCell ⟨vb, 5, none⟩ (.string c.pred)).setCell ⟨vb, 6, none⟩ (.string c.obj)).cell? ⟨eb, 3, none⟩ = some (.pointer c.ep) := by
    have hno : ∀ j, (⟨vb, j, none⟩ : Addr) ≠ ⟨eb, 3, none⟩ := fun j e => ne1 (by cases e; rfl)
    rw [World.cell?_setCell_other _ _ _ _ (hno 6), World.cell?_setCell_other _ _ _ _ (hno 5), World.cell?_setCell_other _ _ _ _ (hno 4), World.cell?_setCell_other _ _ _ _ (hno 3)]
    exact hp1
  clear ev1 th1 bd1 hp1 f3 f4 f5 f6 k3 k4 k5 k6
  generalize (((w1.setCell ⟨vb, 3, none⟩ (.string (refText xs))).setCell ⟨vb, 4, none⟩ (.string c.subj)).setCell ⟨vb, 5, none⟩ (.string c.pred)).setCell ⟨vb, 6, none⟩ (.string c.obj) = Wf at *
  have f9 := evf.frz 9 (by omega)
  have k9 := evf.cell 9 _ rfl
  have evg : EvAt (Wf.setCell ⟨vb, 9, none⟩ (.pointer c.ep)) vb (evl kEdge c.pos emp (refText xs) c.subj c.pred c.obj 0 emp c.ep) := evf.set 9 (by omega) (.pointer c.ep)
  have thg := there_setCell thf ⟨vb, 9, none⟩ (.pointer c.ep)
  have bdg := bdf.setCell (p := ⟨vb, 9, none⟩) ge1 (.pointer c.ep)
  clear evf thf bdf
  have EVG := hide2 evg
  have THG := hide2 thg
  clear evg thg
  go_wp2_with (first
    | (refine wpList_load_mid (by rfl) 48 _ (by rfl) vb 0 (by rfl) (evl kEdge c.pos emp (refText xs) c.subj c.pred c.obj 0 emp c.ep) _ ?_ Try.underlying48 rfl (info48e _ _ _ _ _ _ _ _ _ _) ?_; exact EVG.out.all)
    | (refine wpList_store_mid (by rfl) 48 _ _ (by rfl) rb 0 (evl kEdge c.pos emp (refText xs) c.subj c.pred c.obj 0 emp c.ep).toArray (by rfl) (by rfl) ?_ (info48s _ _ _ _ _ _ _ _ _ _) (evl_all _ _ _ _ _ _ _ _ _ _) ?_; (exact there_evl THG.out _ _ _ _ _ _ _ _ _ _); have rz := World.rangeAt_setCells_same (Wf.setCell ⟨vb, 9, none⟩ (.pointer c.ep)) rb 0 (evl kEdge c.pos emp (refText xs) c.subj c.pred c.obj 0 emp c.ep) (there_evl' THG.out _ _ _ _ _ _ _ _ _ _); have bz := below_setCells rb ge0 (evl kEdge c.pos emp (refText xs) c.subj c.pred c.obj 0 emp c.ep) 0 _ bdg; rw [List.toList_toArray]; generalize (Wf.setCell ⟨vb, 9, none⟩ (.pointer c.ep)).setCells rb 0 (evl kEdge c.pos emp (refText xs) c.subj c.pred c.obj 0 emp c.ep) = Wz at *))
  exact bodyPost_ret (v := evt kEdge c.pos emp (refText xs) c.subj c.pred c.obj 0 emp c.ep) (results_range Try.results16 _ _ rb rfl _ rz _ Try.underlying48 rfl (info48e _ _ _ _ _ _ _ _ _ _)) rfl ⟨rfl, bz⟩
end Go.Proofs.Qxb6625833a
