/-
  OUR OWN WORK. Seat b6625833a: eventOf (function 16), the other kinds: an edge's tombstone, a version's addition, its tombstone, a kind outside the five.
-/
import Derived.Test.Qxb6625833aEvent
namespace Go.Proofs.Qxb6625833a
open Go.RowKit Go.Lib

set_option maxHeartbeats 4000000 in
set_option maxRecDepth 100000 in
theorem event_edgeT (c : Chg) (xs ys : List Int) (w : World) (he : IsRef c.eref xs) (hv : IsRef c.vref ys) (hk : c.kind = kEdgeT) :
    Calls Try.prog 16 #[c.val] w fun e w' => e = .returned (evt kEdgeT c.pos emp (refText xs) emp emp emp 0 emp none) ∧ Below w.heap.size w w' := by
  have le := he.length
  have lv := hv.length
  go_enter Try.func16, Try.ntmps16
  go_wp2_with (refine wpList_box rfl 44 _ rfl c rfl le lv ?_)
  intro W hW hb hsz
  have d0 := hW.c0
  have d1 := hW.c1
  rw [hk] at d0
  unfold kEdgeT at d0
  have lt := hW.lt
  clear hsz
  obtain ⟨ev, th, bw⟩ := ev_two W [.string { data := #[] }, .int .i64 0, .string { data := #[] }, .string { data := #[] }, .string { data := #[] }, .string { data := #[] }, .string { data := #[] }, .int .i64 0, .string { data := #[] }, .pointer none] [.string { data := #[101, 100, 103, 101, 95, 116, 111, 109, 98, 115, 116, 111, 110, 101, 100] }, .int .i64 c.pos, .string { data := #[] }, .string { data := #[] }, .string { data := #[] }, .string { data := #[] }, .string { data := #[] }, .int .i64 0, .string { data := #[] }, .pointer none] rfl rfl
  have EV := hide2 ev
  have TH := hide2 th
  have BW := hide2 bw
  clear ev th bw
  have HR := hW.ref
  clear hW
  go_wp2_with (refine wpList_load_mid (by rfl) 36 _ (by rfl) w.heap.size 7 (by rfl) c.eref _ ?_ Try.underlying36 rfl (by rw [le]; exact rowInfo36) ?_; exact World.rangeAt_alloc (World.rangeAt_alloc HR _) _)
  refine (string_any c.eref xs he _).mono ?_
  rintro e w1 ⟨rfl, hb1⟩
  have ev1 := EV.out.below (hb1.mono (by simp))
  have th1 := there_below (hb1.mono (by simp)) TH.out
  have bd1 : Below w.heap.size w w1 := hb.trans ((BW.out.trans (hb1.mono (by simp; omega))).mono hb.size)
  have ge1 : w.heap.size ≤ W.heap.size + 1 := by omega
  have ge0 : w.heap.size ≤ W.heap.size := by omega
  clear hb1 HR d0 d1 EV TH BW hb
  have f3 := ev1.frz 3 (by omega)
  have k3 := ev1.cell 3 _ rfl
  have evg : EvAt (w1.setCell ⟨W.heap.size + 1, 3, none⟩ (.string (refText xs))) (W.heap.size + 1) (evl kEdgeT c.pos emp (refText xs) emp emp emp 0 emp none) := ev1.set 3 (by omega) (.string (refText xs))
  have thg := there_setCell th1 ⟨W.heap.size + 1, 3, none⟩ (.string (refText xs))
  have bdg := bd1.setCell (p := ⟨W.heap.size + 1, 3, none⟩) ge1 (.string (refText xs))
  clear ev1 th1 bd1
  have EVG := hide2 evg
  have THG := hide2 thg
  clear evg thg
  generalize W.heap.size + 1 = vb at *
  generalize W.heap.size = rb at *
  go_wp2_with (first
    | (refine wpList_load_mid (by rfl) 48 _ (by rfl) vb 0 (by rfl) (evl kEdgeT c.pos emp (refText xs) emp emp emp 0 emp none) _ ?_ Try.underlying48 rfl (info48e _ _ _ _ _ _ _ _ _ _) ?_; exact EVG.out.all)
    | (refine wpList_store_mid (by rfl) 48 _ _ (by rfl) rb 0 (evl kEdgeT c.pos emp (refText xs) emp emp emp 0 emp none).toArray (by rfl) (by rfl) ?_ (info48s _ _ _ _ _ _ _ _ _ _) (evl_all _ _ _ _ _ _ _ _ _ _) ?_; (exact there_evl THG.out _ _ _ _ _ _ _ _ _ _); have rz := World.rangeAt_setCells_same (w1.setCell ⟨vb, 3, none⟩ (.string (refText xs))) rb 0 (evl kEdgeT c.pos emp (refText xs) emp emp emp 0 emp none) (there_evl' THG.out _ _ _ _ _ _ _ _ _ _); have bz := below_setCells rb ge0 (evl kEdgeT c.pos emp (refText xs) emp emp emp 0 emp none) 0 _ bdg; rw [List.toList_toArray]; generalize (w1.setCell ⟨vb, 3, none⟩ (.string (refText xs))).setCells rb 0 (evl kEdgeT c.pos emp (refText xs) emp emp emp 0 emp none) = Wz at *))
  exact bodyPost_ret (v := evt kEdgeT c.pos emp (refText xs) emp emp emp 0 emp none) (results_range Try.results16 _ _ rb rfl _ rz _ Try.underlying48 rfl (info48e _ _ _ _ _ _ _ _ _ _)) rfl ⟨rfl, bz⟩

/-- What is held of the copied version while its fields are read. -/
abbrev SV (v : ByteArray) (ref : List Value) (q : Option Addr) (n : Int) (eb : Nat) (w : World) : Prop :=
  w.cell? ⟨eb, 0, none⟩ = some (.string v) ∧ w.rangeAt eb 1 ref ∧ w.cell? ⟨eb, 33, none⟩ = some (.pointer q) ∧ w.cell? ⟨eb, 34, none⟩ = some (.int .i64 n)
theorem SV.below {v : ByteArray} {ref : List Value} {q : Option Addr} {n : Int} {eb : Nat} {w w' : World} (h : SV v ref q n eb w) (hb : Below w.heap.size w w') : SV v ref q n eb w' :=
  ⟨cell_below hb h.1, rangeAt_below hb h.2.1, cell_below hb h.2.2.1, cell_below hb h.2.2.2⟩
theorem SV.set {v : ByteArray} {ref : List Value} {q : Option Addr} {n : Int} {eb : Nat} {w : World} (h : SV v ref q n eb w) (b i : Nat) (hne : eb ≠ b) (x : Value) : SV v ref q n eb (w.setCell ⟨b, i, none⟩ x) := by
  have hc : ∀ j, (w.setCell ⟨b, i, none⟩ x).cell? ⟨eb, j, none⟩ = w.cell? ⟨eb, j, none⟩ := fun j => World.cell?_setCell_other _ _ _ _ (fun e => hne (by cases e; rfl))
  exact ⟨by rw [hc]; exact h.1, rangeAt_setCell h.2.1 _ hne x, by rw [hc]; exact h.2.2.1, by rw [hc]; exact h.2.2.2⟩
theorem SV.drew {v : ByteArray} {ref : List Value} {q : Option Addr} {n : Int} {eb : Nat} {w : World} (h : SV v ref q n eb w) : SV v ref q n eb w.drew := h.below (Below.refl _ _).drew
theorem ver_at {w : World} {b : Nat} {v : ByteArray} {q : Option Addr} {ref : List Value} {n1 n2 n3 : Int} (hl : ref.length = 32) (h : w.rangeAt b 0 (verCells v ref q n1 n2 n3)) : SV v ref q n1 b w := by
  refine ⟨?_, fun j x hx => ?_, ?_, ?_⟩
  · simpa using h 0 _ rfl
  · have hj := (List.getElem?_eq_some_iff.1 hx).1
    have := h (1 + j) x (by
      unfold verCells
      rw [List.append_assoc, List.getElem?_append_right (by simp), List.getElem?_append_left (by simpa using hj)]
      simpa using hx)
    rwa [Nat.zero_add] at this
  · have := h 33 (.pointer q) (by
      unfold verCells
      rw [List.getElem?_append_right (by simp [hl])]
      simp [hl])
    rwa [Nat.zero_add] at this
  · have := h 34 (.int .i64 n1) (by
      unfold verCells
      rw [List.getElem?_append_right (by simp [hl])]
      simp [hl])
    rwa [Nat.zero_add] at this

set_option maxHeartbeats 4000000 in
set_option maxRecDepth 100000 in
theorem event_ver (c : Chg) (xs ys : List Int) (w : World) (he : IsRef c.eref xs) (hv : IsRef c.vref ys) (hk : c.kind = kVer) :
    Calls Try.prog 16 #[c.val] w fun e w' => e = .returned (evt kVer c.pos c.vname emp emp emp emp c.num (refText ys) c.vp) ∧ Below w.heap.size w w' := by
  have le := he.length
  have lv := hv.length
  go_enter Try.func16, Try.ntmps16
  go_wp2_with (refine wpList_box rfl 44 _ rfl c rfl le lv ?_)
  intro W hW hb hsz
  have d0 := hW.c0
  have d1 := hW.c1
  rw [hk] at d0
  unfold kVer at d0
  have lt := hW.lt
  clear hsz
  obtain ⟨ev, th, bw⟩ := ev_two W [.string { data := #[] }, .int .i64 0, .string { data := #[] }, .string { data := #[] }, .string { data := #[] }, .string { data := #[] }, .string { data := #[] }, .int .i64 0, .string { data := #[] }, .pointer none] [.string { data := #[118, 101, 114, 115, 105, 111, 110, 95, 97, 100, 100, 101, 100] }, .int .i64 c.pos, .string { data := #[] }, .string { data := #[] }, .string { data := #[] }, .string { data := #[] }, .string { data := #[] }, .int .i64 0, .string { data := #[] }, .pointer none] rfl rfl
  have EV := hide2 ev
  have TH := hide2 th
  have BW := hide2 bw
  clear ev th bw
  have HE := hW.ver
  clear hW
  go_wp2_with (first
    | (refine wpList_load_mid rfl 42 _ rfl w.heap.size 41 rfl (verCells c.vname c.vref c.vp c.num c.vpos c.vtomb) _ (by exact World.rangeAt_alloc (World.rangeAt_alloc HE _) _) Try.underlying42 rfl (by rw [length_ver lv]; exact info42) ?_)
    | (refine wpList_alloc rfl 42 37 rfl zeroSize42 runAlloc42 ?_; intro W3 ht3 hb3 hz3; clear hz3)
    | (refine wpList_store_mid (by rfl) 42 _ _ (by rfl) _ 0 (verCells c.vname c.vref c.vp c.num c.vpos c.vtomb).toArray (by rfl) (by rfl) ?_ (by rw [info42]; simp [length_ver lv]) (one_ver hv) ?_; (simpa [length_ver lv] using ht3)))
  simp only [World.size_alloc] at hb3 ⊢
  have ev3 := EV.out.below (hb3.mono (by simp))
  have th3 := there_below (hb3.mono (by simp)) TH.out
  have hb3' : Below W.heap.size W W3 := BW.out.trans (hb3.mono (by omega))
  clear hb3 HE d0 d1 EV TH BW
  have evd := ev3.setCells (W.heap.size + 1 + 1) (by omega) (verCells c.vname c.vref c.vp c.num c.vpos c.vtomb)
  have thd := World.there_setCells th3 (W.heap.size + 1 + 1) 0 (verCells c.vname c.vref c.vp c.num c.vpos c.vtomb)
  have erd := World.rangeAt_setCells_same W3 (W.heap.size + 1 + 1) 0 (verCells c.vname c.vref c.vp c.num c.vpos c.vtomb) (by simpa [length_ver lv] using ht3)
  have bd : Below w.heap.size w (W3.setCells (W.heap.size + 1 + 1) 0 (verCells c.vname c.vref c.vp c.num c.vpos c.vtomb)) := below_setCells _ (by omega) _ _ _ (hb.trans (hb3'.mono hb.size))
  clear ev3 th3 ht3 hb3' hb
  have ne1 : W.heap.size + 1 + 1 ≠ W.heap.size + 1 := by omega
  have ge1 : w.heap.size ≤ W.heap.size + 1 := by omega
  have ge0 : w.heap.size ≤ W.heap.size := by omega
  generalize W3.setCells (W.heap.size + 1 + 1) 0 (verCells c.vname c.vref c.vp c.num c.vpos c.vtomb) = Wd at *
  generalize W.heap.size + 1 + 1 = eb at *
  generalize W.heap.size + 1 = vb at *
  generalize W.heap.size = rb at *
  have hS := ver_at lv erd
  clear erd
  have hu36 := Try.underlying36
  have hi36 : (Try.prog.info? 36).map (·.size) = some c.vref.length := by rw [lv]; exact rowInfo36
  refine wp_region_noPanic ?_
  refine wp_region_held_drew (S := SV c.vname c.vref c.vp c.num eb) (by kernel_rfl) (SV.drew hS) (fun hHeld => ?_)
  clear hS
  refine take_list (i := 0) (v := ?_) rfl (by kernel_rfl) (by kernel_rfl) (by kernel_rfl) (fun _ _ _ h => h) (by assumption) (Or.inl ⟨by rfl, ?_⟩) ?_
  rotate_left
  · (intro w hSw; (try dsimp only at hSw); go_simp; try with_reducible rfl)
  try simp only [Act.put, List.setIfInBounds_toArray, List.set_cons_zero, List.set_cons_succ]
  refine take_list (i := 1) (v := ?_) rfl (by kernel_rfl) (by kernel_rfl) (by kernel_rfl) (fun _ _ _ h => h) (by assumption) (Or.inl ⟨by rfl, ?_⟩) ?_
  rotate_left
  · (intro w hSw; (try dsimp only at hSw); go_simp; try with_reducible rfl)
  try simp only [Act.put, List.setIfInBounds_toArray, List.set_cons_zero, List.set_cons_succ]
  refine take_list (i := 2) (v := ?_) rfl (by kernel_rfl) (by kernel_rfl) (by kernel_rfl) (fun _ _ _ h => h) (by assumption) (Or.inl ⟨by rfl, ?_⟩) ?_
  rotate_left
  · (intro w hSw; (try dsimp only at hSw); go_simp; try with_reducible rfl)
  try simp only [Act.put, List.setIfInBounds_toArray, List.set_cons_zero, List.set_cons_succ]
  refine take_list (i := 3) (v := ?_) rfl (by kernel_rfl) (by kernel_rfl) (by kernel_rfl) (fun _ _ _ h => h) (by assumption) (Or.inl ⟨by rfl, ?_⟩) ?_
  rotate_left
  · (intro w hSw; (try dsimp only at hSw); go_simp; try with_reducible rfl)
  try simp only [Act.put, List.setIfInBounds_toArray, List.set_cons_zero, List.set_cons_succ]
  refine take_list (i := 4) (v := ?_) rfl (by kernel_rfl) (by kernel_rfl) (by kernel_rfl) (fun _ _ _ h => h) (by assumption) (Or.inl ⟨by rfl, ?_⟩) ?_
  rotate_left
  · (intro w hSw; (try dsimp only at hSw); go_simp; try with_reducible rfl)
  try simp only [Act.put, List.setIfInBounds_toArray, List.set_cons_zero, List.set_cons_succ]
  refine take_list (i := 5) (v := ?_) rfl (by kernel_rfl) (by kernel_rfl) (by kernel_rfl) (fun _ _ _ h => h) (by assumption) (Or.inl ⟨by rfl, ?_⟩) ?_
  rotate_left
  · (intro w hSw; (try dsimp only at hSw); go_simp; try with_reducible rfl)
  try simp only [Act.put, List.setIfInBounds_toArray, List.set_cons_zero, List.set_cons_succ]
  refine take_list (i := 6) (v := ?_) rfl (by kernel_rfl) (by kernel_rfl) (by kernel_rfl) (fun _ _ _ h => h) (by assumption) (Or.inl ⟨by rfl, ?_⟩) ?_
  rotate_left
  · (intro w hSw; (try dsimp only at hSw); go_simp; try with_reducible rfl)
  try simp only [Act.put, List.setIfInBounds_toArray, List.set_cons_zero, List.set_cons_succ]
  refine take_list (i := 7) rfl (by kernel_rfl) (by kernel_rfl) (by kernel_rfl) (fun _ _ _ h => h) (by assumption) (yieldsIf_load_mid (by rfl) 36 _ rfl eb 1 rfl c.vref _ (fun w hw => hw.2.1) hu36 rfl hi36) ?_
  try simp only [Act.put, List.setIfInBounds_toArray, List.set_cons_zero, List.set_cons_succ]
  refine take_list (i := 9) (v := ?_) rfl (by kernel_rfl) (by kernel_rfl) (by kernel_rfl) (fun _ _ _ h => h) (by assumption) (Or.inl ⟨by rfl, ?_⟩) ?_
  rotate_left
  · (intro w hSw; (try dsimp only at hSw); go_simp; try with_reducible rfl)
  try simp only [Act.put, List.setIfInBounds_toArray, List.set_cons_zero, List.set_cons_succ]
  refine take_list (i := 10) (v := ?_) rfl (by kernel_rfl) (by kernel_rfl) (by kernel_rfl) (fun _ _ _ h => h) (by assumption) (Or.inl ⟨by rfl, ?_⟩) ?_
  rotate_left
  · (intro w hSw; (try dsimp only at hSw); go_simp; try with_reducible rfl)
  try simp only [Act.put, List.setIfInBounds_toArray, List.set_cons_zero, List.set_cons_succ]
  refine take_list (i := 11) (v := ?_) rfl (by kernel_rfl) (by kernel_rfl) (by kernel_rfl) (fun _ _ _ h => h) (by assumption) (Or.inl ⟨by rfl, ?_⟩) ?_
  rotate_left
  · (intro w hSw; (try dsimp only at hSw); go_simp; try with_reducible rfl)
  try simp only [Act.put, List.setIfInBounds_toArray, List.set_cons_zero, List.set_cons_succ]
  refine take_list (i := 12) (v := ?_) rfl (by kernel_rfl) (by kernel_rfl) (by kernel_rfl) (fun _ _ _ h => h) (by assumption) (Or.inl ⟨by rfl, ?_⟩) ?_
  rotate_left
  · (intro w hSw; (try dsimp only at hSw); go_simp; try with_reducible rfl)
  try simp only [Act.put, List.setIfInBounds_toArray, List.set_cons_zero, List.set_cons_succ]
  refine wpAnyH_ready (rs := [8]) (by kernel_rfl) (by simp) ?_
  refine cons_list rfl ?_ AllReadyH.nil
  intro K hK
  go_simp
  refine (string_any c.vref ys hv _).mono ?_
  rintro e w1 ⟨rfl, hb1⟩
  refine hK.out _ _ (SV.below (by assumption) hb1) (fun hHeld => ?_)
  clear hK K
  try simp only [Act.put, List.setIfInBounds_toArray, List.set_cons_zero, List.set_cons_succ]
  have hb1' : Below Wd.heap.size Wd w1 := (Below.refl _ Wd).drew.trans hb1
  have ev1 := evd.below hb1'
  have th1 := there_below hb1' thd
  have bd1 : Below w.heap.size w w1 := bd.trans (hb1'.mono bd.size)
  clear evd thd bd hb1 hb1'
  have f2 := ev1.frz 2 (by omega)
  have f7 := ev1.frz 7 (by omega)
  have f8 := ev1.frz 8 (by omega)
  have f9 := ev1.frz 9 (by omega)
  have k2 := ev1.cell 2 _ rfl
  have k7 := ev1.cell 7 _ rfl
  have k8 := ev1.cell 8 _ rfl
  have k9 := ev1.cell 9 _ rfl
  refine wpAnyH_ready (rs := [13]) (by kernel_rfl) (by simp) ?_
  refine cons_list rfl ?_ AllReadyH.nil
  intro K hK
  go_simp
  refine hK.out _ _ (SV.set (by assumption) vb _ ne1 _) (fun hHeld => ?_)
  clear hK K
  try simp only [Act.put, List.setIfInBounds_toArray, List.set_cons_zero, List.set_cons_succ]
  refine take_list (i := 14) (v := ?_) rfl (by kernel_rfl) (by kernel_rfl) (by kernel_rfl) (fun _ _ _ h => h) (by assumption) (Or.inl ⟨by rfl, ?_⟩) ?_
  rotate_left
  · (intro w hSw; (try dsimp only at hSw); go_simp; try with_reducible rfl)
  try simp only [Act.put, List.setIfInBounds_toArray, List.set_cons_zero, List.set_cons_succ]
  refine wpAnyH_ready (rs := [15]) (by kernel_rfl) (by simp) ?_
  refine cons_list rfl ?_ AllReadyH.nil
  intro K hK
  go_simp
  refine hK.out _ _ (SV.set (by assumption) vb _ ne1 _) (fun hHeld => ?_)
  clear hK K
  try simp only [Act.put, List.setIfInBounds_toArray, List.set_cons_zero, List.set_cons_succ]
  refine take_list (i := 16) (v := ?_) rfl (by kernel_rfl) (by kernel_rfl) (by kernel_rfl) (fun _ _ _ h => h) (by assumption) (Or.inl ⟨by rfl, ?_⟩) ?_
  rotate_left
  · (intro w hSw; (try dsimp only at hSw); go_simp; try with_reducible rfl)
  try simp only [Act.put, List.setIfInBounds_toArray, List.set_cons_zero, List.set_cons_succ]
  refine wpAnyH_ready (rs := [17]) (by kernel_rfl) (by simp) ?_
  refine cons_list rfl ?_ AllReadyH.nil
  intro K hK
  go_simp
  refine hK.out _ _ (SV.set (by assumption) vb _ ne1 _) (fun hHeld => ?_)
  clear hK K
  try simp only [Act.put, List.setIfInBounds_toArray, List.set_cons_zero, List.set_cons_succ]
  refine take_list (i := 18) (v := ?_) rfl (by kernel_rfl) (by kernel_rfl) (by kernel_rfl) (fun _ _ _ h => h) (by assumption) (Or.inl ⟨by rfl, ?_⟩) ?_
  rotate_left
  · (intro w hSw; (try dsimp only at hSw); go_simp; try with_reducible rfl)
  try simp only [Act.put, List.setIfInBounds_toArray, List.set_cons_zero, List.set_cons_succ]
  refine wpAnyH_ready (rs := [19]) (by kernel_rfl) (by simp) ?_
  refine cons_list rfl ?_ AllReadyH.nil
  intro K hK
  go_simp
  refine hK.out _ _ (SV.set (by assumption) vb _ ne1 _) (fun hHeld => ?_)
  clear hK K
  try simp only [Act.put, List.setIfInBounds_toArray, List.set_cons_zero, List.set_cons_succ]
  refine wpAnyH_done (by kernel_rfl) ?_ _
  refine NoPanic.normal ?_
  have evg : EvAt ((((w1.setCell ⟨vb, 2, none⟩ (.string c.vname)).setCell ⟨vb, 7, none⟩ (.int .i64 c.num)).setCell ⟨vb, 8, none⟩ (.string (refText ys))).setCell ⟨vb, 9, none⟩ (.pointer c.vp)) vb (evl kVer c.pos c.vname emp emp emp emp c.num (refText ys) c.vp) :=
    (((ev1.set 2 (by omega) (.string c.vname)).set 7 (by omega) (.int .i64 c.num)).set 8 (by omega) (.string (refText ys))).set 9 (by omega) (.pointer c.vp)
  have thg := there_setCell (there_setCell (there_setCell (there_setCell th1 ⟨vb, 2, none⟩ (.string c.vname)) ⟨vb, 7, none⟩ (.int .i64 c.num)) ⟨vb, 8, none⟩ (.string (refText ys))) ⟨vb, 9, none⟩ (.pointer c.vp)
  have bdg := (((bd1.setCell (p := ⟨vb, 2, none⟩) ge1 (.string c.vname)).setCell (p := ⟨vb, 7, none⟩) ge1 (.int .i64 c.num)).setCell (p := ⟨vb, 8, none⟩) ge1 (.string (refText ys))).setCell (p := ⟨vb, 9, none⟩) ge1 (.pointer c.vp)
  clear ev1 th1 bd1 f2 f7 f8 f9 k2 k7 k8 k9
  generalize (((w1.setCell ⟨vb, 2, none⟩ (.string c.vname)).setCell ⟨vb, 7, none⟩ (.int .i64 c.num)).setCell ⟨vb, 8, none⟩ (.string (refText ys))).setCell ⟨vb, 9, none⟩ (.pointer c.vp) = Wf at *
  have EVG := hide2 evg
  have THG := hide2 thg
  clear evg thg
  go_wp2_with (first
    | (refine wpList_load_mid (by rfl) 48 _ (by rfl) vb 0 (by rfl) (evl kVer c.pos c.vname emp emp emp emp c.num (refText ys) c.vp) _ ?_ Try.underlying48 rfl (info48e _ _ _ _ _ _ _ _ _ _) ?_; exact EVG.out.all)
    | (refine wpList_store_mid (by rfl) 48 _ _ (by rfl) rb 0 (evl kVer c.pos c.vname emp emp emp emp c.num (refText ys) c.vp).toArray (by rfl) (by rfl) ?_ (info48s _ _ _ _ _ _ _ _ _ _) (evl_all _ _ _ _ _ _ _ _ _ _) ?_; (exact there_evl THG.out _ _ _ _ _ _ _ _ _ _); have rz := World.rangeAt_setCells_same (Wf) rb 0 (evl kVer c.pos c.vname emp emp emp emp c.num (refText ys) c.vp) (there_evl' THG.out _ _ _ _ _ _ _ _ _ _); have bz := below_setCells rb ge0 (evl kVer c.pos c.vname emp emp emp emp c.num (refText ys) c.vp) 0 _ bdg; rw [List.toList_toArray]; generalize (Wf).setCells rb 0 (evl kVer c.pos c.vname emp emp emp emp c.num (refText ys) c.vp) = Wz at *))
  exact bodyPost_ret (v := evt kVer c.pos c.vname emp emp emp emp c.num (refText ys) c.vp) (results_range Try.results16 _ _ rb rfl _ rz _ Try.underlying48 rfl (info48e _ _ _ _ _ _ _ _ _ _)) rfl ⟨rfl, bz⟩

abbrev ST (v : ByteArray) (n : Int) (B : Nat) (w : World) : Prop := w.cell? ⟨B, 41, none⟩ = some (.string v) ∧ w.cell? ⟨B, 75, none⟩ = some (.int .i64 n)
theorem ST.drew {v : ByteArray} {n : Int} {B : Nat} {w : World} (h : ST v n B w) : ST v n B w.drew := h
theorem ST.set {v : ByteArray} {n : Int} {B : Nat} {w : World} (h : ST v n B w) (b i : Nat) (hne : B ≠ b) (x : Value) : ST v n B (w.setCell ⟨b, i, none⟩ x) := by
  have hc : ∀ j, (w.setCell ⟨b, i, none⟩ x).cell? ⟨B, j, none⟩ = w.cell? ⟨B, j, none⟩ := fun j => World.cell?_setCell_other _ _ _ _ (fun e => hne (by cases e; rfl))
  exact ⟨by rw [hc]; exact h.1, by rw [hc]; exact h.2⟩

set_option maxHeartbeats 4000000 in
set_option maxRecDepth 100000 in
theorem event_verT (c : Chg) (xs ys : List Int) (w : World) (he : IsRef c.eref xs) (hv : IsRef c.vref ys) (hk : c.kind = kVerT) :
    Calls Try.prog 16 #[c.val] w fun e w' => e = .returned (evt kVerT c.pos c.vname emp emp emp emp c.num emp none) ∧ Below w.heap.size w w' := by
  have le := he.length
  have lv := hv.length
  go_enter Try.func16, Try.ntmps16
  go_wp2_with (refine wpList_box rfl 44 _ rfl c rfl le lv ?_)
  intro W hW hb hsz
  have d0 := hW.c0
  have d1 := hW.c1
  rw [hk] at d0
  unfold kVerT at d0
  have lt := hW.lt
  clear hsz
  obtain ⟨ev, th, bw⟩ := ev_two W [.string { data := #[] }, .int .i64 0, .string { data := #[] }, .string { data := #[] }, .string { data := #[] }, .string { data := #[] }, .string { data := #[] }, .int .i64 0, .string { data := #[] }, .pointer none] [.string { data := #[118, 101, 114, 115, 105, 111, 110, 95, 116, 111, 109, 98, 115, 116, 111, 110, 101, 100] }, .int .i64 c.pos, .string { data := #[] }, .string { data := #[] }, .string { data := #[] }, .string { data := #[] }, .string { data := #[] }, .int .i64 0, .string { data := #[] }, .pointer none] rfl rfl
  have EV := hide2 ev
  have TH := hide2 th
  have BW := hide2 bw
  clear ev th bw
  have x41 := hW.c41
  have x75 := hW.c75
  clear hW
  go_wp2
  have hS : ST c.vname c.num w.heap.size ((W.alloc (.cells [.string { data := #[] }, .int .i64 0, .string { data := #[] }, .string { data := #[] }, .string { data := #[] }, .string { data := #[] }, .string { data := #[] }, .int .i64 0, .string { data := #[] }, .pointer none].toArray 48)).alloc (.cells [.string { data := #[118, 101, 114, 115, 105, 111, 110, 95, 116, 111, 109, 98, 115, 116, 111, 110, 101, 100] }, .int .i64 c.pos, .string { data := #[] }, .string { data := #[] }, .string { data := #[] }, .string { data := #[] }, .string { data := #[] }, .int .i64 0, .string { data := #[] }, .pointer none].toArray 48)) := ⟨cell_below (BW.out) x41, cell_below BW.out x75⟩
  have ev1 := EV.out
  have th1 := TH.out
  have bd1 : Below w.heap.size w ((W.alloc (.cells [.string { data := #[] }, .int .i64 0, .string { data := #[] }, .string { data := #[] }, .string { data := #[] }, .string { data := #[] }, .string { data := #[] }, .int .i64 0, .string { data := #[] }, .pointer none].toArray 48)).alloc (.cells [.string { data := #[118, 101, 114, 115, 105, 111, 110, 95, 116, 111, 109, 98, 115, 116, 111, 110, 101, 100] }, .int .i64 c.pos, .string { data := #[] }, .string { data := #[] }, .string { data := #[] }, .string { data := #[] }, .string { data := #[] }, .int .i64 0, .string { data := #[] }, .pointer none].toArray 48)) := hb.trans (BW.out.mono hb.size)
  have ge1 : w.heap.size ≤ W.heap.size + 1 := by omega
  have ge0 : w.heap.size ≤ W.heap.size := by omega
  have ne1 : w.heap.size ≠ W.heap.size + 1 := by omega
  clear d0 d1 x41 x75 EV TH BW hb
  generalize (W.alloc (.cells [.string { data := #[] }, .int .i64 0, .string { data := #[] }, .string { data := #[] }, .string { data := #[] }, .string { data := #[] }, .string { data := #[] }, .int .i64 0, .string { data := #[] }, .pointer none].toArray 48)).alloc (.cells [.string { data := #[118, 101, 114, 115, 105, 111, 110, 95, 116, 111, 109, 98, 115, 116, 111, 110, 101, 100] }, .int .i64 c.pos, .string { data := #[] }, .string { data := #[] }, .string { data := #[] }, .string { data := #[] }, .string { data := #[] }, .int .i64 0, .string { data := #[] }, .pointer none].toArray 48) = Wd at *
  generalize W.heap.size + 1 = vb at *
  generalize W.heap.size = rb at *
  refine wp_region_noPanic ?_
  refine wp_region_held_drew (S := ST c.vname c.num w.heap.size) (by kernel_rfl) (ST.drew hS) (fun hHeld => ?_)
  clear hS
  have f2 := ev1.frz 2 (by omega)
  have f7 := ev1.frz 7 (by omega)
  have k2 := ev1.cell 2 _ rfl
  have k7 := ev1.cell 7 _ rfl
  refine take_list (i := 0) (v := ?_) rfl (by kernel_rfl) (by kernel_rfl) (by kernel_rfl) (fun _ _ _ h => h) (by assumption) (Or.inl ⟨by rfl, ?_⟩) ?_
  rotate_left
  · (intro w hSw; (try dsimp only at hSw); go_simp; try with_reducible rfl)
  try simp only [Act.put, List.setIfInBounds_toArray, List.set_cons_zero, List.set_cons_succ]
  refine take_list (i := 1) (v := ?_) rfl (by kernel_rfl) (by kernel_rfl) (by kernel_rfl) (fun _ _ _ h => h) (by assumption) (Or.inl ⟨by rfl, ?_⟩) ?_
  rotate_left
  · (intro w hSw; (try dsimp only at hSw); go_simp; try with_reducible rfl)
  try simp only [Act.put, List.setIfInBounds_toArray, List.set_cons_zero, List.set_cons_succ]
  refine take_list (i := 2) (v := ?_) rfl (by kernel_rfl) (by kernel_rfl) (by kernel_rfl) (fun _ _ _ h => h) (by assumption) (Or.inl ⟨by rfl, ?_⟩) ?_
  rotate_left
  · (intro w hSw; (try dsimp only at hSw); go_simp; try with_reducible rfl)
  try simp only [Act.put, List.setIfInBounds_toArray, List.set_cons_zero, List.set_cons_succ]
  refine take_list (i := 3) (v := ?_) rfl (by kernel_rfl) (by kernel_rfl) (by kernel_rfl) (fun _ _ _ h => h) (by assumption) (Or.inl ⟨by rfl, ?_⟩) ?_
  rotate_left
  · (intro w hSw; (try dsimp only at hSw); go_simp; try with_reducible rfl)
  try simp only [Act.put, List.setIfInBounds_toArray, List.set_cons_zero, List.set_cons_succ]
  refine take_list (i := 4) (v := ?_) rfl (by kernel_rfl) (by kernel_rfl) (by kernel_rfl) (fun _ _ _ h => h) (by assumption) (Or.inl ⟨by rfl, ?_⟩) ?_
  rotate_left
  · (intro w hSw; (try dsimp only at hSw); go_simp; try with_reducible rfl)
  try simp only [Act.put, List.setIfInBounds_toArray, List.set_cons_zero, List.set_cons_succ]
  refine take_list (i := 5) (v := ?_) rfl (by kernel_rfl) (by kernel_rfl) (by kernel_rfl) (fun _ _ _ h => h) (by assumption) (Or.inl ⟨by rfl, ?_⟩) ?_
  rotate_left
  · (intro w hSw; (try dsimp only at hSw); go_simp; try with_reducible rfl)
  try simp only [Act.put, List.setIfInBounds_toArray, List.set_cons_zero, List.set_cons_succ]
  refine take_list (i := 6) (v := ?_) rfl (by kernel_rfl) (by kernel_rfl) (by kernel_rfl) (fun _ _ _ h => h) (by assumption) (Or.inl ⟨by rfl, ?_⟩) ?_
  rotate_left
  · (intro w hSw; (try dsimp only at hSw); go_simp; try with_reducible rfl)
  try simp only [Act.put, List.setIfInBounds_toArray, List.set_cons_zero, List.set_cons_succ]
  refine take_list (i := 7) (v := ?_) rfl (by kernel_rfl) (by kernel_rfl) (by kernel_rfl) (fun _ _ _ h => h) (by assumption) (Or.inl ⟨by rfl, ?_⟩) ?_
  rotate_left
  · (intro w hSw; (try dsimp only at hSw); go_simp; try with_reducible rfl)
  try simp only [Act.put, List.setIfInBounds_toArray, List.set_cons_zero, List.set_cons_succ]
  refine wpAnyH_ready (rs := [8]) (by kernel_rfl) (by simp) ?_
  refine cons_list rfl ?_ AllReadyH.nil
  intro K hK
  go_simp
  refine hK.out _ _ (ST.set (by assumption) vb _ ne1 _) (fun hHeld => ?_)
  clear hK K
  try simp only [Act.put, List.setIfInBounds_toArray, List.set_cons_zero, List.set_cons_succ]
  refine take_list (i := 9) (v := ?_) rfl (by kernel_rfl) (by kernel_rfl) (by kernel_rfl) (fun _ _ _ h => h) (by assumption) (Or.inl ⟨by rfl, ?_⟩) ?_
  rotate_left
  · (intro w hSw; (try dsimp only at hSw); go_simp; try with_reducible rfl)
  try simp only [Act.put, List.setIfInBounds_toArray, List.set_cons_zero, List.set_cons_succ]
  refine wpAnyH_ready (rs := [10]) (by kernel_rfl) (by simp) ?_
  refine cons_list rfl ?_ AllReadyH.nil
  intro K hK
  go_simp
  refine hK.out _ _ (ST.set (by assumption) vb _ ne1 _) (fun hHeld => ?_)
  clear hK K
  try simp only [Act.put, List.setIfInBounds_toArray, List.set_cons_zero, List.set_cons_succ]
  refine wpAnyH_done (by kernel_rfl) ?_ _
  refine NoPanic.normal ?_
  have evg : EvAt ((Wd.setCell ⟨vb, 2, none⟩ (.string c.vname)).setCell ⟨vb, 7, none⟩ (.int .i64 c.num)).drew vb (evl kVerT c.pos c.vname emp emp emp emp c.num emp none) := ((ev1.set 2 (by omega) (.string c.vname)).set 7 (by omega) (.int .i64 c.num)).below (Below.refl _ _).drew
  have thg := there_below (Below.refl _ _).drew (there_setCell (there_setCell th1 ⟨vb, 2, none⟩ (.string c.vname)) ⟨vb, 7, none⟩ (.int .i64 c.num))
  have bdg := ((bd1.setCell (p := ⟨vb, 2, none⟩) ge1 (.string c.vname)).setCell (p := ⟨vb, 7, none⟩) ge1 (.int .i64 c.num)).drew
  clear ev1 th1 bd1 f2 f7 k2 k7
  generalize ((Wd.setCell ⟨vb, 2, none⟩ (.string c.vname)).setCell ⟨vb, 7, none⟩ (.int .i64 c.num)).drew = Wf at *
  have EVG := hide2 evg
  have THG := hide2 thg
  clear evg thg
  go_wp2_with (first
    | (refine wpList_load_mid (by rfl) 48 _ (by rfl) vb 0 (by rfl) (evl kVerT c.pos c.vname emp emp emp emp c.num emp none) _ ?_ Try.underlying48 rfl (info48e _ _ _ _ _ _ _ _ _ _) ?_; exact EVG.out.all)
    | (refine wpList_store_mid (by rfl) 48 _ _ (by rfl) rb 0 (evl kVerT c.pos c.vname emp emp emp emp c.num emp none).toArray (by rfl) (by rfl) ?_ (info48s _ _ _ _ _ _ _ _ _ _) (evl_all _ _ _ _ _ _ _ _ _ _) ?_; (exact there_evl THG.out _ _ _ _ _ _ _ _ _ _); have rz := World.rangeAt_setCells_same (Wf) rb 0 (evl kVerT c.pos c.vname emp emp emp emp c.num emp none) (there_evl' THG.out _ _ _ _ _ _ _ _ _ _); have bz := below_setCells rb ge0 (evl kVerT c.pos c.vname emp emp emp emp c.num emp none) 0 _ bdg; rw [List.toList_toArray]; generalize (Wf).setCells rb 0 (evl kVerT c.pos c.vname emp emp emp emp c.num emp none) = Wz at *))
  exact bodyPost_ret (v := evt kVerT c.pos c.vname emp emp emp emp c.num emp none) (results_range Try.results16 _ _ rb rfl _ rz _ Try.underlying48 rfl (info48e _ _ _ _ _ _ _ _ _ _)) rfl ⟨rfl, bz⟩

set_option maxHeartbeats 2000000 in
set_option maxRecDepth 100000 in
theorem event_other (c : Chg) (w : World) (le : c.eref.length = 32) (lv : c.vref.length = 32) (h1 : (c.kind.toList == [110, 111, 100, 101, 95, 99, 114, 101, 97, 116, 101, 100]) = false) (h2 : (c.kind.toList == [101, 100, 103, 101, 95, 97, 100, 100, 101, 100]) = false) (h3 : (c.kind.toList == [101, 100, 103, 101, 95, 116, 111, 109, 98, 115, 116, 111, 110, 101, 100]) = false) (h4 : (c.kind.toList == [118, 101, 114, 115, 105, 111, 110, 95, 97, 100, 100, 101, 100]) = false) (h5 : (c.kind.toList == [118, 101, 114, 115, 105, 111, 110, 95, 116, 111, 109, 98, 115, 116, 111, 110, 101, 100]) = false) :
    Calls Try.prog 16 #[c.val] w fun e w' => e = .returned (evt c.kind c.pos emp emp emp emp emp 0 emp none) ∧ Below w.heap.size w w' := by
  go_enter Try.func16, Try.ntmps16
  go_wp2_with (refine wpList_box rfl 44 _ rfl c rfl le lv ?_)
  intro W hW hb hsz
  have d0 := hW.c0
  have d1 := hW.c1
  have lt := hW.lt
  clear hsz
  go_wp2
  refine bodyPost_ret (v := evt c.kind c.pos emp emp emp emp emp 0 emp none) (by simp [results, Try.results16, go_sem, evt, evl, emp]) rfl ⟨rfl, ?_⟩
  refine hb.trans (Below.mono ?_ hb.size)
  go_grown
end Go.Proofs.Qxb6625833a
