/-
  OUR OWN WORK. Seat b6625833a: THE WALK OF THE LAW FnEventOfTombstoneStrikesAddition (function 4).
-/
import Derived.Test.Qxb6625833aLib
namespace Go.Proofs.Qxb6625833a
open Go.RowKit Go.Lib

/-- What is held while the last comparison is made. -/
abbrev SL (a b : ByteArray) (l m : List Value) (cb n2 n4 : Nat) (w : World) : Prop :=
  w.cell? ⟨n2, 3, none⟩ = some (.string a) ∧ w.cell? ⟨n4, 8, none⟩ = some (.string b) ∧ w.rangeAt cb 7 l ∧ w.rangeAt cb 42 m
theorem SL.drew {a b : ByteArray} {l m : List Value} {cb n2 n4 : Nat} {w : World} (h : SL a b l m cb n2 n4 w) : SL a b l m cb n2 n4 w.drew := h
theorem eqlIn_ref {l m : List Value} {xs ys : List Int} (hl : IsRef l xs) (hm : IsRef m ys) (w : World) : (Op.equalIn 10000 23 (.agg l.toArray) (.agg m.toArray)).run Try.prog w = .ok (Lib.bytesOf xs == Lib.bytesOf ys) w := by
  rw [ref_cells hl, ref_cells hm]
  exact run_equalIn_bytes w 9998 23 5 32 Try.underlying23 Try.underlying5 size5 _ _ (by rw [Lib.bytesOf_length, hl.len]) (by rw [Lib.bytesOf_length, hm.len])

set_option maxHeartbeats 20000000 in
set_option maxRecDepth 100000 in
theorem tomb_any (c : Chg) (xs ys : List Int) (w : World) (he : IsRef c.eref xs) (hv : IsRef c.vref ys) (h1 : ProvAt w c.ep) (h2 : ProvAt w c.vp) :
    Calls Try.prog 4 #[c.val] w fun e w' => e = .returned (.bool true) ∧ Below w.heap.size w w' := by
  have le := he.length
  have lv := hv.length
  go_enter Try.func4, Try.ntmps4
  go_wp2_with (refine wpList_box rfl 29 _ rfl c rfl le lv ?_)
  intro W hW hb hsz
  have ltc : w.heap.size < W.heap.size := hW.lt
  clear hsz
  have hcall := bytes11_any c W le lv (h1.below hb) (h2.below hb)
  go_wp2_with (refine wpList_load_chg (by rfl) 29 _ (by rfl) (Or.inl rfl) w.heap.size (by rfl) c ?_ ?_; exact hW)
  refine hcall.mono ?_
  clear hcall
  rintro e w1 ⟨⟨b, rfl⟩, hb1⟩
  have hW1 := hW.below hb1
  have bd1 : Below w.heap.size w w1 := hb.trans (hb1.mono hb.size)
  clear hW hb hb1
  cases b
  · go_wp2; go_ret; exact ⟨rfl, bd1⟩
  have hcall := changeBytes_any c w1 le lv (h1.below bd1) (h2.below bd1)
  go_wp2_with (refine wpList_load_chg (by rfl) 29 _ (by rfl) (Or.inl rfl) w.heap.size (by rfl) c ?_ ?_; exact hW1)
  refine hcall.mono ?_
  clear hcall
  rintro e w2 ⟨⟨m, rfl⟩, hb2⟩
  have hW2 := hW1.below hb2
  have bd2 : Below w.heap.size w w2 := bd1.trans (hb2.mono bd1.size)
  clear hW1 bd1 hb2
  by_cases hm : 1048576 < m
  · go_wp2_with fail; go_ret; exact ⟨rfl, bd2⟩
  have hcall := toStore_any c xs ys w2 he hv (h1.below bd2) (h2.below bd2)
  go_wp2_with (refine wpList_load_chg (by rfl) 29 _ (by rfl) (Or.inl rfl) w.heap.size (by rfl) c ?_ ?_; exact hW2)
  refine hcall.mono ?_
  clear hcall hm
  rintro e w3 ⟨⟨q, q', rfl⟩, hb3⟩
  have hW3 := hW2.below hb3
  have bd3 : Below w.heap.size w w3 := bd2.trans (hb3.mono bd2.size)
  have lt3 : w.heap.size < w3.heap.size := hW3.lt
  clear hW2 bd2 hb3 h1 h2 ltc
  have h1c : (Chg.cells { c with ep := q, vp := q' }).toArray.all (·.oneCell') = true := Chg.one he hv
  have hcall : ∀ w : World, Calls Try.prog 9 #[Chg.val { c with kind := kNode, ep := q, vp := q' }] w fun e w' => e = .returned (evt kNode c.pos c.name emp emp emp emp 0 emp none) ∧ Below w.heap.size w w' := fun w => zzevent_any { c with kind := kNode, ep := q, vp := q' } w le lv _ _ _ _ _ _ _ _ _ _ (fun w => event_node { c with kind := kNode, ep := q, vp := q' } w le lv rfl)
  have HC := hide2 hcall
  clear hcall
  go_wp2_with (first
    | (refine wpList_alloc (by rfl) 44 78 (by rfl) zeroSize44 runAlloc44 ?_; intro w4 ht4 hb4 hz4; have HZ4 := hide2 hz4; clear hz4)
    | (refine wpList_store_chg (by rfl) _ _ (by rfl) w3.heap.size (by rfl) { c with ep := q, vp := q' } (by rfl) le lv h1c ?_ ?_ ?_; (rw [HZ4.out]; omega); (exact ht4); intro Ws cz on; have oz : ChgAt Ws w.heap.size c := (hW3.below hb4).of_block (on.block _ (Nat.ne_of_lt lt3)); have bz := on.below (bd3.trans (hb4.mono bd3.size)) (Nat.le_of_lt lt3); have ls : w3.heap.size < Ws.heap.size := cz.lt; clear ht4 hb4 HZ4 hW3 bd3 h1c on; have lts := lt3; clear lt3; generalize w3.heap.size = sb at *; have x6 := cz.c6; have x74 := cz.c74)
    | (refine wpList_store_kind (by rfl) _ _ (by rfl) sb (by rfl) kNode (by rfl) { c with ep := q, vp := q' } ?_ ?_; (exact cz); intro a1 cz1 on1)
    | (refine wpList_load_chg (by rfl) 44 _ (by rfl) (Or.inr rfl) sb (by rfl) { c with kind := kNode, ep := q, vp := q' } ?_ ?_; (exact cz1)))
  refine (HC.out _).mono ?_
  clear HC
  rintro e b1 ⟨rfl, hbb1⟩
  clear x6 x74
  have hcall : ∀ w : World, Calls Try.prog 9 #[Chg.val { c with kind := kEdge, ep := q, vp := q' }] w fun e w' => e = .returned (evt kEdge c.pos emp (refText xs) c.subj c.pred c.obj 0 emp q) ∧ Below w.heap.size w w' := fun w => zzevent_any { c with kind := kEdge, ep := q, vp := q' } w le lv _ _ _ _ _ _ _ _ _ _ (fun w => event_edge { c with kind := kEdge, ep := q, vp := q' } xs ys w he hv rfl)
  have HC := hide2 hcall
  clear hcall
  go_wp2_with (first
    | (refine wpList_alloc (by rfl) 48 10 (by rfl) zeroSize48 runAlloc48 ?_; intro d1 ht1 hbd1 hzd1; have HZ := hide2 hzd1; clear hzd1)
    | (refine wpList_store_evt (by rfl) _ _ (by rfl) b1.heap.size (by rfl) kNode c.pos c.name emp emp emp emp 0 emp none (by rfl) ?_ ?_; (exact ht1); intro W1 ev1 oe1; have sg := Stage.of on1 hbb1 hbd1 HZ.out oe1; have cy : ChgAt W1 sb { c with kind := kNode, ep := q, vp := q' } := ((cz1.below hbb1).below hbd1).of_block (oe1.block sb (Nat.ne_of_lt (cz1.below hbb1).lt)); have oy := oz.stage sg (Nat.ne_of_lt lts); have by_ := sg.below bz (Nat.le_of_lt lts); have ln1 := sg.lo; have lh1 := sg.hi; clear oz bz cz cz1 on1 hbb1 hbd1 ht1 oe1 HZ; have cz := cy; have oz := oy; have bz := by_; clear cy oy by_; have lg1 : sb < b1.heap.size := Nat.lt_of_lt_of_le ls ln1; have lq1 : b1.heap.size < W1.heap.size := lh1; clear ls; have ls : sb < W1.heap.size := Nat.lt_trans lg1 lq1; clear sg ln1 lh1; have ey1 := ev1; clear ev1; generalize b1.heap.size = n1 at *)
    | (refine wpList_store_kind (by rfl) _ _ (by rfl) sb (by rfl) kEdge (by rfl) { c with kind := kNode, ep := q, vp := q' } ?_ ?_; (exact cz); intro a2 cz2 on2)
    | (refine wpList_load_chg (by rfl) 44 _ (by rfl) (Or.inr rfl) sb (by rfl) { c with kind := kEdge, ep := q, vp := q' } ?_ ?_; (exact cz2)))
  refine (HC.out _).mono ?_
  clear HC
  rintro e b2 ⟨rfl, hbb2⟩
  have hcall : ∀ w : World, Calls Try.prog 9 #[Chg.val { c with kind := kEdgeT, ep := q, vp := q' }] w fun e w' => e = .returned (evt kEdgeT c.pos emp (refText xs) emp emp emp 0 emp none) ∧ Below w.heap.size w w' := fun w => zzevent_any { c with kind := kEdgeT, ep := q, vp := q' } w le lv _ _ _ _ _ _ _ _ _ _ (fun w => event_edgeT { c with kind := kEdgeT, ep := q, vp := q' } xs ys w he hv rfl)
  have HC := hide2 hcall
  clear hcall
  go_wp2_with (first
    | (refine wpList_alloc (by rfl) 48 10 (by rfl) zeroSize48 runAlloc48 ?_; intro d2 ht2 hbd2 hzd2; have HZ := hide2 hzd2; clear hzd2)
    | (refine wpList_store_evt (by rfl) _ _ (by rfl) b2.heap.size (by rfl) kEdge c.pos emp (refText xs) c.subj c.pred c.obj 0 emp q (by rfl) ?_ ?_; (exact ht2); intro W2 ev2 oe2; have sg := Stage.of on2 hbb2 hbd2 HZ.out oe2; have cy : ChgAt W2 sb { c with kind := kEdge, ep := q, vp := q' } := ((cz2.below hbb2).below hbd2).of_block (oe2.block sb (Nat.ne_of_lt (cz2.below hbb2).lt)); have oy := oz.stage sg (Nat.ne_of_lt lts); have by_ := sg.below bz (Nat.le_of_lt lts); have ln2 := sg.lo; have lh2 := sg.hi; have ez1 := ey1.stage sg lq1 (Nat.ne_of_gt lg1); clear oz bz cz cz2 on2 hbb2 hbd2 ht2 oe2 HZ ey1; have cz := cy; have oz := oy; have bz := by_; clear cy oy by_; have lg2 : sb < b2.heap.size := Nat.lt_of_lt_of_le ls ln2; have lq2 : b2.heap.size < W2.heap.size := lh2; have lr1 : n1 < W2.heap.size := Nat.lt_trans (Nat.lt_of_lt_of_le lq1 ln2) lh2; clear lq1; have lq1 := lr1; clear lr1; have ey1 := ez1; clear ez1; clear ls; have ls : sb < W2.heap.size := Nat.lt_trans lg2 lq2; clear sg ln2 lh2; have ey2 := ev2; clear ev2; generalize b2.heap.size = n2 at *)
    | (refine wpList_store_kind (by rfl) _ _ (by rfl) sb (by rfl) kEdgeT (by rfl) { c with kind := kEdge, ep := q, vp := q' } ?_ ?_; (exact cz); intro a3 cz3 on3)
    | (refine wpList_load_chg (by rfl) 44 _ (by rfl) (Or.inr rfl) sb (by rfl) { c with kind := kEdgeT, ep := q, vp := q' } ?_ ?_; (exact cz3)))
  refine (HC.out _).mono ?_
  clear HC
  rintro e b3 ⟨rfl, hbb3⟩
  have hcall : ∀ w : World, Calls Try.prog 9 #[Chg.val { c with kind := kVer, ep := q, vp := q' }] w fun e w' => e = .returned (evt kVer c.pos c.vname emp emp emp emp c.num (refText ys) q') ∧ Below w.heap.size w w' := fun w => zzevent_any { c with kind := kVer, ep := q, vp := q' } w le lv _ _ _ _ _ _ _ _ _ _ (fun w => event_ver { c with kind := kVer, ep := q, vp := q' } xs ys w he hv rfl)
  have HC := hide2 hcall
  clear hcall
  go_wp2_with (first
    | (refine wpList_alloc (by rfl) 48 10 (by rfl) zeroSize48 runAlloc48 ?_; intro d3 ht3 hbd3 hzd3; have HZ := hide2 hzd3; clear hzd3)
    | (refine wpList_store_evt (by rfl) _ _ (by rfl) b3.heap.size (by rfl) kEdgeT c.pos emp (refText xs) emp emp emp 0 emp none (by rfl) ?_ ?_; (exact ht3); intro W3 ev3 oe3; have sg := Stage.of on3 hbb3 hbd3 HZ.out oe3; have cy : ChgAt W3 sb { c with kind := kEdgeT, ep := q, vp := q' } := ((cz3.below hbb3).below hbd3).of_block (oe3.block sb (Nat.ne_of_lt (cz3.below hbb3).lt)); have oy := oz.stage sg (Nat.ne_of_lt lts); have by_ := sg.below bz (Nat.le_of_lt lts); have ln3 := sg.lo; have lh3 := sg.hi; have ez1 := ey1.stage sg lq1 (Nat.ne_of_gt lg1); have ez2 := ey2.stage sg lq2 (Nat.ne_of_gt lg2); clear oz bz cz cz3 on3 hbb3 hbd3 ht3 oe3 HZ ey1 ey2; have cz := cy; have oz := oy; have bz := by_; clear cy oy by_; have lg3 : sb < b3.heap.size := Nat.lt_of_lt_of_le ls ln3; have lq3 : b3.heap.size < W3.heap.size := lh3; have lr1 : n1 < W3.heap.size := Nat.lt_trans (Nat.lt_of_lt_of_le lq1 ln3) lh3; clear lq1; have lq1 := lr1; clear lr1; have ey1 := ez1; clear ez1; have lr2 : n2 < W3.heap.size := Nat.lt_trans (Nat.lt_of_lt_of_le lq2 ln3) lh3; clear lq2; have lq2 := lr2; clear lr2; have ey2 := ez2; clear ez2; clear ls; have ls : sb < W3.heap.size := Nat.lt_trans lg3 lq3; clear sg ln3 lh3; have ey3 := ev3; clear ev3; generalize b3.heap.size = n3 at *)
    | (refine wpList_store_kind (by rfl) _ _ (by rfl) sb (by rfl) kVer (by rfl) { c with kind := kEdgeT, ep := q, vp := q' } ?_ ?_; (exact cz); intro a4 cz4 on4)
    | (refine wpList_load_chg (by rfl) 44 _ (by rfl) (Or.inr rfl) sb (by rfl) { c with kind := kVer, ep := q, vp := q' } ?_ ?_; (exact cz4)))
  refine (HC.out _).mono ?_
  clear HC
  rintro e b4 ⟨rfl, hbb4⟩
  have hcall : ∀ w : World, Calls Try.prog 9 #[Chg.val { c with kind := kVerT, ep := q, vp := q' }] w fun e w' => e = .returned (evt kVerT c.pos c.vname emp emp emp emp c.num emp none) ∧ Below w.heap.size w w' := fun w => zzevent_any { c with kind := kVerT, ep := q, vp := q' } w le lv _ _ _ _ _ _ _ _ _ _ (fun w => event_verT { c with kind := kVerT, ep := q, vp := q' } xs ys w he hv rfl)
  have HC := hide2 hcall
  clear hcall
  go_wp2_with (first
    | (refine wpList_alloc (by rfl) 48 10 (by rfl) zeroSize48 runAlloc48 ?_; intro d4 ht4 hbd4 hzd4; have HZ := hide2 hzd4; clear hzd4)
    | (refine wpList_store_evt (by rfl) _ _ (by rfl) b4.heap.size (by rfl) kVer c.pos c.vname emp emp emp emp c.num (refText ys) q' (by rfl) ?_ ?_; (exact ht4); intro W4 ev4 oe4; have sg := Stage.of on4 hbb4 hbd4 HZ.out oe4; have cy : ChgAt W4 sb { c with kind := kVer, ep := q, vp := q' } := ((cz4.below hbb4).below hbd4).of_block (oe4.block sb (Nat.ne_of_lt (cz4.below hbb4).lt)); have oy := oz.stage sg (Nat.ne_of_lt lts); have by_ := sg.below bz (Nat.le_of_lt lts); have ln4 := sg.lo; have lh4 := sg.hi; have ez1 := ey1.stage sg lq1 (Nat.ne_of_gt lg1); have ez2 := ey2.stage sg lq2 (Nat.ne_of_gt lg2); have ez3 := ey3.stage sg lq3 (Nat.ne_of_gt lg3); clear oz bz cz cz4 on4 hbb4 hbd4 ht4 oe4 HZ ey1 ey2 ey3; have cz := cy; have oz := oy; have bz := by_; clear cy oy by_; have lg4 : sb < b4.heap.size := Nat.lt_of_lt_of_le ls ln4; have lq4 : b4.heap.size < W4.heap.size := lh4; have lr1 : n1 < W4.heap.size := Nat.lt_trans (Nat.lt_of_lt_of_le lq1 ln4) lh4; clear lq1; have lq1 := lr1; clear lr1; have ey1 := ez1; clear ez1; have lr2 : n2 < W4.heap.size := Nat.lt_trans (Nat.lt_of_lt_of_le lq2 ln4) lh4; clear lq2; have lq2 := lr2; clear lr2; have ey2 := ez2; clear ez2; have lr3 : n3 < W4.heap.size := Nat.lt_trans (Nat.lt_of_lt_of_le lq3 ln4) lh4; clear lq3; have lq3 := lr3; clear lr3; have ey3 := ez3; clear ez3; clear ls; have ls : sb < W4.heap.size := Nat.lt_trans lg4 lq4; clear sg ln4 lh4; have ey4 := ev4; clear ev4; generalize b4.heap.size = n4 at *)
    | (refine wpList_store_kind (by rfl) _ _ (by rfl) sb (by rfl) kVerT (by rfl) { c with kind := kVer, ep := q, vp := q' } ?_ ?_; (exact cz); intro a5 cz5 on5)
    | (refine wpList_load_chg (by rfl) 44 _ (by rfl) (Or.inr rfl) sb (by rfl) { c with kind := kVerT, ep := q, vp := q' } ?_ ?_; (exact cz5)))
  refine (HC.out _).mono ?_
  clear HC
  rintro e b5 ⟨rfl, hbb5⟩
  have hnp := neq_ptr q
  have hnp' := neq_ptr q'
  have hrx := refText_ne xs
  have hry := refText_ne ys
  go_wp2_with (first
    | (refine wpList_alloc (by rfl) 48 10 (by rfl) zeroSize48 runAlloc48 ?_; intro d5 ht5 hbd5 hzd5; have HZ := hide2 hzd5; clear hzd5)
    | (refine wpList_store_evt (by rfl) _ _ (by rfl) b5.heap.size (by rfl) kVerT c.pos c.vname emp emp emp emp c.num emp none (by rfl) ?_ ?_; (exact ht5); intro W5 ev5 oe5; have sg := Stage.of on5 hbb5 hbd5 HZ.out oe5; have cy : ChgAt W5 sb { c with kind := kVerT, ep := q, vp := q' } := ((cz5.below hbb5).below hbd5).of_block (oe5.block sb (Nat.ne_of_lt (cz5.below hbb5).lt)); have oy := oz.stage sg (Nat.ne_of_lt lts); have by_ := sg.below bz (Nat.le_of_lt lts); have ln5 := sg.lo; have lh5 := sg.hi; have ez1 := ey1.stage sg lq1 (Nat.ne_of_gt lg1); have ez2 := ey2.stage sg lq2 (Nat.ne_of_gt lg2); have ez3 := ey3.stage sg lq3 (Nat.ne_of_gt lg3); have ez4 := ey4.stage sg lq4 (Nat.ne_of_gt lg4); clear oz bz cz cz5 on5 hbb5 hbd5 ht5 oe5 HZ ey1 ey2 ey3 ey4; have cz := cy; have oz := oy; have bz := by_; clear cy oy by_; have lg5 : sb < b5.heap.size := Nat.lt_of_lt_of_le ls ln5; have lq5 : b5.heap.size < W5.heap.size := lh5; have lr1 : n1 < W5.heap.size := Nat.lt_trans (Nat.lt_of_lt_of_le lq1 ln5) lh5; clear lq1; have lq1 := lr1; clear lr1; have ey1 := ez1; clear ez1; have lr2 : n2 < W5.heap.size := Nat.lt_trans (Nat.lt_of_lt_of_le lq2 ln5) lh5; clear lq2; have lq2 := lr2; clear lr2; have ey2 := ez2; clear ez2; have lr3 : n3 < W5.heap.size := Nat.lt_trans (Nat.lt_of_lt_of_le lq3 ln5) lh5; clear lq3; have lq3 := lr3; clear lr3; have ey3 := ez3; clear ez3; have lr4 : n4 < W5.heap.size := Nat.lt_trans (Nat.lt_of_lt_of_le lq4 ln5) lh5; clear lq4; have lq4 := lr4; clear lr4; have ey4 := ez4; clear ez4; clear ls; have ls : sb < W5.heap.size := Nat.lt_trans lg5 lq5; clear sg ln5 lh5; have ey5 := ev5; clear ev5; generalize b5.heap.size = n5 at *; have p10 : W5.cell? ⟨n1, 0, none⟩ = some (.string { data := #[110, 111, 100, 101, 95, 99, 114, 101, 97, 116, 101, 100] }) := ey1.cell 0 _ rfl; have p11 : W5.cell? ⟨n1, 1, none⟩ = some (.int .i64 c.pos) := ey1.cell 1 _ rfl; have p12 : W5.cell? ⟨n1, 2, none⟩ = some (.string c.name) := ey1.cell 2 _ rfl; have p13 : W5.cell? ⟨n1, 3, none⟩ = some (.string { data := #[] }) := ey1.cell 3 _ rfl; have p14 : W5.cell? ⟨n1, 4, none⟩ = some (.string { data := #[] }) := ey1.cell 4 _ rfl; have p15 : W5.cell? ⟨n1, 5, none⟩ = some (.string { data := #[] }) := ey1.cell 5 _ rfl; have p16 : W5.cell? ⟨n1, 6, none⟩ = some (.string { data := #[] }) := ey1.cell 6 _ rfl; have p17 : W5.cell? ⟨n1, 7, none⟩ = some (.int .i64 0) := ey1.cell 7 _ rfl; have p18 : W5.cell? ⟨n1, 8, none⟩ = some (.string { data := #[] }) := ey1.cell 8 _ rfl; have p19 : W5.cell? ⟨n1, 9, none⟩ = some (.pointer none) := ey1.cell 9 _ rfl; have p20 : W5.cell? ⟨n2, 0, none⟩ = some (.string { data := #[101, 100, 103, 101, 95, 97, 100, 100, 101, 100] }) := ey2.cell 0 _ rfl; have p21 : W5.cell? ⟨n2, 1, none⟩ = some (.int .i64 c.pos) := ey2.cell 1 _ rfl; have p22 : W5.cell? ⟨n2, 2, none⟩ = some (.string { data := #[] }) := ey2.cell 2 _ rfl; have p23 : W5.cell? ⟨n2, 3, none⟩ = some (.string (refText xs)) := ey2.cell 3 _ rfl; have p24 : W5.cell? ⟨n2, 4, none⟩ = some (.string c.subj) := ey2.cell 4 _ rfl; have p25 : W5.cell? ⟨n2, 5, none⟩ = some (.string c.pred) := ey2.cell 5 _ rfl; have p26 : W5.cell? ⟨n2, 6, none⟩ = some (.string c.obj) := ey2.cell 6 _ rfl; have p27 : W5.cell? ⟨n2, 7, none⟩ = some (.int .i64 0) := ey2.cell 7 _ rfl; have p28 : W5.cell? ⟨n2, 8, none⟩ = some (.string { data := #[] }) := ey2.cell 8 _ rfl; have p29 : W5.cell? ⟨n2, 9, none⟩ = some (.pointer q) := ey2.cell 9 _ rfl; have p30 : W5.cell? ⟨n3, 0, none⟩ = some (.string { data := #[101, 100, 103, 101, 95, 116, 111, 109, 98, 115, 116, 111, 110, 101, 100] }) := ey3.cell 0 _ rfl; have p31 : W5.cell? ⟨n3, 1, none⟩ = some (.int .i64 c.pos) := ey3.cell 1 _ rfl; have p32 : W5.cell? ⟨n3, 2, none⟩ = some (.string { data := #[] }) := ey3.cell 2 _ rfl; have p33 : W5.cell? ⟨n3, 3, none⟩ = some (.string (refText xs)) := ey3.cell 3 _ rfl; have p34 : W5.cell? ⟨n3, 4, none⟩ = some (.string { data := #[] }) := ey3.cell 4 _ rfl; have p35 : W5.cell? ⟨n3, 5, none⟩ = some (.string { data := #[] }) := ey3.cell 5 _ rfl; have p36 : W5.cell? ⟨n3, 6, none⟩ = some (.string { data := #[] }) := ey3.cell 6 _ rfl; have p37 : W5.cell? ⟨n3, 7, none⟩ = some (.int .i64 0) := ey3.cell 7 _ rfl; have p38 : W5.cell? ⟨n3, 8, none⟩ = some (.string { data := #[] }) := ey3.cell 8 _ rfl; have p39 : W5.cell? ⟨n3, 9, none⟩ = some (.pointer none) := ey3.cell 9 _ rfl; have p40 : W5.cell? ⟨n4, 0, none⟩ = some (.string { data := #[118, 101, 114, 115, 105, 111, 110, 95, 97, 100, 100, 101, 100] }) := ey4.cell 0 _ rfl; have p41 : W5.cell? ⟨n4, 1, none⟩ = some (.int .i64 c.pos) := ey4.cell 1 _ rfl; have p42 : W5.cell? ⟨n4, 2, none⟩ = some (.string c.vname) := ey4.cell 2 _ rfl; have p43 : W5.cell? ⟨n4, 3, none⟩ = some (.string { data := #[] }) := ey4.cell 3 _ rfl; have p44 : W5.cell? ⟨n4, 4, none⟩ = some (.string { data := #[] }) := ey4.cell 4 _ rfl; have p45 : W5.cell? ⟨n4, 5, none⟩ = some (.string { data := #[] }) := ey4.cell 5 _ rfl; have p46 : W5.cell? ⟨n4, 6, none⟩ = some (.string { data := #[] }) := ey4.cell 6 _ rfl; have p47 : W5.cell? ⟨n4, 7, none⟩ = some (.int .i64 c.num) := ey4.cell 7 _ rfl; have p48 : W5.cell? ⟨n4, 8, none⟩ = some (.string (refText ys)) := ey4.cell 8 _ rfl; have p49 : W5.cell? ⟨n4, 9, none⟩ = some (.pointer q') := ey4.cell 9 _ rfl; have p50 : W5.cell? ⟨n5, 0, none⟩ = some (.string { data := #[118, 101, 114, 115, 105, 111, 110, 95, 116, 111, 109, 98, 115, 116, 111, 110, 101, 100] }) := ey5.cell 0 _ rfl; have p51 : W5.cell? ⟨n5, 1, none⟩ = some (.int .i64 c.pos) := ey5.cell 1 _ rfl; have p52 : W5.cell? ⟨n5, 2, none⟩ = some (.string c.vname) := ey5.cell 2 _ rfl; have p53 : W5.cell? ⟨n5, 3, none⟩ = some (.string { data := #[] }) := ey5.cell 3 _ rfl; have p54 : W5.cell? ⟨n5, 4, none⟩ = some (.string { data := #[] }) := ey5.cell 4 _ rfl; have p55 : W5.cell? ⟨n5, 5, none⟩ = some (.string { data := #[] }) := ey5.cell 5 _ rfl; have p56 : W5.cell? ⟨n5, 6, none⟩ = some (.string { data := #[] }) := ey5.cell 6 _ rfl; have p57 : W5.cell? ⟨n5, 7, none⟩ = some (.int .i64 c.num) := ey5.cell 7 _ rfl; have p58 : W5.cell? ⟨n5, 8, none⟩ = some (.string { data := #[] }) := ey5.cell 8 _ rfl; have p59 : W5.cell? ⟨n5, 9, none⟩ = some (.pointer none) := ey5.cell 9 _ rfl; have o1 := oz.c1; have o2 := oz.c2; have o3 := oz.c3; have o4 := oz.c4; have o5 := oz.c5; have o41 := oz.c41; have o75 := oz.c75; have or1 := oz.ref; have or2 := oz.vrf; clear ey1 lg1 lq1 ey2 lg2 lq2 ey3 lg3 lq3 ey4 lg4 lq4 ey5 lg5 lq5 cz oz ls lts))
  have heq := eql_ref he hv
  have heq2 : ∀ w : World, (Op.equalIn 10000 23 (.agg c.eref.toArray) (.agg c.vref.toArray)).run Try.prog w = .ok (Lib.bytesOf xs == Lib.bytesOf ys) w := fun w => eqlIn_ref he hv w
  have hre := refText_eq he.len hv.len
  have hu23 := Try.underlying23
  have hi1 : (Try.prog.info? 23).map (·.size) = some c.eref.length := by rw [le]; exact rowInfo23
  have hi2 : (Try.prog.info? 23).map (·.size) = some c.vref.length := by rw [lv]; exact rowInfo23
  refine wp_region_noPanic ?_
  refine wp_region_held_drew (S := SL (refText xs) (refText ys) c.eref c.vref w.heap.size n2 n4) (by kernel_rfl) (SL.drew ⟨p23, p48, or1, or2⟩) (fun hHeld => ?_)
  clear p10 p11 p12 p13 p14 p15 p16 p17 p18 p19 p20 p21 p22 p23 p24 p25 p26 p27 p28 p29 p30 p31 p32 p33 p34 p35 p36 p37 p38 p39 p40 p41 p42 p43 p44 p45 p46 p47 p48 p49 p50 p51 p52 p53 p54 p55 p56 p57 p58 p59 o1 o2 o3 o4 o5 o41 o75 or1 or2 hnp hnp' hrx hry
  refine take_list (i := 0) (v := ?_) rfl (by kernel_rfl) (by kernel_rfl) (by kernel_rfl) (fun _ _ _ h => h) (by assumption) (Or.inl ⟨by rfl, ?_⟩) ?_
  rotate_left
  · (intro w hSw; (try dsimp only at hSw); go_simp; try with_reducible rfl)
  try simp only [Act.put, List.setIfInBounds_toArray, List.set_cons_zero, List.set_cons_succ]
  refine take_list (i := 1) (v := ?_) rfl (by kernel_rfl) (by kernel_rfl) (by kernel_rfl) (fun _ _ _ h => h) (by assumption) (Or.inl ⟨by rfl, ?_⟩) ?_
  rotate_left
  · (intro w hSw; (try dsimp only at hSw); go_simp; try with_reducible rfl)
  try simp only [Act.put, List.setIfInBounds_toArray, List.set_cons_zero, List.set_cons_succ]
  refine take_list (i := 2) (v := ?_) rfl (by kernel_rfl) (by kernel_rfl) (by kernel_rfl) (fun _ _ _ h => h) (by assumption) (Or.inl ⟨by rfl, ?_⟩) ?_
  rotate_left
  · (intro w hSw; (try dsimp only at hSw); go_simp; try with_reducible rfl)
  try simp only [Act.put, List.setIfInBounds_toArray, List.set_cons_zero, List.set_cons_succ]
  refine take_list (i := 3) (v := ?_) rfl (by kernel_rfl) (by kernel_rfl) (by kernel_rfl) (fun _ _ _ h => h) (by assumption) (Or.inl ⟨by rfl, ?_⟩) ?_
  rotate_left
  · (intro w hSw; (try dsimp only at hSw); go_simp; try with_reducible rfl)
  try simp only [Act.put, List.setIfInBounds_toArray, List.set_cons_zero, List.set_cons_succ]
  refine take_list (i := 4) (v := ?_) rfl (by kernel_rfl) (by kernel_rfl) (by kernel_rfl) (fun _ _ _ h => h) (by assumption) (Or.inl ⟨by rfl, ?_⟩) ?_
  rotate_left
  · (intro w hSw; (try dsimp only at hSw); go_simp; try with_reducible rfl)
  try simp only [Act.put, List.setIfInBounds_toArray, List.set_cons_zero, List.set_cons_succ]
  refine take_list (i := 5) (v := ?_) rfl (by kernel_rfl) (by kernel_rfl) (by kernel_rfl) (fun _ _ _ h => h) (by assumption) (Or.inl ⟨by rfl, ?_⟩) ?_
  rotate_left
  · (intro w hSw; (try dsimp only at hSw); go_simp; try with_reducible rfl)
  try simp only [Act.put, List.setIfInBounds_toArray, List.set_cons_zero, List.set_cons_succ]
  refine take_list (i := 6) (v := ?_) rfl (by kernel_rfl) (by kernel_rfl) (by kernel_rfl) (fun _ _ _ h => h) (by assumption) (Or.inl ⟨by rfl, ?_⟩) ?_
  rotate_left
  · (intro w hSw; (try dsimp only at hSw); go_simp; try with_reducible rfl)
  try simp only [Act.put, List.setIfInBounds_toArray, List.set_cons_zero, List.set_cons_succ]
  refine take_list (i := 7) rfl (by kernel_rfl) (by kernel_rfl) (by kernel_rfl) (fun _ _ _ h => h) (by assumption) (yieldsIf_load_mid (by rfl) 23 _ rfl w.heap.size 7 rfl c.eref _ (fun w hw => hw.2.2.1) hu23 rfl hi1) ?_
  try simp only [Act.put, List.setIfInBounds_toArray, List.set_cons_zero, List.set_cons_succ]
  refine take_list (i := 8) (v := ?_) rfl (by kernel_rfl) (by kernel_rfl) (by kernel_rfl) (fun _ _ _ h => h) (by assumption) (Or.inl ⟨by rfl, ?_⟩) ?_
  rotate_left
  · (intro w hSw; (try dsimp only at hSw); go_simp; try with_reducible rfl)
  try simp only [Act.put, List.setIfInBounds_toArray, List.set_cons_zero, List.set_cons_succ]
  refine take_list (i := 9) (v := ?_) rfl (by kernel_rfl) (by kernel_rfl) (by kernel_rfl) (fun _ _ _ h => h) (by assumption) (Or.inl ⟨by rfl, ?_⟩) ?_
  rotate_left
  · (intro w hSw; (try dsimp only at hSw); go_simp; try with_reducible rfl)
  try simp only [Act.put, List.setIfInBounds_toArray, List.set_cons_zero, List.set_cons_succ]
  refine take_list (i := 10) rfl (by kernel_rfl) (by kernel_rfl) (by kernel_rfl) (fun _ _ _ h => h) (by assumption) (yieldsIf_load_mid (by rfl) 23 _ rfl w.heap.size 42 rfl c.vref _ (fun w hw => hw.2.2.2) hu23 rfl hi2) ?_
  try simp only [Act.put, List.setIfInBounds_toArray, List.set_cons_zero, List.set_cons_succ]
  refine take_list (i := 11) (v := ?_) rfl (by kernel_rfl) (by kernel_rfl) (by kernel_rfl) (fun _ _ _ h => h) (by assumption) (Or.inl ⟨by rfl, ?_⟩) ?_
  rotate_left
  · (intro w hSw; (try dsimp only at hSw); go_simp; try with_reducible rfl)
  try simp only [Act.put, List.setIfInBounds_toArray, List.set_cons_zero, List.set_cons_succ]
  refine take_list (i := 12) (v := ?_) rfl (by kernel_rfl) (by kernel_rfl) (by kernel_rfl) (fun _ _ _ h => h) (by assumption) (Or.inl ⟨by rfl, ?_⟩) ?_
  rotate_left
  · (intro w hSw; (try dsimp only at hSw); go_simp; try with_reducible rfl)
  try simp only [Act.put, List.setIfInBounds_toArray, List.set_cons_zero, List.set_cons_succ]
  refine take_list (i := 13) (v := ?_) rfl (by kernel_rfl) (by kernel_rfl) (by kernel_rfl) (fun _ _ _ h => h) (by assumption) (Or.inl ⟨by rfl, ?_⟩) ?_
  rotate_left
  · (intro w hSw; (try dsimp only at hSw); go_simp; try with_reducible rfl)
  try simp only [Act.put, List.setIfInBounds_toArray, List.set_cons_zero, List.set_cons_succ]
  refine wpAnyH_done (by kernel_rfl) ?_ _
  refine NoPanic.normal ?_
  go_wp2
  go_ret
  exact ⟨rfl, bz.drew⟩
end Go.Proofs.Qxb6625833a
