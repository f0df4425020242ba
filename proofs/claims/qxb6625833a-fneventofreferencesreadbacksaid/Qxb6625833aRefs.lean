/-
  OUR OWN WORK. Seat b6625833a: THE WALK OF THE LAW FnEventOfReferencesReadBack (function 3).
-/
import Derived.Test.Qxb6625833aSit
namespace Go.Proofs.Qxb6625833a
open Go.RowKit Go.Lib

set_option maxHeartbeats 2000000 in
set_option maxRecDepth 100000 in
theorem refs_any (c : Chg) (xs ys : List Int) (w : World) (he : IsRef c.eref xs) (hv : IsRef c.vref ys) (h1 : ProvAt w c.ep) (h2 : ProvAt w c.vp) :
    Calls Try.prog 3 #[c.val] w fun e w' => e = .returned (.bool true) ∧ Below w.heap.size w w' := by
  have le := he.length
  have lv := hv.length
  go_enter Try.func3, Try.ntmps3
  go_wp2_with (refine wpList_box rfl 29 _ rfl c rfl le lv ?_)
  intro W hW hb hsz
  have ltc : w.heap.size < W.heap.size := hW.lt
  clear hsz
  have hcall := bytes5_any c W le lv (h1.below hb) (h2.below hb)
  go_wp2_with (refine wpList_load_chg (by rfl) 29 _ (by rfl) (Or.inl rfl) w.heap.size (by rfl) c ?_ ?_; exact hW)
  refine hcall.mono ?_
  clear hcall
  rintro e w1 ⟨⟨b, rfl⟩, hb1⟩
  have hW1 := hW.below hb1
  have bd1 : Below w.heap.size w w1 := hb.trans (hb1.mono hb.size)
  clear hW hb hb1
  cases b
  · go_wp2; go_ret; exact ⟨rfl, bd1⟩
  have hcall := changeBytes_any c w1 le lv (h1.below bd1) (h2.below bd1)
  go_wp2_with (refine wpList_load_chg (by rfl) 29 _ (by rfl) (Or.inl rfl) w.heap.size (by rfl) c ?_ ?_; exact hW1)
  refine hcall.mono ?_
  clear hcall
  rintro e w2 ⟨⟨m, rfl⟩, hb2⟩
  have hW2 := hW1.below hb2
  have bd2 : Below w.heap.size w w2 := bd1.trans (hb2.mono bd1.size)
  clear hW1 bd1 hb2
  by_cases hm : 1048576 < m
  · go_wp2_with fail; go_ret; exact ⟨rfl, bd2⟩
  have hcall := toStore_any c xs ys w2 he hv (h1.below bd2) (h2.below bd2)
  go_wp2_with (refine wpList_load_chg (by rfl) 29 _ (by rfl) (Or.inl rfl) w.heap.size (by rfl) c ?_ ?_; exact hW2)
  refine hcall.mono ?_
  clear hcall hm
  rintro e w3 ⟨⟨q, q', rfl⟩, hb3⟩
  have hW3 := hW2.below hb3
  have bd3 : Below w.heap.size w w3 := bd2.trans (hb3.mono bd2.size)
  have lt3 : w.heap.size < w3.heap.size := hW3.lt
  clear hW2 bd2 hb3 h1 h2 ltc
  have h1c : (Chg.cells { c with ep := q, vp := q' }).toArray.all (·.oneCell') = true := Chg.one he hv
  obtain ⟨A, R, S, P, O, N, V, p, k1, k2, k3, k4, k5, hcall, hk1, hk2, hk3, hk4, hk5, hsit⟩ := ev_sit c xs ys he hv q q'
  have HC := hide2 hcall
  have HK := hide2 (And.intro hk1 (And.intro hk2 (And.intro hk3 (And.intro hk4 hk5))))
  have HS := hide2 hsit
  clear hcall hk1 hk2 hk3 hk4 hk5 hsit
  go_wp2_with (first
    | (refine wpList_alloc (by rfl) 44 78 (by rfl) zeroSize44 runAlloc44 ?_; intro w4 ht4 hb4 hz4; have HZ4 := hide2 hz4; clear hz4)
    | (refine wpList_store_chg (by rfl) _ _ (by rfl) w3.heap.size (by rfl) { c with ep := q, vp := q' } (by rfl) le lv h1c ?_ ?_ ?_; (rw [HZ4.out]; omega); (exact ht4); intro Ws cz on; have oz : ChgAt Ws w.heap.size c := (hW3.below hb4).of_block (on.block _ (Nat.ne_of_lt lt3)); have bz := on.below (bd3.trans (hb4.mono bd3.size)) (Nat.le_of_lt lt3); have ls : w3.heap.size < Ws.heap.size := cz.lt; clear ht4 hb4 HZ4 hW3 bd3 h1c on; have lts := lt3; clear lt3; generalize w3.heap.size = sb at *; have x6 := cz.c6; have x74 := cz.c74)
    | (refine wpList_load_mid (by rfl) 36 _ (by rfl) sb 7 (by rfl) c.eref _ ?_ Try.underlying36 rfl (by rw [le]; exact rowInfo36) ?_; (exact cz.ref)))
  refine (string_any c.eref xs he _).mono ?_
  rintro e u1 ⟨rfl, hu1⟩
  have cz' := cz.below hu1
  have oz' := oz.below hu1
  have bz' := bz.trans (hu1.mono bz.size)
  clear cz oz bz hu1 x6 x74 ls
  go_wp2_with (refine wpList_load_mid (by rfl) 36 _ (by rfl) sb 42 (by rfl) c.vref _ ?_ Try.underlying36 rfl (by rw [lv]; exact rowInfo36) ?_; (exact cz'.vrf))
  refine (string_any c.vref ys hv _).mono ?_
  rintro e u2 ⟨rfl, hu2⟩
  have cz := cz'.below hu2
  have oz := oz'.below hu2
  have bz := bz'.trans (hu2.mono bz'.size)
  clear cz' oz' bz' hu2
  go_wp2_with (refine wpList_load_chg (by rfl) 44 _ (by rfl) (Or.inr rfl) sb (by rfl) { c with ep := q, vp := q' } ?_ ?_; (exact cz))
  refine (HC.out _).mono ?_
  clear HC
  rintro e b1 ⟨rfl, hbb1⟩
  have oz' := oz.below hbb1
  have bz' := bz.trans (hbb1.mono bz.size)
  clear cz oz bz hbb1 lts
  go_wp2_with (first
    | (refine wpList_alloc (by rfl) 48 10 (by rfl) zeroSize48 runAlloc48 ?_; intro d1 ht1 hbd1 hzd1; clear hzd1)
    | (refine wpList_store_evt (by rfl) _ _ (by rfl) b1.heap.size (by rfl) c.kind c.pos A R S P O N V p (by rfl) ?_ ?_; (exact ht1); intro W1 ev1 oe1; have oz : ChgAt W1 w.heap.size c := (oz'.below hbd1).of_block (oe1.block _ (Nat.ne_of_lt oz'.lt)); have bz := oe1.below (bz'.trans (hbd1.mono bz'.size)) (Nat.le_of_lt oz'.lt); clear oz' bz' ht1 hbd1 oe1; generalize b1.heap.size = n1 at *)
    | (refine wpList_load_mid (by rfl) 23 _ (by rfl) w.heap.size 7 (by rfl) c.eref _ ?_ Try.underlying23 rfl (by rw [le]; exact rowInfo23) ?_; (exact oz.ref)))
  refine (readsBack_any c.eref xs he _).mono ?_
  rintro e u3 ⟨rfl, hu3⟩
  have oz' := oz.below hu3
  have ev := ev1.below hu3
  have bz' := bz.trans (hu3.mono bz.size)
  clear oz ev1 bz hu3
  go_wp2_with (refine wpList_load_mid_want (by rfl) 23 _ (by rfl) w.heap.size 42 (by rfl) c.vref _ ?_ Try.underlying23 rfl (by rw [lv]; exact rowInfo23) ?_; (exact oz'.vrf))
  refine (readsBack_any c.vref ys hv _).mono ?_
  rintro e u4 ⟨rfl, hu4⟩
  have oz := oz'.below hu4
  have ev' := ev.below hu4
  have bz := bz'.trans (hu4.mono bz'.size)
  clear oz' ev bz' hu4
  have p0 : u4.cell? ⟨n1, 0, none⟩ = some (.string c.kind) := ev'.cell 0 _ rfl
  have p1 : u4.cell? ⟨n1, 1, none⟩ = some (.int .i64 c.pos) := ev'.cell 1 _ rfl
  have p2 : u4.cell? ⟨n1, 2, none⟩ = some (.string A) := ev'.cell 2 _ rfl
  have p3 : u4.cell? ⟨n1, 3, none⟩ = some (.string R) := ev'.cell 3 _ rfl
  have p4 : u4.cell? ⟨n1, 4, none⟩ = some (.string S) := ev'.cell 4 _ rfl
  have p5 : u4.cell? ⟨n1, 5, none⟩ = some (.string P) := ev'.cell 5 _ rfl
  have p6 : u4.cell? ⟨n1, 6, none⟩ = some (.string O) := ev'.cell 6 _ rfl
  have p7 : u4.cell? ⟨n1, 7, none⟩ = some (.int .i64 N) := ev'.cell 7 _ rfl
  have p8 : u4.cell? ⟨n1, 8, none⟩ = some (.string V) := ev'.cell 8 _ rfl
  have p9 : u4.cell? ⟨n1, 9, none⟩ = some (.pointer p) := ev'.cell 9 _ rfl
  have o0 := oz.c0
  have o1 := oz.c1
  obtain ⟨hk1, hk2, hk3, hk4, hk5⟩ := HK.out
  have hsit := HS.out
  unfold Sit at hsit
  clear HK HS oz ev' he hv
  have np0 := neq_ptr none
  have np1 := neq_ptr q
  have np2 := neq_ptr q'
  generalize refText xs = tx at *
  generalize refText ys = ty at *
  rcases hsit with ⟨rfl, rfl, rfl, rfl, rfl, rfl, rfl, rfl⟩ | ⟨rfl, rfl, rfl, rfl, rfl, rfl, rfl, rfl⟩ | ⟨rfl, rfl, rfl, rfl, rfl, rfl, rfl, rfl⟩ | ⟨rfl, rfl, rfl, rfl, rfl, rfl, rfl, rfl⟩ | ⟨rfl, rfl, rfl, rfl, rfl, rfl, rfl, rfl⟩ | ⟨rfl, rfl, rfl, rfl, rfl, rfl, rfl, rfl, rfl, rfl, rfl, rfl, rfl⟩
  · go_wp2
    go_ret
    exact ⟨rfl, bz⟩
  · go_wp2
    go_ret
    exact ⟨rfl, bz⟩
  · go_wp2
    go_ret
    exact ⟨rfl, bz⟩
  · go_wp2
    go_ret
    exact ⟨rfl, bz⟩
  · go_wp2
    go_ret
    exact ⟨rfl, bz⟩
  · go_wp2
    go_ret
    exact ⟨rfl, bz⟩
end Go.Proofs.Qxb6625833a
