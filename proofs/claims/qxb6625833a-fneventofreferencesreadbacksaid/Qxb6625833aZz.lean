/-
  OUR OWN WORK. Seat b6625833a: ZZeventOf (function 9): what eventOf answers is handed on.
-/
import Derived.Test.Qxb6625833aEvent2
namespace Go.Proofs.Qxb6625833a
open Go.RowKit Go.Lib

theorem zeroSize48 : (zeroOf Try.prog 48).size = 10 := by kernel_rfl
theorem runAlloc48 (w : World) : (Instr.alloc 48 true (.tuple #[])).run Try.prog w = .ok (.pointer (some ⟨w.heap.size, 0, none⟩)) (w.alloc (.cells (zeroOf Try.prog 48) 48)) := by kernel_rfl

set_option maxHeartbeats 2000000 in
set_option maxRecDepth 100000 in
theorem zzevent_any (c : Chg) (w : World) (le : c.eref.length = 32) (lv : c.vref.length = 32) (k : ByteArray) (pos : Int) (name er s p o : ByteArray) (v : Int) (r : ByteArray) (pr : Option Addr)
    (h : ∀ w : World, Calls Try.prog 16 #[c.val] w fun e w' => e = .returned (evt k pos name er s p o v r pr) ∧ Below w.heap.size w w') :
    Calls Try.prog 9 #[c.val] w fun e w' => e = .returned (evt k pos name er s p o v r pr) ∧ Below w.heap.size w w' := by
  have HH := hide2 h
  clear h
  go_enter Try.func9, Try.ntmps9
  go_wp2_with (refine wpList_box rfl 44 _ rfl c rfl le lv ?_)
  intro W hW hb hsz
  have HZ := hide2 hsz
  clear hsz
  go_wp2_with (refine wpList_alloc rfl 48 10 rfl zeroSize48 runAlloc48 ?_)
  intro W1 ht hb1 hsz1
  clear hsz1
  have hW1 := hW.below hb1
  have hb2 : Below w.heap.size w W1 := hb.trans (hb1.mono hb.size)
  have ge0 : w.heap.size ≤ W.heap.size := by rw [HZ.out]; omega
  clear hW hb hb1 HZ
  generalize W.heap.size = rb at *
  go_wp2_with (refine wpList_load_chg (by rfl) 44 _ (by rfl) (Or.inr rfl) w.heap.size (by rfl) c ?_ ?_; exact hW1)
  refine (HH.out _).mono ?_
  rintro e w1 ⟨rfl, hb3⟩
  have th1 := there_below hb3 ht
  have bd1 : Below w.heap.size w w1 := hb2.trans (hb3.mono hb2.size)
  clear ht hb3 hb2 hW1 HH
  unfold evt
  go_wp2_with (refine wpList_store_mid (by rfl) 48 _ _ (by rfl) rb 0 (evl k pos name er s p o v r pr).toArray (by rfl) (by rfl) ?_ (info48s _ _ _ _ _ _ _ _ _ _) (evl_all _ _ _ _ _ _ _ _ _ _) ?_; (exact there_evl th1 _ _ _ _ _ _ _ _ _ _); have rz := World.rangeAt_setCells_same w1 rb 0 (evl k pos name er s p o v r pr) (there_evl' th1 _ _ _ _ _ _ _ _ _ _); have bz := below_setCells rb ge0 (evl k pos name er s p o v r pr) 0 _ bd1; rw [List.toList_toArray]; generalize w1.setCells rb 0 (evl k pos name er s p o v r pr) = Wz at *)
  exact bodyPost_ret (v := .agg (evl k pos name er s p o v r pr).toArray) (results_range Try.results9 _ _ rb rfl _ rz _ Try.underlying48 rfl (info48e _ _ _ _ _ _ _ _ _ _)) rfl ⟨rfl, bz⟩
end Go.Proofs.Qxb6625833a
