/-
  OUR OWN WORK. Seat b6625878a: THE WALK of FnNextIsEarliestHead (3).
-/
import Derived.Test.Qxb6625878aMake
namespace Go.Proofs.Qxb6625878a
open Go.RowKit

theorem Made.ptrs {L : Nat → Ln} {len pb : Nat} {w : World} (h : Made L len pb len w) : ∃ p, Ptrs w (some ⟨pb, 0, none⟩) len p ∧ (∀ j, j < len → QLine w (pb + 1) (p j) (L j)) ∧ ∀ i j, i < len → j < len → p i = p j → i = j := by
  obtain ⟨p, cs, h1, h2, h3, h4, h5⟩ := h
  refine ⟨p, ⟨fun k _ => ⟨pb, 0, rfl, (Array.getElem?_eq_some_iff.1 h1).1⟩, fun k hk => ?_⟩, h4, fun i j hi hj e => ?_⟩
  · rw [blk_some, off_some, Nat.zero_add]
    exact cell_here h1 (h3 k hk)
  · rcases Nat.lt_trichotomy i j with h | h | h
    · have := h5 i j h hj; omega
    · exact h
    · have := h5 j i h hi; omega

theorem queueOf_all (a : Option Addr) (m cap : Nat) (p : Nat → Nat) (s : Int) (w : World) (h : Ptrs w a m p) (hm : m ≤ 1048576) :
    Calls Try.prog 9 #[.slice a m cap, .int .i64 0, .int .i64 (m : Int), .int .u64 s] w fun e w' => QueueOut m p e w' ∧ Below w.heap.size w w' := by
  have := queueOf_any a m cap 0 m p s w h (by omega) (by omega) hm
  simpa using this

theorem head_any (a : Option Addr) (len cap : Nat) (L : Nat → Ln) (k : Nat) (w : World) (h : Lines w a len L) (hk : k < len) (hh : Heads len L) :
    Calls Try.prog 12 #[.slice a len cap, .int .i64 (k : Int)] w fun e w' => e = .returned (.agg #[.int .i64 (L k).hd.due, .int .u64 (L k).hd.ord, .int .i64 (L k).hd.kind, .int .i64 (L k).hd.rep, .int .i64 (L k).hd.seq, .int .i64 (L k).hd.aft]) ∧ Below w.heap.size w w' := zzHead_any a len cap L k w h hk hh
theorem less_any (t u : Tm) (w : World) : Calls Try.prog 13 #[.agg #[.int .i64 t.due, .int .u64 t.ord, .int .i64 t.kind, .int .i64 t.rep, .int .i64 t.seq, .int .i64 t.aft], .agg #[.int .i64 u.due, .int .u64 u.ord, .int .i64 u.kind, .int .i64 u.rep, .int .i64 u.seq, .int .i64 u.aft]] w fun e w' => e = .returned (.bool (less t u)) ∧ Below w.heap.size w w' := zzLess_any t u w

/-- Block b holds the timer t. -/
structure TmAt (w : World) (b : Nat) (t : Tm) : Prop where
  lt : b < w.heap.size
  all : w.rangeAt b 0 t.cells
theorem TmAt.below {w w' : World} {b : Nat} {t : Tm} (h : TmAt w b t) (hb : Below w.heap.size w w') : TmAt w' b t :=
  ⟨Nat.lt_of_lt_of_le h.lt hb.size, fun j v hv => (hb.cell h.lt).trans (h.all j v hv)⟩
theorem TmAt.cells {w : World} {b : Nat} {t : Tm} (h : TmAt w b t) : w.cell? ⟨b, 0, none⟩ = some (.int .i64 t.due) ∧ w.cell? ⟨b, 1, none⟩ = some (.int .u64 t.ord) ∧ w.cell? ⟨b, 2, none⟩ = some (.int .i64 t.kind) ∧ w.cell? ⟨b, 3, none⟩ = some (.int .i64 t.rep) ∧ w.cell? ⟨b, 4, none⟩ = some (.int .i64 t.seq) ∧ w.cell? ⟨b, 5, none⟩ = some (.int .i64 t.aft) :=
  ⟨h.all 0 _ rfl, h.all 1 _ rfl, h.all 2 _ rfl, h.all 3 _ rfl, h.all 4 _ rfl, h.all 5 _ rfl⟩
theorem TmAt.new (w : World) (t : Tm) (T : TypeId) : TmAt (w.alloc (.cells #[.int .i64 t.due, .int .u64 t.ord, .int .i64 t.kind, .int .i64 t.rep, .int .i64 t.seq, .int .i64 t.aft] T)) w.heap.size t :=
  ⟨by simp, fun j v hv => by rw [World.cell?_alloc_new, Nat.zero_add]; simpa [Tm.cells] using hv⟩

set_option maxHeartbeats 2000000 in
set_option maxRecDepth 100000 in
theorem earliest_any (a : Option Addr) (len cap : Nat) (L : Nat → Ln) (u : Int) (w : World) (h : Lines w a len L) (hl : len ≤ maxLen) :
    Calls Try.prog 3 #[.slice a len cap, .int .u64 u] w fun e w' => e = .returned (.bool true) ∧ Below w.heap.size w w' := by
  go_enter Try.func3, Try.ntmps3
  go_wp2_with fail
  refine (bytes5_any a len cap L u _ h hl).mono ?_
  rintro e w1 ⟨⟨b, rfl⟩, hw1⟩
  subst w1
  cases b
  · go_wp2; go_ret; exact ⟨rfl, Below.refl _ _⟩
  go_wp2_with fail
  refine (tooBig_any a len cap L _ h hl).mono ?_
  rintro e w1 ⟨⟨b, rfl, hsm⟩, hw1⟩
  subst w1
  cases b
  rotate_left
  · go_wp2; go_ret; exact ⟨rfl, Below.refl _ _⟩
  have HSm := hide2 (hsm rfl)
  clear hsm
  go_wp2_with fail
  refine (headsValid_any a len cap L _ h hl).mono ?_
  rintro e w1 ⟨⟨b, rfl, hhd⟩, hb1⟩
  cases b
  · go_wp2; go_ret; exact ⟨rfl, hb1⟩
  have HHd := hide2 (hhd rfl)
  clear hhd
  have h1 := h.below hb1
  go_wp2_with fail
  refine (makeLines_any a len cap L _ h1 HSm.out HHd.out).mono ?_
  rintro e w2 ⟨⟨pb, rfl, hmade⟩, hb2⟩
  obtain ⟨p, hp, hq, hinj⟩ := hmade.ptrs
  have h2 := h1.below hb2
  have B2 : Below w.heap.size w w2 := hb1.trans (hb2.mono hb1.size)
  have hlen := HSm.out.1
  have HP := hide2 hp
  have HQ := hide2 hq
  have HJ := hide2 hinj
  clear hmade h1 hb1 hb2 hp hq hinj
  go_wp2_with fail
  refine (queueOf_all _ len len p u _ HP.out (by omega)).mono ?_
  rintro e w3 ⟨⟨qb, rfl, hqb, hqc⟩, hb3⟩
  have hQ : Queue w3 (pb + 1) qb len p L := ⟨hqb, hqc, fun k hk => (HQ.out k hk).below hb3⟩
  have HQ3 := hide2 hQ
  have HP3 := hide2 (HP.out.below hb3)
  have h3 := h2.below hb3
  have B3 : Below w.heap.size w w3 := B2.trans (hb3.mono B2.size)
  clear hqb hqc hQ HQ HP h2 B2 hb3
  go_wp2_with fail
  refine (zznext_any (pb + 1) qb len p L _ HQ3.out HHd.out (by omega)).mono ?_
  rintro e w4 ⟨hout, hb4⟩
  have HO := hide2 hout
  have HQ4 := hide2 (HQ3.out.below hb4)
  have HP4 := hide2 (HP3.out.below hb4)
  have h4 := h3.below hb4
  have B4 : Below w.heap.size w w4 := B3.trans (hb4.mono B3.size)
  clear hout HQ3 HP3 h3 B3 hb4
  rcases HO.out with ⟨h0, rfl⟩ | ⟨r, hbest, rfl⟩
  · have e : len = 0 := h0
    subst e
    clear HO
    go_wp2
    go_ret
    exact ⟨rfl, B4⟩
  clear HO
  have hr : r < len := hbest.1
  have HBe := hide2 hbest
  clear hbest
  have hl0 : ((len : Int) == 0) = false := by simp; omega
  go_wp2_with fail
  refine (zzIndex_any _ len len (pb + 1) p L r _ HP4.out HQ4.out.ln hr HJ.out (by omega)).mono ?_
  rintro e w5 ⟨rfl, hw5⟩
  subst w5
  clear HP4 HQ4
  go_wp2_with fail
  refine (head_any a len cap L r _ h4 hr HHd.out).mono ?_
  rintro e w6 ⟨rfl, hb6⟩
  have B6 : Below w.heap.size w w6 := B4.trans (hb6.mono B4.size)
  clear hb6 h4 B4
  generalize ht : (L r).hd = t at *
  have HT := hide2 ht
  clear ht
  go_wp2_with fail
  go_loopw [10] (fun x wt => ∃ j : Nat, j ≤ len ∧ x = .int .i64 (j : Int) ∧ TmAt wt w6.heap.size t ∧ Below w.heap.size w wt) (fun x _ => len - (intOf x).toNat)
  case atStart => exact ⟨0, by omega, rfl, TmAt.new w6 t 34, B6.alloc B6.size _⟩
  case round =>
    obtain ⟨j, hj, rfl, hta, hbt⟩ := hrel
    by_cases hlt : j < len
    · have hL := h.below hbt
      have hA : j < r → less t (L j).hd = true := fun hjr => by rw [← HT.out]; exact HBe.out.2.1 j hjr
      have hB : less (L j).hd t = false := by rw [← HT.out]; exact HBe.out.2.2 j hlt
      have HAB := hide2 (And.intro hA hB)
      clear hA hB
      go_wp2_with fail
      refine (head_any a len cap L j _ hL hlt HHd.out).mono ?_
      rintro e w7 ⟨rfl, hb7⟩
      have hta7 := hta.below hb7
      have B7 : Below w.heap.size w w7 := hbt.trans (hb7.mono hbt.size)
      obtain ⟨c0, c1, c2, c3, c4, c5⟩ := hta7.cells
      have ltb := hta7.lt
      have HTA := hide2 hta7
      clear hta hbt hb7 hL hta7
      rcases Nat.lt_trichotomy j r with hjr | hjr | hjr
      · have g1 : (j : Int) < (r : Int) := by omega
        have g2 : ¬ (r : Int) < (j : Int) := by omega
        have g2' : decide ((r : Int) < (j : Int)) = false := decide_eq_false g2
        go_wp2_with fail
        refine (less_any t (L j).hd _).mono ?_
        rintro e w8 ⟨rfl, hb8⟩
        rw [HAB.out.1 hjr]
        have ta8 := (HTA.out.below ((Below.refl _ w7).alloc (Nat.le_refl _) _)).below hb8
        have B8 : Below w.heap.size w w8 := (B7.alloc B7.size _).trans (hb8.mono (by simp; exact Nat.le_succ_of_le B7.size))
        clear hb8 c0 c1 c2 c3 c4 c5
        go_wp2
        go_roundw
        case rel => exact ⟨j + 1, by omega, by go_num, ta8, B8⟩
        case measure => simp [intOf]; omega
      · have g1 : ¬ (j : Int) < (r : Int) := by omega
        have g1' : decide ((j : Int) < (r : Int)) = false := decide_eq_false g1
        have g2 : ¬ (r : Int) < (j : Int) := by omega
        have g2' : decide ((r : Int) < (j : Int)) = false := decide_eq_false g2
        have H := hide2 hjr
        clear hjr
        have ta8 := HTA.out.below ((Below.refl _ w7).alloc (Nat.le_refl _) (.cells #[.int .i64 (L j).hd.due, .int .u64 (L j).hd.ord, .int .i64 (L j).hd.kind, .int .i64 (L j).hd.rep, .int .i64 (L j).hd.seq, .int .i64 (L j).hd.aft] 34))
        go_wp2
        go_roundw
        case rel => exact ⟨j + 1, by omega, by go_num, ta8, B7.alloc B7.size _⟩
        case measure => simp [intOf]; omega
      · have g1 : ¬ (j : Int) < (r : Int) := by omega
        have g1' : decide ((j : Int) < (r : Int)) = false := decide_eq_false g1
        have g2 : (r : Int) < (j : Int) := by omega
        go_wp2_with fail
        refine (less_any (L j).hd t _).mono ?_
        rintro e w8 ⟨rfl, hb8⟩
        rw [HAB.out.2]
        have ta8 := (HTA.out.below ((Below.refl _ w7).alloc (Nat.le_refl _) _)).below hb8
        have B8 : Below w.heap.size w w8 := (B7.alloc B7.size _).trans (hb8.mono (by simp; exact Nat.le_succ_of_le B7.size))
        clear hb8 c0 c1 c2 c3 c4 c5
        go_wp2
        go_roundw
        case rel => exact ⟨j + 1, by omega, by go_num, ta8, B8⟩
        case measure => simp [intOf]; omega
    · go_wp2
      go_ret
      exact ⟨rfl, hbt⟩
end Go.Proofs.Qxb6625878a
