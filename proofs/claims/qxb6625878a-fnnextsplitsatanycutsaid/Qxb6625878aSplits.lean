/-
  OUR OWN WORK. Seat b6625878a: THE PLAIN LAW AND THE WALK of FnNextSplitsAtAnyCut (4).
-/
import Derived.Test.Qxb6625878aEarliest
namespace Go.Proofs.Qxb6625878a
open Go.RowKit

attribute [local go_sem ↓] Go.wp_at_zero Go.wp_at_succ

theorem BestAt.unique {M : Nat → Ln} {m r s : Nat} (h : BestAt M m r) (k : BestAt M m s) : r = s := by
  rcases Nat.lt_trichotomy r s with e | e | e
  · have h1 := k.2.1 r e
    rw [h.2.2 s k.1] at h1
    cases h1
  · exact e
  · have h1 := h.2.1 s e
    rw [k.2.2 r h.1] at h1
    cases h1

theorem BestAt.right {L : Nat → Ln} {x len ra rb : Nat} (hx : x ≤ len) (ha : BestAt L x ra) (hb : BestAt (fun k => L (x + k)) (len - x) rb) (hl : less (L (x + rb)).hd (L ra).hd = true) : BestAt L len (x + rb) := by
  rw [less_iff] at hl
  have b1 := hb.1
  refine ⟨by omega, fun j hj => ?_, fun j hj => ?_⟩
  · by_cases e : j < x
    · have h1 := ha.2.2 j e
      rw [less_not] at h1
      rw [less_iff]; omega
    · have h1 := hb.2.1 (j - x) (by omega)
      simp only [show x + (j - x) = j by omega] at h1
      exact h1
  · by_cases e : j < x
    · have h1 := ha.2.2 j e
      rw [less_not] at h1 ⊢
      omega
    · have h1 := hb.2.2 (j - x) (by omega)
      simp only [show x + (j - x) = j by omega] at h1
      exact h1
theorem BestAt.left {L : Nat → Ln} {x len ra rb : Nat} (hx : x ≤ len) (ha : BestAt L x ra) (hb : BestAt (fun k => L (x + k)) (len - x) rb) (hl : less (L (x + rb)).hd (L ra).hd = false) : BestAt L len ra := by
  rw [less_not] at hl
  have a1 := ha.1
  refine ⟨by omega, ha.2.1, fun j hj => ?_⟩
  by_cases e : j < x
  · exact ha.2.2 j e
  · have h1 := hb.2.2 (j - x) (by omega)
    simp only [show x + (j - x) = j by omega] at h1
    rw [less_not] at h1 ⊢
    omega

theorem queueOf_pre (a : Option Addr) (m cap t : Nat) (p : Nat → Nat) (s : Int) (w : World) (h : Ptrs w a m p) (ht : t ≤ m) (hm : m ≤ 1048576) :
    Calls Try.prog 9 #[.slice a m cap, .int .i64 0, .int .i64 (t : Int), .int .u64 s] w fun e w' => QueueOut t p e w' ∧ Below w.heap.size w w' := by
  have := queueOf_any a m cap 0 t p s w h (by omega) ht hm
  simpa using this

theorem tm_keep {w w' : World} {b : Nat} {t : Tm} (hb : Below w.heap.size w w') (h : TmAt w b t) : w'.cell? ⟨b, 0, none⟩ = some (.int .i64 t.due) ∧ w'.cell? ⟨b, 1, none⟩ = some (.int .u64 t.ord) ∧ w'.cell? ⟨b, 2, none⟩ = some (.int .i64 t.kind) ∧ w'.cell? ⟨b, 3, none⟩ = some (.int .i64 t.rep) ∧ w'.cell? ⟨b, 4, none⟩ = some (.int .i64 t.seq) ∧ w'.cell? ⟨b, 5, none⟩ = some (.int .i64 t.aft) :=
  (h.below hb).cells

set_option maxHeartbeats 4000000 in
set_option maxRecDepth 100000 in
theorem splits_any (a : Option Addr) (len cap : Nat) (L : Nat → Ln) (c u : Int) (w : World) (h : Lines w a len L) (hl : len ≤ maxLen) :
    Calls Try.prog 4 #[.slice a len cap, .int .i64 c, .int .u64 u] w fun e w' => e = .returned (.bool true) ∧ Below w.heap.size w w' := by
  go_enter Try.func4, Try.ntmps4
  go_wp2_with fail
  refine (bytes14_any a len cap L c u _ h hl).mono ?_
  rintro e w1 ⟨⟨b, rfl⟩, hw1⟩
  subst w1
  cases b
  · go_wp2; go_ret; exact ⟨rfl, Below.refl _ _⟩
  go_wp2_with fail
  refine (tooBig_any a len cap L _ h hl).mono ?_
  rintro e w1 ⟨⟨b, rfl, hsm⟩, hw1⟩
  subst w1
  cases b
  rotate_left
  · go_wp2; go_ret; exact ⟨rfl, Below.refl _ _⟩
  have HSm := hide2 (hsm rfl)
  clear hsm
  by_cases hc0 : c < 0
  · go_wp2; go_ret; exact ⟨rfl, Below.refl _ _⟩
  have hc0' : decide (c < 0) = false := decide_eq_false hc0
  by_cases hc1 : (len : Int) < c
  · go_wp2; go_ret; exact ⟨rfl, Below.refl _ _⟩
  have hc1' : decide ((len : Int) < c) = false := decide_eq_false hc1
  go_wp2_with fail
  refine (headsValid_any a len cap L _ h hl).mono ?_
  rintro e w1 ⟨⟨b, rfl, hhd⟩, hb1⟩
  cases b
  · go_wp2; go_ret; exact ⟨rfl, hb1⟩
  have HHd := hide2 (hhd rfl)
  clear hhd
  obtain ⟨x, rfl⟩ := Int.eq_ofNat_of_zero_le (show 0 ≤ c by omega)
  have hx : x ≤ len := by omega
  clear hc0 hc0' hc1 hc1'
  have h1 := h.below hb1
  go_wp2_with fail
  refine (makeLines_any a len cap L _ h1 HSm.out HHd.out).mono ?_
  rintro e w2 ⟨⟨pb, rfl, hmade⟩, hb2⟩
  obtain ⟨p, hp, hq, hinj⟩ := hmade.ptrs
  have B2 : Below w.heap.size w w2 := hb1.trans (hb2.mono hb1.size)
  have hlen := HSm.out.1
  have HP := hide2 hp
  have HQ := hide2 hq
  have HJ := hide2 hinj
  clear hmade h1 hb1 hb2 hp hq hinj
  go_wp2_with fail
  refine (queueOf_pre _ len len x p u _ HP.out hx (by omega)).mono ?_
  rintro e w3 ⟨⟨qb1, rfl, hqb, hqc⟩, hb⟩
  have HN := hide2 (zznext_any (pb + 1) qb1 (x) (p) (L) w3 ⟨hqb, hqc, fun k hk => (HQ.out _ (by omega)).below hb⟩ (fun k hk => HHd.out k (by omega)) (by omega))
  have HP' := hide2 (HP.out.below hb)
  have HQ' : Hid (∀ j, j < len → QLine w3 (pb + 1) (p j) (L j)) := fun j hj => (HQ.out j hj).below hb
  have BB : Below w.heap.size w w3 := B2.trans (hb.mono B2.size)
  clear hqb hqc HP HQ B2 hb
  go_wp2_with fail
  refine HN.out.mono ?_
  clear HN
  rintro e w4 ⟨hout, hb⟩
  have HP := hide2 (HP'.out.below hb)
  have HQ : Hid (∀ j, j < len → QLine w4 (pb + 1) (p j) (L j)) := fun j hj => (HQ'.out j hj).below hb
  have B2 : Below w.heap.size w w4 := BB.trans (hb.mono BB.size)
  clear HP' HQ' BB hb
  have HOa := hide2 hout
  clear hout
  obtain ⟨va, rfl⟩ : ∃ v, e = .returned v := by
    rcases HOa.out with ⟨_, rfl⟩ | ⟨r, _, rfl⟩
    · exact ⟨_, rfl⟩
    · exact ⟨_, rfl⟩
  go_wp2_with fail
  refine (queueOf_any _ len len x len p u _ HP.out hx (by omega) (by omega)).mono ?_
  rintro e w5 ⟨⟨qb2, rfl, hqb, hqc⟩, hb⟩
  have HN := hide2 (zznext_any (pb + 1) qb2 (len - x) (fun k => p (x + k)) (fun k => L (x + k)) w5 ⟨hqb, hqc, fun k hk => (HQ.out _ (by omega)).below hb⟩ (fun k hk => HHd.out (x + k) (by omega)) (by omega))
  have HP' := hide2 (HP.out.below hb)
  have HQ' : Hid (∀ j, j < len → QLine w5 (pb + 1) (p j) (L j)) := fun j hj => (HQ.out j hj).below hb
  have BB : Below w.heap.size w w5 := B2.trans (hb.mono B2.size)
  clear hqb hqc HP HQ B2 hb
  go_wp2_with fail
  refine HN.out.mono ?_
  clear HN
  rintro e w6 ⟨hout, hb⟩
  have HP := hide2 (HP'.out.below hb)
  have HQ : Hid (∀ j, j < len → QLine w6 (pb + 1) (p j) (L j)) := fun j hj => (HQ'.out j hj).below hb
  have B2 : Below w.heap.size w w6 := BB.trans (hb.mono BB.size)
  clear HP' HQ' BB hb
  have HOb := hide2 hout
  clear hout
  obtain ⟨vb, rfl⟩ : ∃ v, e = .returned v := by
    rcases HOb.out with ⟨_, rfl⟩ | ⟨r, _, rfl⟩
    · exact ⟨_, rfl⟩
    · exact ⟨_, rfl⟩
  go_wp2_with fail
  refine (queueOf_all _ len len p u _ HP.out (by omega)).mono ?_
  rintro e w7 ⟨⟨qb3, rfl, hqb, hqc⟩, hb⟩
  have HN := hide2 (zznext_any (pb + 1) qb3 (len) (p) (L) w7 ⟨hqb, hqc, fun k hk => (HQ.out _ (by omega)).below hb⟩ HHd.out (by omega))
  have HP' := hide2 (HP.out.below hb)
  have HQ' : Hid (∀ j, j < len → QLine w7 (pb + 1) (p j) (L j)) := fun j hj => (HQ.out j hj).below hb
  have BB : Below w.heap.size w w7 := B2.trans (hb.mono B2.size)
  clear hqb hqc HP HQ B2 hb
  go_wp2_with fail
  refine HN.out.mono ?_
  clear HN
  rintro e w8 ⟨hout, hb⟩
  have HP := hide2 (HP'.out.below hb)
  have HQ : Hid (∀ j, j < len → QLine w8 (pb + 1) (p j) (L j)) := fun j hj => (HQ'.out j hj).below hb
  have B2 : Below w.heap.size w w8 := BB.trans (hb.mono BB.size)
  clear HP' HQ' BB hb
  have HOc := hide2 hout
  clear hout
  have h8 := h.below B2
  have XA := hide2 (And.intro HOa.out (And.intro HOb.out HOc.out))
  clear HOa HOb HOc
  obtain ⟨oa, ob, oc⟩ := XA.out
  clear XA
  rcases oc with ⟨hz, rfl⟩ | ⟨r, hbest, rfl⟩
  · have xz : x = 0 := by omega
    have ea : va = .pointer none := by
      rcases oa with ⟨_, e⟩ | ⟨ra, hba, _⟩
      · cases e; rfl
      · exact absurd hba.1 (by omega)
    have eb : vb = .pointer none := by
      rcases ob with ⟨_, e⟩ | ⟨rb, hbb, _⟩
      · cases e; rfl
      · exact absurd hbb.1 (by omega)
    subst ea
    subst eb
    clear oa ob
    have t1 : ((x : Int) == 0) = true := by simp; omega
    have t2 : ((x : Int) == (len : Int)) = true := by simp; omega
    have t3 : ((len : Int) == 0) = true := by simp; omega
    have HZ := hide2 (And.intro hz xz)
    clear hz xz
    go_wp2
    go_ret
    exact ⟨rfl, B2⟩
  rcases oa with ⟨xz, ea⟩ | ⟨ra, hba, ea⟩
  · rcases ob with ⟨yz, _⟩ | ⟨rb, hbb, eb⟩
    · exact absurd hbest.1 (by omega)
    have er : x + rb = r := by
      subst xz
      have h2 : BestAt L len rb := by simpa using hbb
      rw [Nat.zero_add]
      exact h2.unique hbest
    cases ea
    have eb' : vb = .pointer (some ⟨p r, 0, none⟩) := by rw [← er]; cases eb; rfl
    subst eb'
    have t1 : ((x : Int) == 0) = true := by simp; omega
    have t2 : ((x : Int) == (len : Int)) = false := by have := hbb.1; simp; omega
    have HBe := hide2 hbest
    have HZ := hide2 (And.intro xz er)
    clear xz er hbest hbb eb
    have hr : r < len := HBe.out.1
    have l0 : ((len : Int) == 0) = false := by simp; omega
    go_wp2_with fail
    refine (zzIndex_any _ len len (pb + 1) p L r _ HP.out HQ.out hr HJ.out (by omega)).mono ?_
    rintro e wz ⟨rfl, hwz⟩
    subst wz
    go_wp2_with fail
    refine (head_any a len cap L r _ h8 hr HHd.out).mono ?_
    rintro e w9 ⟨rfl, hb9⟩
    generalize ht : (L r).hd = t at *
    have HT := hide2 ht
    clear ht
    have HB9 := hide2 hb9
    clear hb9
    go_wp2_with fail
    go_loopw [13] (fun x wt => ∃ j : Nat, j ≤ len ∧ x = .int .i64 (j : Int) ∧ TmAt wt w9.heap.size t ∧ Hid (Below w8.heap.size w8 wt)) (fun x _ => len - (intOf x).toNat)
    case atStart => exact ⟨0, by omega, rfl, TmAt.new w9 t 34, hide2 (HB9.out.alloc HB9.out.size _)⟩
    case round =>
      obtain ⟨j, hj, rfl, hta, hbt⟩ := hrel
      by_cases hlt : j < len
      · have hL := (h8.below hbt.out).below ((Below.refl _ wr).drew)
        have hB : less (L j).hd t = false := by rw [← HT.out]; exact HBe.out.2.2 j hlt
        obtain ⟨c0, c1, c2, c3, c4, c5⟩ := hta.cells
        have htd : TmAt wr.drew w9.heap.size t := hta.below ((Below.refl _ wr).drew)
        go_wp2_with fail
        go_region_held3 (fun w' => w'.cell? ⟨w9.heap.size, 0, none⟩ = some (.int .i64 t.due) ∧ w'.cell? ⟨w9.heap.size, 1, none⟩ = some (.int .u64 t.ord) ∧ w'.cell? ⟨w9.heap.size, 2, none⟩ = some (.int .i64 t.kind) ∧ w'.cell? ⟨w9.heap.size, 3, none⟩ = some (.int .i64 t.rep) ∧ w'.cell? ⟨w9.heap.size, 4, none⟩ = some (.int .i64 t.seq) ∧ w'.cell? ⟨w9.heap.size, 5, none⟩ = some (.int .i64 t.aft))
          (first | exact tm_keep hbb ta10 | exact tm_keep hba htd | go_keep)
          (first
            | (go_at_call 12; refine (head_any a len cap L j _ hL hlt HHd.out).mono ?_; rintro e w10 ⟨rfl, hba⟩; have ta10 := htd.below hba)
            | (go_at_call 13; refine (less_any (L j).hd t _).mono ?_; rintro e w11 ⟨rfl, hbb⟩; rw [hB]))
        have ta11 := ta10.below hbb
        have hb11 : Below w8.heap.size w8 w11 := ((hbt.out.drew).trans (hba.mono hbt.out.size)).trans (hbb.mono (Nat.le_trans hbt.out.size hba.size))
        have HB11 := hide2 hb11
        clear hbb hba hb11 ta10 htd hta c0 c1 c2 c3 c4 c5
        go_wp2
        go_roundw
        case rel => exact ⟨j + 1, by omega, by go_num, ta11, HB11⟩
        case measure => simp [intOf]; omega
      · have hPt := hide2 (HP.out.below hbt.out)
        have hQt : Hid (∀ j, j < len → QLine wr (pb + 1) (p j) (L j)) := fun j hj => (HQ.out j hj).below hbt.out
        have hLt := h8.below hbt.out
        have HBw := hide2 (B2.trans (hbt.out.mono B2.size))
        clear hta
        go_wp2_with fail
        refine (zzIndex_nil _ len len _).mono ?_
        rintro e wy ⟨rfl, hwy⟩
        subst wy
        go_wp2_with fail
        refine (zzIndex_any _ len len (pb + 1) p L r _ hPt.out hQt.out (hr) HJ.out (by omega)).mono ?_
        rintro e wy ⟨rfl, hwy⟩
        subst wy
        go_wp2
        go_ret
        exact ⟨rfl, HBw.out⟩
  rcases ob with ⟨yz, eb⟩ | ⟨rb, hbb, eb⟩
  · have exl : x = len := by omega
    have er : ra = r := by
      have h2 : BestAt L len ra := by rw [exl] at hba; exact hba
      exact h2.unique hbest
    subst er
    cases ea
    cases eb
    have t1 : ((x : Int) == 0) = false := by have := hba.1; simp; omega
    have t2 : ((x : Int) == (len : Int)) = true := by simp; omega
    have HBe := hide2 hbest
    have HZ := hide2 (And.intro exl yz)
    clear exl yz hbest hba
    have hr : ra < len := HBe.out.1
    have l0 : ((len : Int) == 0) = false := by simp; omega
    go_wp2_with fail
    refine (zzIndex_any _ len len (pb + 1) p L ra _ HP.out HQ.out hr HJ.out (by omega)).mono ?_
    rintro e wz ⟨rfl, hwz⟩
    subst wz
    go_wp2_with fail
    refine (head_any a len cap L ra _ h8 hr HHd.out).mono ?_
    rintro e w9 ⟨rfl, hb9⟩
    generalize ht : (L ra).hd = t at *
    have HT := hide2 ht
    clear ht
    have HB9 := hide2 hb9
    clear hb9
    go_wp2_with fail
    go_loopw [13] (fun x wt => ∃ j : Nat, j ≤ len ∧ x = .int .i64 (j : Int) ∧ TmAt wt w9.heap.size t ∧ Hid (Below w8.heap.size w8 wt)) (fun x _ => len - (intOf x).toNat)
    case atStart => exact ⟨0, by omega, rfl, TmAt.new w9 t 34, hide2 (HB9.out.alloc HB9.out.size _)⟩
    case round =>
      obtain ⟨j, hj, rfl, hta, hbt⟩ := hrel
      by_cases hlt : j < len
      · have hL := (h8.below hbt.out).below ((Below.refl _ wr).drew)
        have hB : less (L j).hd t = false := by rw [← HT.out]; exact HBe.out.2.2 j hlt
        obtain ⟨c0, c1, c2, c3, c4, c5⟩ := hta.cells
        have htd : TmAt wr.drew w9.heap.size t := hta.below ((Below.refl _ wr).drew)
        go_wp2_with fail
        go_region_held3 (fun w' => w'.cell? ⟨w9.heap.size, 0, none⟩ = some (.int .i64 t.due) ∧ w'.cell? ⟨w9.heap.size, 1, none⟩ = some (.int .u64 t.ord) ∧ w'.cell? ⟨w9.heap.size, 2, none⟩ = some (.int .i64 t.kind) ∧ w'.cell? ⟨w9.heap.size, 3, none⟩ = some (.int .i64 t.rep) ∧ w'.cell? ⟨w9.heap.size, 4, none⟩ = some (.int .i64 t.seq) ∧ w'.cell? ⟨w9.heap.size, 5, none⟩ = some (.int .i64 t.aft))
          (first | exact tm_keep hbb ta10 | exact tm_keep hba htd | go_keep)
          (first
            | (go_at_call 12; refine (head_any a len cap L j _ hL hlt HHd.out).mono ?_; rintro e w10 ⟨rfl, hba⟩; have ta10 := htd.below hba)
            | (go_at_call 13; refine (less_any (L j).hd t _).mono ?_; rintro e w11 ⟨rfl, hbb⟩; rw [hB]))
        have ta11 := ta10.below hbb
        have hb11 : Below w8.heap.size w8 w11 := ((hbt.out.drew).trans (hba.mono hbt.out.size)).trans (hbb.mono (Nat.le_trans hbt.out.size hba.size))
        have HB11 := hide2 hb11
        clear hbb hba hb11 ta10 htd hta c0 c1 c2 c3 c4 c5
        go_wp2
        go_roundw
        case rel => exact ⟨j + 1, by omega, by go_num, ta11, HB11⟩
        case measure => simp [intOf]; omega
      · have hPt := hide2 (HP.out.below hbt.out)
        have hQt : Hid (∀ j, j < len → QLine wr (pb + 1) (p j) (L j)) := fun j hj => (HQ.out j hj).below hbt.out
        have hLt := h8.below hbt.out
        have HBw := hide2 (B2.trans (hbt.out.mono B2.size))
        clear hta
        go_wp2_with fail
        refine (zzIndex_any _ len len (pb + 1) p L ra _ hPt.out hQt.out (hr) HJ.out (by omega)).mono ?_
        rintro e wy ⟨rfl, hwy⟩
        subst wy
        go_wp2_with fail
        refine (zzIndex_nil _ len len _).mono ?_
        rintro e wy ⟨rfl, hwy⟩
        subst wy
        go_wp2
        go_ret
        exact ⟨rfl, HBw.out⟩
  have t1 : ((x : Int) == 0) = false := by have := hba.1; simp; omega
  have t2 : ((x : Int) == (len : Int)) = false := by have := hbb.1; simp; omega
  have hsa : ra < len := by have := hba.1; omega
  have hsb : x + rb < len := by have := hbb.1; omega
  cases ea
  have eb' : vb = .pointer (some ⟨p (x + rb), 0, none⟩) := by cases eb; rfl
  subst eb'
  cases hls : less (L (x + rb)).hd (L ra).hd
  · have er : ra = r := (hba.left hx hbb hls).unique hbest
    subst er
    have HLs := hide2 hls
    have HBe := hide2 hbest
    clear hbest hba hbb eb hls
    generalize x + rb = s at *
    have hs := hsb
    have hr : ra < len := HBe.out.1
    have l0 : ((len : Int) == 0) = false := by simp; omega
    go_wp2_with fail
    refine (zzIndex_any _ len len (pb + 1) p L ra _ HP.out HQ.out hr HJ.out (by omega)).mono ?_
    rintro e wz ⟨rfl, hwz⟩
    subst wz
    go_wp2_with fail
    refine (head_any a len cap L ra _ h8 hr HHd.out).mono ?_
    rintro e w9 ⟨rfl, hb9⟩
    generalize ht : (L ra).hd = t at *
    have HT := hide2 ht
    clear ht
    have HB9 := hide2 hb9
    clear hb9
    go_wp2_with fail
    go_loopw [13] (fun x wt => ∃ j : Nat, j ≤ len ∧ x = .int .i64 (j : Int) ∧ TmAt wt w9.heap.size t ∧ Hid (Below w8.heap.size w8 wt)) (fun x _ => len - (intOf x).toNat)
    case atStart => exact ⟨0, by omega, rfl, TmAt.new w9 t 34, hide2 (HB9.out.alloc HB9.out.size _)⟩
    case round =>
      obtain ⟨j, hj, rfl, hta, hbt⟩ := hrel
      by_cases hlt : j < len
      · have hL := (h8.below hbt.out).below ((Below.refl _ wr).drew)
        have hB : less (L j).hd t = false := by rw [← HT.out]; exact HBe.out.2.2 j hlt
        obtain ⟨c0, c1, c2, c3, c4, c5⟩ := hta.cells
        have htd : TmAt wr.drew w9.heap.size t := hta.below ((Below.refl _ wr).drew)
        go_wp2_with fail
        go_region_held3 (fun w' => w'.cell? ⟨w9.heap.size, 0, none⟩ = some (.int .i64 t.due) ∧ w'.cell? ⟨w9.heap.size, 1, none⟩ = some (.int .u64 t.ord) ∧ w'.cell? ⟨w9.heap.size, 2, none⟩ = some (.int .i64 t.kind) ∧ w'.cell? ⟨w9.heap.size, 3, none⟩ = some (.int .i64 t.rep) ∧ w'.cell? ⟨w9.heap.size, 4, none⟩ = some (.int .i64 t.seq) ∧ w'.cell? ⟨w9.heap.size, 5, none⟩ = some (.int .i64 t.aft))
          (first | exact tm_keep hbb ta10 | exact tm_keep hba htd | go_keep)
          (first
            | (go_at_call 12; refine (head_any a len cap L j _ hL hlt HHd.out).mono ?_; rintro e w10 ⟨rfl, hba⟩; have ta10 := htd.below hba)
            | (go_at_call 13; refine (less_any (L j).hd t _).mono ?_; rintro e w11 ⟨rfl, hbb⟩; rw [hB]))
        have ta11 := ta10.below hbb
        have hb11 : Below w8.heap.size w8 w11 := ((hbt.out.drew).trans (hba.mono hbt.out.size)).trans (hbb.mono (Nat.le_trans hbt.out.size hba.size))
        have HB11 := hide2 hb11
        clear hbb hba hb11 ta10 htd hta c0 c1 c2 c3 c4 c5
        go_wp2
        go_roundw
        case rel => exact ⟨j + 1, by omega, by go_num, ta11, HB11⟩
        case measure => simp [intOf]; omega
      · have hPt := hide2 (HP.out.below hbt.out)
        have hQt : Hid (∀ j, j < len → QLine wr (pb + 1) (p j) (L j)) := fun j hj => (HQ.out j hj).below hbt.out
        have hLt := h8.below hbt.out
        have HBw := hide2 (B2.trans (hbt.out.mono B2.size))
        clear hta
        go_wp2_with fail
        refine (zzIndex_any _ len len (pb + 1) p L ra _ hPt.out hQt.out (hr) HJ.out (by omega)).mono ?_
        rintro e wy ⟨rfl, hwy⟩
        subst wy
        go_wp2_with fail
        refine (zzIndex_any _ len len (pb + 1) p L s _ hPt.out hQt.out (hs) HJ.out (by omega)).mono ?_
        rintro e wy ⟨rfl, hwy⟩
        subst wy
        go_wp2_with fail
        refine (head_any a len cap L s _ hLt hs HHd.out).mono ?_
        rintro e wa ⟨rfl, hba⟩
        have hLa := hLt.below hba
        have HBa := hide2 (HBw.out.trans (hba.mono HBw.out.size))
        clear hba
        go_wp2_with fail
        refine (head_any a len cap L ra _ hLa hr HHd.out).mono ?_
        rintro e wb ⟨rfl, hbb⟩
        have HBb := hide2 (HBa.out.trans (hbb.mono HBa.out.size))
        clear hbb
        go_wp2_with fail
        refine (less_any (L s).hd (L ra).hd _).mono ?_
        rintro e wc ⟨rfl, hbc⟩
        rw [HT.out, HLs.out]
        have HBc := hide2 (HBb.out.trans (hbc.mono HBb.out.size))
        clear hbc
        go_wp2
        go_ret
        exact ⟨rfl, HBc.out⟩
  · have er : x + rb = r := (hba.right hx hbb hls).unique hbest
    rw [er] at hls
    have HLs := hide2 hls
    have HBe := hide2 hbest
    clear hbest hba hbb eb hls
    rw [er]
    have HER := hide2 er
    clear er hsb
    generalize ra = s at *
    have hs := hsa
    have hr : r < len := HBe.out.1
    have l0 : ((len : Int) == 0) = false := by simp; omega
    go_wp2_with fail
    refine (zzIndex_any _ len len (pb + 1) p L r _ HP.out HQ.out hr HJ.out (by omega)).mono ?_
    rintro e wz ⟨rfl, hwz⟩
    subst wz
    go_wp2_with fail
    refine (head_any a len cap L r _ h8 hr HHd.out).mono ?_
    rintro e w9 ⟨rfl, hb9⟩
    generalize ht : (L r).hd = t at *
    have HT := hide2 ht
    clear ht
    have HB9 := hide2 hb9
    clear hb9
    go_wp2_with fail
    go_loopw [13] (fun x wt => ∃ j : Nat, j ≤ len ∧ x = .int .i64 (j : Int) ∧ TmAt wt w9.heap.size t ∧ Hid (Below w8.heap.size w8 wt)) (fun x _ => len - (intOf x).toNat)
    case atStart => exact ⟨0, by omega, rfl, TmAt.new w9 t 34, hide2 (HB9.out.alloc HB9.out.size _)⟩
    case round =>
      obtain ⟨j, hj, rfl, hta, hbt⟩ := hrel
      by_cases hlt : j < len
      · have hL := (h8.below hbt.out).below ((Below.refl _ wr).drew)
        have hB : less (L j).hd t = false := by rw [← HT.out]; exact HBe.out.2.2 j hlt
        obtain ⟨c0, c1, c2, c3, c4, c5⟩ := hta.cells
        have htd : TmAt wr.drew w9.heap.size t := hta.below ((Below.refl _ wr).drew)
        go_wp2_with fail
        go_region_held3 (fun w' => w'.cell? ⟨w9.heap.size, 0, none⟩ = some (.int .i64 t.due) ∧ w'.cell? ⟨w9.heap.size, 1, none⟩ = some (.int .u64 t.ord) ∧ w'.cell? ⟨w9.heap.size, 2, none⟩ = some (.int .i64 t.kind) ∧ w'.cell? ⟨w9.heap.size, 3, none⟩ = some (.int .i64 t.rep) ∧ w'.cell? ⟨w9.heap.size, 4, none⟩ = some (.int .i64 t.seq) ∧ w'.cell? ⟨w9.heap.size, 5, none⟩ = some (.int .i64 t.aft))
          (first | exact tm_keep hbb ta10 | exact tm_keep hba htd | go_keep)
          (first
            | (go_at_call 12; refine (head_any a len cap L j _ hL hlt HHd.out).mono ?_; rintro e w10 ⟨rfl, hba⟩; have ta10 := htd.below hba)
            | (go_at_call 13; refine (less_any (L j).hd t _).mono ?_; rintro e w11 ⟨rfl, hbb⟩; rw [hB]))
        have ta11 := ta10.below hbb
        have hb11 : Below w8.heap.size w8 w11 := ((hbt.out.drew).trans (hba.mono hbt.out.size)).trans (hbb.mono (Nat.le_trans hbt.out.size hba.size))
        have HB11 := hide2 hb11
        clear hbb hba hb11 ta10 htd hta c0 c1 c2 c3 c4 c5
        go_wp2
        go_roundw
        case rel => exact ⟨j + 1, by omega, by go_num, ta11, HB11⟩
        case measure => simp [intOf]; omega
      · have hPt := hide2 (HP.out.below hbt.out)
        have hQt : Hid (∀ j, j < len → QLine wr (pb + 1) (p j) (L j)) := fun j hj => (HQ.out j hj).below hbt.out
        have hLt := h8.below hbt.out
        have HBw := hide2 (B2.trans (hbt.out.mono B2.size))
        clear hta
        go_wp2_with fail
        refine (zzIndex_any _ len len (pb + 1) p L s _ hPt.out hQt.out (hs) HJ.out (by omega)).mono ?_
        rintro e wy ⟨rfl, hwy⟩
        subst wy
        go_wp2_with fail
        refine (zzIndex_any _ len len (pb + 1) p L r _ hPt.out hQt.out (hr) HJ.out (by omega)).mono ?_
        rintro e wy ⟨rfl, hwy⟩
        subst wy
        go_wp2_with fail
        refine (head_any a len cap L r _ hLt hr HHd.out).mono ?_
        rintro e wa ⟨rfl, hba⟩
        have hLa := hLt.below hba
        have HBa := hide2 (HBw.out.trans (hba.mono HBw.out.size))
        clear hba
        go_wp2_with fail
        refine (head_any a len cap L s _ hLa hs HHd.out).mono ?_
        rintro e wb ⟨rfl, hbb⟩
        have HBb := hide2 (HBa.out.trans (hbb.mono HBa.out.size))
        clear hbb
        go_wp2_with fail
        refine (less_any (L r).hd (L s).hd _).mono ?_
        rintro e wc ⟨rfl, hbc⟩
        rw [HT.out, HLs.out]
        have HBc := hide2 (HBb.out.trans (hbc.mono HBb.out.size))
        clear hbc
        go_wp2
        go_ret
        exact ⟨rfl, HBc.out⟩
end Go.Proofs.Qxb6625878a
