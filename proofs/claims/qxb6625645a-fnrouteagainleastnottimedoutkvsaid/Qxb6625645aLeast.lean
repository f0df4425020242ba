/-
  OUR OWN WORK. Seat b6625645a: THE WALK OF THE LAW FnRouteAgainLeastNotTimedOutKv (function 4).
-/
import Derived.Test.Qxb6625645aPlain
namespace Go.Proofs.Qxb6625645a
open Go.RowKit Go.Maps Go.ChangeMaps

theorem cnt_all {L : List Int} {z : Nat → Int} : ∀ {n : Nat}, (∀ i, i < n → inS L (z i) = true) → cnt L z n = n
  | 0, _ => rfl
  | n + 1, h => by rw [cnt, if_pos (h n (by omega)), cnt_all (fun i hi => h i (by omega))]

theorem first_some {al : Bool} {L : List Int} {n : Nat} {z : Nat → Int} {v : Int} (h : al = decide (L.length = n)) (hc : cnt L z n = L.length) (hf : First (notIn (cleared L n)) z n v) (hn : 0 < n) :
    ∃ p, p < n ∧ v = z p ∧ (notIn (cleared L n)) (z p) = true ∧ ∀ i, i < p → notIn (cleared L n) (z i) = false := by
  rcases hf with ⟨_, hf⟩ | hf
  · exfalso
    by_cases e : L.length = n
    · have := hf 0 hn
      rw [notIn_cleared h, h, e] at this
      simp at this
    · refine e (hc.symm.trans (cnt_all fun i hi => ?_))
      have := hf i hi
      rw [notIn_cleared h, h] at this
      simpa [e] using this
  · exact hf

set_option maxRecDepth 100000 in
set_option maxHeartbeats 2000000 in
theorem least_any (a0 a1 a2 : Option Addr) (l0 l1 l2 c0 c1 c2 : Nat) (z0 z1 z2 : Nat → Int) (w : World) (h0 : Row w a0 l0 c0 z0) (h1 : Row w a1 l1 c1 z1) (h2 : Row w a2 l2 c2 z2) (m0 : l0 ≤ maxLen) (m1 : l1 ≤ maxLen) (m2 : l2 ≤ maxLen) :
    Calls Try.prog 4 #[.slice a0 l0 c0, .slice a1 l1 c1, .slice a2 l2 c2] w fun e w' => e = .returned (.bool true) ∧ Below w.heap.size w w' := by
  have hby := bytes14 a0 a1 a2 l0 l1 l2 c0 c1 c2 w m0 m1 m2
  unfold maxLen at m0 m1 m2
  go_enter Try.func4, Try.ntmps4
  go_wp2_with fail
  refine hby.mono ?_
  clear hby
  rintro e w' ⟨b, rfl, hw⟩
  subst w'
  cases b
  · go_wp2; go_ret; exact ⟨rfl, Below.refl _ _⟩
  by_cases t0 : 131072 < l0
  · go_wp2_with fail; go_ret; exact ⟨rfl, Below.refl _ _⟩
  by_cases t1 : 131072 < l1
  · go_wp2_with fail; go_ret; exact ⟨rfl, Below.refl _ _⟩
  by_cases t2 : 131072 < l2
  · go_wp2_with fail; go_ret; exact ⟨rfl, Below.refl _ _⟩
  by_cases t3 : 131072 < l0 + l1 + l2
  · go_wp2_with fail; go_ret; exact ⟨rfl, Below.refl _ _⟩
  have s0 : l0 ≤ 131072 := by omega
  have s1 : l1 ≤ 131072 := by omega
  have s2 : l2 ≤ 131072 := by omega
  go_wp2_with fail
  refine (asc_any a0 l0 c0 z0 _ h0 (by omega)).mono ?_
  rintro e w1 ⟨⟨b, rfl, hasc⟩, hk1⟩
  have h0' := h0.keeps hk1 (by simp)
  have h1' := h1.keeps hk1 (by simp)
  have h2' := h2.keeps hk1 (by simp)
  have hb1 : Below w.heap.size w w1 := hk1.below (Nat.le_refl _) (by simp)
  cases b
  · go_wp2; go_ret; exact ⟨rfl, hb1⟩
  have ha : Asc z0 l0 := hasc rfl
  clear h0 h1 h2 hasc t0 t1 t2 t3 m0 m1 m2
  go_wp2_with fail
  go_loop [7] (fun i => ∃ k : Nat, k ≤ l2 ∧ i = .int .i64 k ∧ ∀ j, j < k → ∃ i, i < l0 ∧ z0 i = z2 j) (fun i => l2 - (intOf i).toNat)
  case atStart => exact ⟨0, Nat.zero_le _, rfl, fun j hj => by omega⟩
  case round =>
    obtain ⟨k, hk, rfl, hall⟩ := hrel
    by_cases hlt : k < l2
    · obtain ⟨i1, d1⟩ := h2'.at hlt
      go_wp2_with fail
      refine (has_any a0 l0 c0 z0 (z2 k) _ h0' (by omega)).mono ?_
      rintro e w' ⟨⟨b, rfl, hb⟩, hw⟩
      subst w'
      cases b
      · go_wp2; go_ret; exact ⟨rfl, hb1⟩
      · have hb' := hb rfl
        clear hb
        go_wp2
        go_round
        case rel =>
          refine ⟨k + 1, by omega, by go_num, fun j hj => ?_⟩
          by_cases e : j = k
          · subst e; exact hb'
          · exact hall j (by omega)
        case measure => simp [intOf]; omega
    · have e : k = l2 := by omega
      subst e
      go_wp2_with fail
      refine (clone_any a0 l0 c0 z0 _ h0' (by omega)).mono ?_
      rintro e w2 ⟨⟨A0, C0, rfl, r0, -⟩, hb2⟩
      have h1'' := h1'.below hb2
      have h2'' := h2'.below hb2
      have hb2' : Below w.heap.size w w2 := hb1.trans (hb2.mono hb1.size)
      clear h1' h2' h0' hb2 hb1 hk1
      go_wp2_with fail
      refine (clone_any a1 l1 c1 z1 _ h1'' (by omega)).mono ?_
      rintro e w3 ⟨⟨A1, C1, rfl, r1, -⟩, hb3⟩
      have r0' := r0.below hb3
      have h2' := h2''.below hb3
      have hb3' : Below w.heap.size w w3 := hb2'.trans (hb3.mono hb2'.size)
      clear h1'' h2'' hb3 hb2' r0
      go_wp2_with fail
      refine (clone_any a2 k c2 z2 _ h2' (by omega)).mono ?_
      rintro e w4 ⟨⟨A2, C2, rfl, r2, -⟩, hb4⟩
      have r0 := r0'.below hb4
      have r1' := r1.below hb4
      have hb4' : Below w.heap.size w w4 := hb3'.trans (hb4.mono hb3'.size)
      clear h2' hb4 hb3' r0' r1
      go_wp2_with fail
      refine (set_any A2 k C2 z2 _ r2 (by omega)).mono ?_
      rintro e w5 ⟨rfl, hT, hb5⟩
      have r0' := r0.below hb5
      have r1 := r1'.below hb5
      have r2' := r2.below hb5
      have hb5' : Below w.heap.size w w5 := hb4'.trans (hb5.mono hb4'.size)
      have hge : w.heap.size ≤ w4.heap.size := hb4'.size
      clear hb5 hb4' r0 r1' r2
      have hcnt := cnt_eq ha hall
      generalize w4.heap.size = T at *
      obtain ⟨L, HL⟩ : ∃ L, Hid (L = keys z2 k) := ⟨_, rfl⟩
      rw [← HL.out] at hT hcnt
      have HC : Hid (cnt L z0 l0 = L.length) := hcnt
      clear hcnt hall
      go_wp2_with fail
      go_loop [9, 10] (fun c i => ∃ j : Nat, j ≤ l0 ∧ i = .int .i64 j ∧ c = .int .i64 (cnt L z0 j)) (fun _ i => l0 - (intOf i).toNat)
      case atStart => exact ⟨0, Nat.zero_le _, rfl, rfl⟩
      case round =>
        obtain ⟨j, hj, rfl, rfl⟩ := hrel
        have hc := cnt_le L z0 j
        by_cases hlj : j < l0
        · obtain ⟨i1, d1⟩ := r0'.at hlj
          have hl := hT.look (r0'.wf j hlj)
          by_cases hin : inS L (z0 j) = true
          · go_wp2
            go_round
            case rel => exact ⟨j + 1, by omega, by go_num, by rw [cnt, if_pos hin]; go_num⟩
            case measure => simp [intOf]; omega
          · have hin' : inS L (z0 j) = false := by simpa using hin
            go_wp2
            go_round
            case rel => exact ⟨j + 1, by omega, by go_num, by rw [cnt, if_neg hin]; go_num⟩
            case measure => simp [intOf]; omega
        · have e : j = l0 := by omega
          subst e
          clear hlj hj hlt hk
          obtain ⟨al, hal, HA⟩ : ∃ al : Bool, ((cnt L z0 j : Int) == (j : Int)) = al ∧ Hid (al = decide (L.length = j)) := ⟨_, rfl, by
            rw [HC.out]; show _ = _; rw [Bool.eq_iff_iff]; simp; omega⟩
          clear hc
          go_wp2_with fail
          refine (clone_any A0 j C0 z0 _ r0' (by omega)).mono ?_
          rintro e w6 ⟨⟨A3, C3, rfl, r3, -⟩, hb6⟩
          have r0 := r0'.below hb6
          have r1' := r1.below hb6
          have r2 := r2'.below hb6
          have hT6 := hT.below hb6
          have hb6' : Below w.heap.size w w6 := hb5'.trans (hb6.mono hb5'.size)
          clear hb6 hb5' r0' r1 r2' hT
          go_wp2_with fail
          refine (set_any A1 l1 C1 z1 _ r1' (by omega)).mono ?_
          rintro e w7 ⟨rfl, hM1, hb7⟩
          have r0' := r0.below hb7
          have r2' := r2.below hb7
          have r3' := r3.below hb7
          have hT7 := hT6.below hb7
          have hb7' : Below w.heap.size w w7 := hb6'.trans (hb7.mono hb6'.size)
          clear hb7 r0 r1' r2 r3 hT6
          have g6 := hb6'.size
          clear hb6'
          generalize w6.heap.size = M1 at *
          go_wp2_with fail
          refine (set_any A2 k C2 z2 _ r2' (by omega)).mono ?_
          rintro e w8 ⟨rfl, hM2, hb8⟩
          have r0 := r0'.below hb8
          have r3 := r3'.below hb8
          have hT8 := hT7.below hb8
          have hb8' : Below w.heap.size w w8 := hb7'.trans (hb8.mono hb7'.size)
          have hTM : T < w7.heap.size := hT7.lt
          clear hb8 r0' r2' r3' hT7 hM1
          have g7 := hb7'.size
          clear hb7'
          generalize w7.heap.size = M2 at *
          go_wp2_with fail
          refine (new_any A3 j C3 M1 M2 _).mono ?_
          rintro e w9 ⟨rfl, hro, hb9⟩
          have r0' := r0.below hb9
          have r3' := r3.below hb9
          have hT9 := hT8.below hb9
          have hM9 := hM2.below hb9
          have hb9' : Below w.heap.size w w9 := hb8'.trans (hb9.mono hb8'.size)
          have hM2r : M2 < w8.heap.size := hM2.lt
          have hne : 0 < j → (base A3).block ≠ w8.heap.size := fun hp => by
            obtain ⟨b3, o3, e3, hl3⟩ := r3.lt 0 hp
            subst e3
            exact Nat.ne_of_lt hl3
          have hne0 : 0 < j → (base A0).block ≠ w8.heap.size := fun hp => by
            obtain ⟨b3, o3, e3, hl3⟩ := r0.lt 0 hp
            subst e3
            exact Nat.ne_of_lt hl3
          have hneM : 0 < j → (base A0).block ≠ M2 := fun hp => hM2.ne_row r0 hp
          have hneM3 : 0 < j → (base A3).block ≠ M2 := fun hp => hM2.ne_row r3 hp
          clear hb9 r0 r3 hT8 hM2
          have g8 := hb8'.size
          clear hb8'
          generalize w8.heap.size = rb at *
          go_wp2_with fail
          refine (zzagain_any rb A3 j C3 M1 M2 k z0 L _ hro r3' (by rw [HL.out]; exact hM9) (by omega) hne).mono ?_
          rintro e wA ⟨⟨v, rfl, hv⟩, hroA, hMA, hNA, hkA⟩
          have hkA' : Below w.heap.size w wA := hb9'.trans (hkA.below hb9'.size (by simp; omega))
          have r0 := r0'.keeps hkA (by simp; omega)
          have r3 := r3'.keeps hkA (by simp; omega)
          have hTA := hT9.keeps hkA (by simp; omega)
          clear hro r3' hM9 hne0 hneM hneM3 hb9' r0' hT9 hkA hNA
          generalize w9.heap.size = M3 at *
          by_cases hj0 : j = 0
          · subst hj0
            have e0 : v = 0 := by
              rcases hv with ⟨e, _⟩ | ⟨i, hi, _⟩
              · exact e
              · omega
            subst e0
            go_wp2_with fail
            refine (zzuntried_any rb A3 0 C3 M2 M3 k z0 _ _ hroA r3 hMA (by omega)).mono ?_
            rintro e w' ⟨⟨v2, rfl, hv2⟩, hw⟩
            subst w'
            obtain rfl := hv2.unique hv
            go_wp2_with fail
            go_ret
            exact ⟨rfl, hkA'⟩
          · obtain ⟨p, hp, e, hn1, hn2⟩ := first_some HA.out HC.out hv (by omega)
            subst e
            have hjp : 0 < j := by omega
            have hj1 : ((j : Int) == 0) = false := by simp; omega
            have hnp := notIn_cleared HA.out (z0 p)
            rw [hn1] at hnp
            have hnq : ∀ i, i < p → (al || !inS L (z0 i)) = false := fun i hi => by rw [← notIn_cleared HA.out (z0 i)]; exact hn2 i hi
            have hcp : inS (cleared L j) (z0 p) = false := by simpa [notIn] using hn1
            have HP := hide hnp
            have HQ := hide hnq
            clear hnp hnq hn1 hn2 hj0
            go_wp2_with fail
            go_loop [14, 15] (fun t i => ∃ q : Nat, q ≤ p ∧ t = .int .i64 (-1) ∧ i = .int .i64 q) (fun _ i => p + 1 - (intOf i).toNat)
            case atStart => exact ⟨0, Nat.zero_le _, rfl, rfl⟩
            case round =>
              obtain ⟨q, hq, rfl, rfl⟩ := hrel
              have hqj : q < j := by omega
              obtain ⟨i1, d1⟩ := r0.at hqj
              by_cases hqp : q < p
              · have hlt : z0 q < z0 p := ha.lt hqp hp
                have hb : (z0 q == z0 p) = false := by simp; omega
                go_wp2
                go_round
                case rel => exact ⟨q + 1, by omega, by go_num, by go_num⟩
                case measure => simp [intOf]; omega
              · have e : q = p := by omega
                subst e
                have hlc := hMA.look (r0.wf q hp)
                have hlT := hTA.look (r0.wf q hp)
                rw [hcp] at hlc
                cases al
                · have hiq : inS L (z0 q) = false := by simpa using HP.out
                  rw [hiq] at hlT
                  go_wp2_with fail
                  go_loop [16] (fun i => ∃ y : Nat, y ≤ q ∧ i = .int .i64 y) (fun i => q - (intOf i).toNat)
                  case atStart => exact ⟨0, Nat.zero_le _, rfl⟩
                  case round =>
                    obtain ⟨y, hy, rfl⟩ := hrel
                    by_cases hyq : y < q
                    · have hyj : y < j := by omega
                      obtain ⟨i2, d2⟩ := r0.at hyj
                      have hlY := hTA.look (r0.wf y hyj)
                      have hyi : inS L (z0 y) = true := by simpa using HQ.out y hyq
                      rw [hyi] at hlY
                      go_wp2
                      go_round
                      case rel => exact ⟨y + 1, by omega, by go_num⟩
                      case measure => simp [intOf]; omega
                    · go_wp2_with fail
                      refine (tried_any rb A3 j C3 M2 M3 _ hroA).mono ?_
                      rintro e w' ⟨rfl, hw⟩
                      subst w'
                      go_wp2_with fail
                      refine (zzuntried_any rb A3 j C3 M2 M3 k z0 _ _ hroA r3 hMA (by omega)).mono ?_
                      rintro e w' ⟨⟨v2, rfl, hv2⟩, hw⟩
                      subst w'
                      obtain rfl := hv2.unique hv
                      go_wp2_with fail
                      refine (zzuntried_any rb A3 j C3 M2 M3 k z0 _ _ hroA r3 hMA (by omega)).mono ?_
                      rintro e w' ⟨⟨v3, rfl, hv3⟩, hw⟩
                      subst w'
                      obtain rfl := hv3.unique hv
                      go_wp2_with fail
                      go_ret
                      exact ⟨rfl, hkA'⟩
                · have e : q = 0 := by
                    by_cases e : q = 0
                    · exact e
                    · have := HQ.out 0 (by omega)
                      simp at this
                  have hq0 : ((q : Int) != 0) = false := by simp; omega
                  clear e
                  go_wp2_with fail
                  refine (tried_any rb A3 j C3 M2 M3 _ hroA).mono ?_
                  rintro e w' ⟨rfl, hw⟩
                  subst w'
                  go_wp2_with fail
                  refine (zzuntried_any rb A3 j C3 M2 M3 k z0 _ _ hroA r3 hMA (by omega)).mono ?_
                  rintro e w' ⟨⟨v2, rfl, hv2⟩, hw⟩
                  subst w'
                  obtain rfl := hv2.unique hv
                  go_wp2_with fail
                  refine (zzuntried_any rb A3 j C3 M2 M3 k z0 _ _ hroA r3 hMA (by omega)).mono ?_
                  rintro e w' ⟨⟨v2, rfl, hv2⟩, hw⟩
                  subst w'
                  obtain rfl := hv2.unique hv
                  go_wp2_with fail
                  go_ret
                  exact ⟨rfl, hkA'⟩
end Go.Proofs.Qxb6625645a
