/-
  OUR OWN WORK. Seat b6625645a: THE CONTRACTS OF THE PROJECT's ROUTE (functions 10 to 13, 15 to 17).
-/
import Derived.Test.Qxb6625645aHelp
namespace Go.Proofs.Qxb6625645a
open Go.RowKit Go.Maps Go.ChangeMaps

/-- The route in block rb: its nodes, the map of the tried, the map of the timed out. -/
structure Route (w : World) (rb : Nat) (a : Option Addr) (len cap m1 m2 : Nat) : Prop where
  lt : rb < w.heap.size
  c0 : w.cell? ⟨rb, 0, none⟩ = some (.slice a len cap)
  c1 : w.cell? ⟨rb, 1, none⟩ = some (.map (some m1))
  c2 : w.cell? ⟨rb, 2, none⟩ = some (.map (some m2))
  f1 : w.frozen? ⟨rb, 1, none⟩ = false
  f2 : w.frozen? ⟨rb, 2, none⟩ = false

theorem Route.keeps {w w' : World} {rb : Nat} {a : Option Addr} {len cap m1 m2 : Nat} (h : Route w rb a len cap m1 m2) {S : List Nat} (hk : Keeps S w w') (hn : rb ∉ S) : Route w' rb a len cap m1 m2 := by
  have hb := hk.block rb h.lt hn
  have hc : ∀ o, w'.cell? ⟨rb, o, none⟩ = w.cell? ⟨rb, o, none⟩ := fun o => World.cell?_of_block hb
  have hf : ∀ o, w'.frozen? ⟨rb, o, none⟩ = w.frozen? ⟨rb, o, none⟩ := fun o => World.frozen?_of_block hb
  exact ⟨Nat.lt_of_lt_of_le h.lt hk.size, by rw [hc]; exact h.c0, by rw [hc]; exact h.c1, by rw [hc]; exact h.c2, by rw [hf]; exact h.f1, by rw [hf]; exact h.f2⟩

theorem new_any (a : Option Addr) (len cap m1 m2 : Nat) (w : World) :
    Calls Try.prog 10 #[.slice a len cap, .map (some m1), .map (some m2)] w fun e w' => e = .returned (.pointer (some ⟨w.heap.size, 0, none⟩)) ∧ Route w' w.heap.size a len cap m1 m2 ∧ Below w.heap.size w w' := by
  go_enter Try.func10, Try.ntmps10
  go_wp2
  go_ret
  refine ⟨rfl, ⟨by simp, ?_, ?_, ?_, ?_, ?_⟩, (Below.refl _ _).alloc (Nat.le_refl _) _⟩
  · rw [World.cell?_alloc_new]; rfl
  · rw [World.cell?_alloc_new]; rfl
  · rw [World.cell?_alloc_new]; rfl
  · exact World.frozen?_alloc_new _ _ _ _
  · exact World.frozen?_alloc_new _ _ _ _

theorem tried_any (rb : Nat) (a : Option Addr) (len cap m1 m2 : Nat) (w : World) (h : Route w rb a len cap m1 m2) :
    Calls Try.prog 12 #[.pointer (some ⟨rb, 0, none⟩)] w fun e w' => e = .returned (.map (some m1)) ∧ w' = w := by
  have c1 := h.c1
  go_enter Try.func12, Try.ntmps12
  go_wp2
  go_ret
  exact ⟨rfl, rfl⟩

theorem timed_any (rb : Nat) (a : Option Addr) (len cap m1 m2 : Nat) (w : World) (h : Route w rb a len cap m1 m2) :
    Calls Try.prog 13 #[.pointer (some ⟨rb, 0, none⟩)] w fun e w' => e = .returned (.map (some m2)) ∧ w' = w := by
  have c2 := h.c2
  go_enter Try.func13, Try.ntmps13
  go_wp2
  go_ret
  exact ⟨rfl, rfl⟩

/-- v is the first of z 0, .., z (n - 1) of which p holds; 0 if there is none. -/
def First (p : Int → Bool) (z : Nat → Int) (n : Nat) (v : Int) : Prop :=
  (v = 0 ∧ ∀ j, j < n → p (z j) = false) ∨ ∃ j, j < n ∧ v = z j ∧ p (z j) = true ∧ ∀ i, i < j → p (z i) = false
/-- A uint64 v comes back of which R v holds. -/
def Gives (R : Int → Prop) (e : Ending) : Prop := ∃ v, e = .returned (.int .u64 v) ∧ R v
/-- What 'again' leaves of the timed out: nothing where they are as many as the nodes. -/
def cleared (L : List Int) (len : Nat) : List Int := if L.length = len then [] else L
/-- not in L -/
def notIn (L : List Int) (x : Int) : Bool := !inS L x

set_option maxHeartbeats 400000 in
theorem untried_any (rb : Nat) (a : Option Addr) (len cap m1 m2 N : Nat) (z : Nat → Int) (L : List Int) (w : World) (h : Route w rb a len cap m1 m2) (hr : Row w a len cap z) (hs : SetN w m1 N L) (hm : len ≤ 1048576) :
    Calls Try.prog 17 #[.pointer (some ⟨rb, 0, none⟩)] w fun e w' => Gives (First (notIn L) z len) e ∧ w' = w := by
  have c0 := h.c0
  have c1 := h.c1
  go_enter Try.func17, Try.ntmps17
  go_wp2
  go_loop [10] (fun i => ∃ k : Nat, k ≤ len ∧ i = .int .i64 k ∧ ∀ j, j < k → notIn L (z j) = false) (fun i => len - (intOf i).toNat)
  case atStart => exact ⟨0, Nat.zero_le _, rfl, fun j hj => by omega⟩
  case round =>
    obtain ⟨k, hk, rfl, hall⟩ := hrel
    by_cases hlt : k < len
    · obtain ⟨i1, d1⟩ := hr.at hlt
      have hl := hs.look (hr.wf k hlt)
      go_wp2
      · have hh : (!inS L (z k)) = true := by assumption
        go_ret
        exact ⟨⟨_, rfl, Or.inr ⟨k, hlt, rfl, hh, hall⟩⟩, rfl⟩
      · have hh : (!inS L (z k)) = false := by assumption
        go_round
        case rel =>
          refine ⟨k + 1, by omega, by go_num, fun j hj => ?_⟩
          by_cases e : j = k
          · subst e; exact hh
          · exact hall j (by omega)
        case measure => simp [intOf]; omega
    · have e : k = len := by omega
      subst e
      go_wp2
      go_ret
      exact ⟨⟨_, rfl, Or.inl ⟨rfl, hall⟩⟩, rfl⟩

theorem zzuntried_any (rb : Nat) (a : Option Addr) (len cap m1 m2 N : Nat) (z : Nat → Int) (L : List Int) (w : World) (h : Route w rb a len cap m1 m2) (hr : Row w a len cap z) (hs : SetN w m1 N L) (hm : len ≤ 1048576) :
    Calls Try.prog 15 #[.pointer (some ⟨rb, 0, none⟩)] w fun e w' => Gives (First (notIn L) z len) e ∧ w' = w := by
  go_enter Try.func15, Try.ntmps15
  go_wp2_with (go_at_call 17; refine (untried_any rb a len cap m1 m2 N z L _ h hr hs hm).mono ?_; rintro e w' ⟨⟨v, rfl, hv⟩, rfl⟩)
  go_ret
  exact ⟨⟨_, rfl, hv⟩, rfl⟩

set_option maxHeartbeats 400000 in
theorem again_any (rb : Nat) (a : Option Addr) (len cap m1 m2 N : Nat) (z : Nat → Int) (L : List Int) (w : World) (h : Route w rb a len cap m1 m2) (hr : Row w a len cap z) (hs : SetN w m2 N L) (hm : len ≤ 1048576) (hne : 0 < len → (base a).block ≠ rb) :
    Calls Try.prog 16 #[.pointer (some ⟨rb, 0, none⟩)] w fun e w' => Gives (First (notIn (cleared L len)) z len) e ∧ Route w' rb a len cap m2 w.heap.size ∧ SetN w' m2 N (cleared L len) ∧ SetN w' w.heap.size 0 [] ∧ Keeps [rb, m2] w w' := by
  have c0 := h.c0
  have c1 := h.c1
  have c2 := h.c2
  have f1 := h.f1
  have f2 := h.f2
  have lt := h.lt
  have hmm := @run_makeMap Try.prog
  have hrm : rb ≠ m2 := fun e => by
    obtain ⟨D, ⟨es, clock, hb, _⟩, _⟩ := hs
    subst e
    simp [World.cell?, hb] at c0
  have hbm : 0 < len → (base a).block ≠ m2 := fun hl e => by
    obtain ⟨D, ⟨es, clock, hb, _⟩, _⟩ := hs
    have := hr.cell 0 hl
    unfold place at this
    rw [e] at this
    simp [World.cell?, hb] at this
  have hmlt := hs.lt
  have hk1 : Keeps [rb] w (((w.setCell ⟨rb, 1, none⟩ (.map (some m2))).setCell ⟨rb, 2, none⟩ (.map (some w.heap.size))).alloc (.map #[] 0)) :=
    ((Keeps.setCell w ⟨rb, 1, none⟩ _).trans (Keeps.setCell _ ⟨rb, 2, none⟩ _)).trans (Keeps.alloc _ _ _)
  have hs1 := hs.keeps hk1 (by simpa using hrm.symm)
  have hr1 := hr.keeps hk1 (by simpa using hne)
  have hn1 : SetN (((w.setCell ⟨rb, 1, none⟩ (.map (some m2))).setCell ⟨rb, 2, none⟩ (.map (some w.heap.size))).alloc (.map #[] 0)) w.heap.size 0 [] := by
    have := SetN.made ((w.setCell ⟨rb, 1, none⟩ (.map (some m2))).setCell ⟨rb, 2, none⟩ (.map (some w.heap.size))) 0
    simpa [World.size_setCell] using this
  have hro : Route (((w.setCell ⟨rb, 1, none⟩ (.map (some m2))).setCell ⟨rb, 2, none⟩ (.map (some w.heap.size))).alloc (.map #[] 0)) rb a len cap m2 w.heap.size := by
    have hlt2 : rb < ((w.setCell ⟨rb, 1, none⟩ (.map (some m2))).setCell ⟨rb, 2, none⟩ (.map (some w.heap.size))).heap.size := by simpa [World.size_setCell] using lt
    have x2 : (w.setCell ⟨rb, 1, none⟩ (.map (some m2))).cell? ⟨rb, 2, none⟩ = some (.map (some m2)) := by rw [World.cell?_setCell_other _ _ _ _ (by simp)]; exact c2
    refine ⟨Nat.lt_of_lt_of_le lt hk1.size, ?_, ?_, ?_, ?_, ?_⟩
    · rw [World.cell?_alloc_lt _ _ _ (by exact hlt2), World.cell?_setCell_other _ _ _ _ (by simp), World.cell?_setCell_other _ _ _ _ (by simp)]; exact c0
    · rw [World.cell?_alloc_lt _ _ _ (by exact hlt2), World.cell?_setCell_other _ _ _ _ (by simp)]; exact World.cell?_setCell_same _ _ _ c1
    · rw [World.cell?_alloc_lt _ _ _ (by exact hlt2)]; exact World.cell?_setCell_same _ _ _ x2
    · rw [World.frozen?_alloc_past _ _ _ hlt2, World.frozen?_setCell, World.frozen?_setCell]; exact f1
    · rw [World.frozen?_alloc_past _ _ _ hlt2, World.frozen?_setCell, World.frozen?_setCell]; exact f2
  go_enter Try.func16, Try.ntmps16
  go_wp2
  generalize ((w.setCell ⟨rb, 1, none⟩ (.map (some m2))).setCell ⟨rb, 2, none⟩ (.map (some w.heap.size))).alloc (.map #[] 0) = W1 at *
  clear hmm c0 c1 c2 f1 f2 h hr hs
  have c0 := hro.c0
  have c1 := hro.c1
  have hlen : ∀ n ty, (Builtin.len_ #[28] ty #[.map (some m2)]).run Try.prog (W1.drewN n) = .ok (.int .i64 L.length) (W1.drewN n) := fun n ty => SetN.len (w := W1.drewN n) hs1 ty
  have hlen0 : ∀ ty, (Builtin.len_ #[28] ty #[.map (some m2)]).run Try.prog W1 = .ok (.int .i64 L.length) W1 := fun ty => hs1.len ty
  by_cases hL : L.length = len
  · have hb : ((L.length : Int) == (len : Int)) = true := by simp [hL]
    have HL : Hid (cleared L len = []) := if_pos hL
    clear hL
    go_quiet (fail)
    have hs2 : SetN (W1.drewN nq) m2 N L := hs1
    obtain ⟨w1, hcl, hs3, hk3⟩ := hs2.clear
    have hk4 : Keeps [m2] W1 w1 := ((Keeps.refl [m2] W1).drewN nq).trans hk3
    have hro3 := hro.keeps hk4 (by simpa using hrm)
    have hr3 := hr1.keeps hk4 (by simpa using hbm)
    have hn3 := hn1.keeps hk4 (by simp; omega)
    have hk5 : Keeps [rb, m2] w w1 := (hk1.mono (by simp)).trans (hk4.mono (by simp))
    go_wp2_with (go_at_call 17; refine (untried_any rb a len cap m2 w.heap.size N z [] _ hro3 hr3 hs3 hm).mono ?_; rintro e w' ⟨⟨v, rfl, hv⟩, rfl⟩)
    go_ret
    exact ⟨⟨_, rfl, by rw [HL.out]; exact hv⟩, hro3, by rw [HL.out]; exact hs3, hn3, hk5⟩
  · have hb : ((L.length : Int) == (len : Int)) = false := by simp; omega
    have HL : Hid (cleared L len = L) := if_neg hL
    clear hL
    go_quiet (fail)
    have hro3 : Route (W1.drewN nq) rb a len cap m2 w.heap.size := hro.keeps ((Keeps.refl [] W1).drewN nq) (by simp)
    have hr3 := hr1.keeps ((Keeps.refl [] W1).drewN nq) (by simp)
    have hs3 : SetN (W1.drewN nq) m2 N L := hs1
    have hn3 : SetN (W1.drewN nq) w.heap.size 0 [] := hn1
    have hk5 : Keeps [rb, m2] w (W1.drewN nq) := (hk1.mono (by simp)).drewN nq
    go_wp2_with (go_at_call 17; refine (untried_any rb a len cap m2 w.heap.size N z L _ hro3 hr3 hs3 hm).mono ?_; rintro e w' ⟨⟨v, rfl, hv⟩, rfl⟩)
    go_ret
    exact ⟨⟨_, rfl, by rw [HL.out]; exact hv⟩, hro3, by rw [HL.out]; exact hs3, hn3, hk5⟩

theorem zzagain_any (rb : Nat) (a : Option Addr) (len cap m1 m2 N : Nat) (z : Nat → Int) (L : List Int) (w : World) (h : Route w rb a len cap m1 m2) (hr : Row w a len cap z) (hs : SetN w m2 N L) (hm : len ≤ 1048576) (hne : 0 < len → (base a).block ≠ rb) :
    Calls Try.prog 11 #[.pointer (some ⟨rb, 0, none⟩)] w fun e w' => Gives (First (notIn (cleared L len)) z len) e ∧ Route w' rb a len cap m2 w.heap.size ∧ SetN w' m2 N (cleared L len) ∧ SetN w' w.heap.size 0 [] ∧ Keeps [rb, m2] w w' := by
  go_enter Try.func11, Try.ntmps11
  go_wp2_with (go_at_call 16; refine (again_any rb a len cap m1 m2 N z L _ h hr hs hm hne).mono ?_; rintro e w' ⟨⟨v, rfl, hv⟩, h1, h2, h3, h4⟩)
  go_ret
  exact ⟨⟨_, rfl, hv⟩, h1, h2, h3, h4⟩
end Go.Proofs.Qxb6625645a
