/-
  OUR OWN WORK. Seat b6625645a: THE CONTRACTS OF THE LAWS' OWN HELPERS (functions 5, 14, 6, 7, 8, 9).
-/
import Derived.Test.Qxb6625645aSets
import Derived.Deep.QuietTactic
import Derived.BigQuiet
import Derived.WalkSpells
import Derived.Deep.OwnRows
namespace Go.Proofs.Qxb6625645a
open Go.RowKit Go.Maps Go.ChangeMaps

set_option maxHeartbeats 400000 in
theorem bytes5 (a0 a1 a2 : Option Addr) (l0 l1 l2 c0 c1 c2 : Nat) (w : World) (h0 : l0 ≤ maxLen) (h1 : l1 ≤ maxLen) (h2 : l2 ≤ maxLen) :
    Calls Try.prog 5 #[.slice a0 l0 c0, .slice a1 l1 c1, .slice a2 l2 c2] w fun e w' => ∃ b, e = .returned (.bool b) ∧ w' = w := by
  unfold maxLen at h0 h1 h2
  go_enter Try.func5, Try.ntmps5
  go_wp2
  all_goals (go_ret; exact ⟨_, rfl, rfl⟩)

set_option maxHeartbeats 400000 in
theorem bytes14 (a0 a1 a2 : Option Addr) (l0 l1 l2 c0 c1 c2 : Nat) (w : World) (h0 : l0 ≤ maxLen) (h1 : l1 ≤ maxLen) (h2 : l2 ≤ maxLen) :
    Calls Try.prog 14 #[.slice a0 l0 c0, .slice a1 l1 c1, .slice a2 l2 c2] w fun e w' => ∃ b, e = .returned (.bool b) ∧ w' = w := by
  unfold maxLen at h0 h1 h2
  go_enter Try.func14, Try.ntmps14
  go_wp2
  all_goals (go_ret; exact ⟨_, rfl, rfl⟩)

/-- A bool b comes back of which R b holds. (behind a name: the walk must not take it apart) -/
def Says (R : Bool → Prop) (e : Ending) : Prop := ∃ b, e = .returned (.bool b) ∧ R b

/-- strictly ascending -/
def Asc (z : Nat → Int) (len : Nat) : Prop := ∀ i, i + 1 < len → z i < z (i + 1)

theorem Keeps.drewN {S : List Nat} {a w : World} (h : Keeps S a w) (n : Nat) : Keeps S a (w.drewN n) := ⟨h.os, h.tape, h.output, h.size, h.block⟩

set_option maxHeartbeats 400000 in
theorem asc_any (a : Option Addr) (len cap : Nat) (z : Nat → Int) (w : World) (h : Row w a len cap z) (hm : len ≤ 1048576) :
    Calls Try.prog 6 #[.slice a len cap] w fun e w' => Says (fun b => b = true → Asc z len) e ∧ Keeps [] w w' := by
  go_enter Try.func6, Try.ntmps6
  go_wp2
  go_loopw [3] (fun i wr => ∃ k : Nat, 1 ≤ k ∧ (k ≤ len ∨ k = 1) ∧ i = .int .i64 k ∧ (∀ j, j + 1 < k → z j < z (j + 1)) ∧ Keeps [] w wr) (fun i _ => len - (intOf i).toNat)
  case atStart => exact ⟨1, by omega, Or.inr rfl, rfl, fun j hj => by omega, Keeps.refl _ _⟩
  case round =>
    obtain ⟨k, hk1, hk, rfl, hz, hkp⟩ := hrel
    have hr := h.keeps hkp (by simp)
    by_cases hlt : k < len
    · obtain ⟨i1, c1⟩ := hr.at hlt
      obtain ⟨i0, c0⟩ := hr.at (k := k - 1) (by omega)
      have ec : ((k - 1 : Nat) : Int) = (k : Int) - 1 := by omega
      rw [ec] at i0
      clear ec hr
      go_wp2
      go_quiet (fail)
      go_wp2
      · go_ret
        exact ⟨⟨_, rfl, fun h => by cases h⟩, hkp.drewN _⟩
      · have hzz : z (k - 1) < z k := by assumption
        go_roundw
        case rel =>
          refine ⟨k + 1, by omega, Or.inl (by omega), by go_num, fun j hj => ?_, hkp.drewN _⟩
          by_cases e : j + 1 < k
          · exact hz j e
          · have : j = k - 1 := by omega
            subst this
            have e2 : k - 1 + 1 = k := by omega
            rw [e2]
            exact hzz
        case measure => simp [intOf]; omega
    · go_wp2
      go_ret
      exact ⟨⟨_, rfl, fun _ j hj => hz j (by omega)⟩, hkp⟩

theorem Asc.lt {z : Nat → Int} {len : Nat} (h : Asc z len) {i j : Nat} (hij : i < j) (hj : j < len) : z i < z j := by
  induction j with
  | zero => omega
  | succ j ih =>
    by_cases e : i = j
    · subst e; exact h i hj
    · have h1 := ih (by omega) (by omega)
      have h2 := h j hj
      omega

set_option maxHeartbeats 400000 in
theorem has_any (a : Option Addr) (len cap : Nat) (z : Nat → Int) (x : Int) (w : World) (h : Row w a len cap z) (hm : len ≤ 1048576) :
    Calls Try.prog 7 #[.slice a len cap, .int .u64 x] w fun e w' => Says (fun b => b = true → ∃ j, j < len ∧ z j = x) e ∧ w' = w := by
  go_enter Try.func7, Try.ntmps7
  go_wp2
  go_loop [5, 6] (fun lo hi => ∃ l m : Nat, l ≤ m ∧ m ≤ len ∧ lo = .int .i64 l ∧ hi = .int .i64 m) (fun lo hi => (intOf hi - intOf lo).toNat)
  case atStart => exact ⟨0, len, by omega, by omega, rfl, rfl⟩
  case round =>
    obtain ⟨l, m, hlm, hml, rfl, rfl⟩ := hrel
    by_cases hlt : l < m
    · obtain ⟨i1, c1⟩ := h.at (k := l + (m - l) / 2) (by omega)
      have ec : ((l + (m - l) / 2 : Nat) : Int) = (l : Int) + ((m : Int) - (l : Int)) / 2 := by omega
      rw [ec] at i1
      have H := ec
      clear ec
      go_wp2
      all_goals
        go_round
        case rel => first | exact ⟨l + (m - l) / 2 + 1, m, by omega, by omega, by go_num, by go_num⟩ | exact ⟨l, l + (m - l) / 2, by omega, by omega, by go_num, by go_num⟩
        case measure => simp [intOf]; omega
    · have e : m = l := by omega
      subst e
      by_cases hl : m < len
      · obtain ⟨i1, c1⟩ := h.at hl
        go_wp2
        go_ret
        exact ⟨⟨_, rfl, fun hb => ⟨m, hl, by simpa using hb⟩⟩, rfl⟩
      · go_wp2
        go_ret
        exact ⟨⟨_, rfl, fun hb => by cases hb⟩, rfl⟩

theorem Try.info26 : (Try.prog.info? 26).map (fun i => (i.zero, i.size, i.bytes)) = some (some (.int .u64 0), 1, 8) := by kernel_rfl

/-- A slice that came back, of length len, with these elements. -/
def SliceOut (w' : World) (len : Nat) (z : Nat → Int) (B : Nat) (e : Ending) : Prop := ∃ a cap, e = .returned (.slice a len cap) ∧ Row w' a len cap z ∧ (∀ x, a = some x → B ≤ x.block)

/-- Block B is a row of len cells of the call's own, of which the first k hold z 0, .., z (k - 1). -/
structure OwnCells (w : World) (B len : Nat) (z : Nat → Int) (k : Nat) : Prop where
  lt : B < w.heap.size
  any : ∀ j, j < len → ∃ v, w.cell? ⟨B, j, none⟩ = some v
  cell : ∀ j, j < k → w.cell? ⟨B, j, none⟩ = some (.int .u64 (z j))
  frozen : ∀ j, j < len → w.frozen? ⟨B, j, none⟩ = false

theorem OwnCells.made (w : World) (len : Nat) (z : Nat → Int) : OwnCells (w.alloc (.cells (madeCells #[.int .u64 0] len) 26)) w.heap.size len z 0 := by
  refine ⟨by simp, fun j hj => ?_, fun j hj => by omega, fun j _ => ?_⟩
  · have hs : j < (madeCells #[Value.int .u64 0] len).size := by rw [size_madeCells]; exact hj
    refine ⟨(madeCells #[.int .u64 0] len)[j], ?_⟩
    rw [World.cell?_alloc_new]; simp [hs]
  · exact World.frozen?_alloc_new _ _ _ _

theorem OwnCells.set {w : World} {B len k : Nat} {z : Nat → Int} (h : OwnCells w B len z k) (hk : k < len) : OwnCells (w.setCell ⟨B, k, none⟩ (.int .u64 (z k))) B len z (k + 1) := by
  obtain ⟨v, hv⟩ := h.any k hk
  refine ⟨by simp [World.setCell]; exact h.lt, fun j hj => ?_, fun j hj => ?_, fun j hj => ?_⟩
  · by_cases e : j = k
    · subst e; exact ⟨_, World.cell?_setCell_same _ _ _ hv⟩
    · rw [World.cell?_setCell_other _ _ _ _ (fun e2 => e (by cases e2; rfl))]
      exact h.any j hj
  · by_cases e : j = k
    · subst e; exact World.cell?_setCell_same _ _ _ hv
    · rw [World.cell?_setCell_other _ _ _ _ (fun e2 => e (by cases e2; rfl))]
      exact h.cell j (by omega)
  · rw [World.frozen?_setCell]; exact h.frozen j hj

set_option maxHeartbeats 800000 in
theorem clone_any (a : Option Addr) (len cap : Nat) (z : Nat → Int) (w : World) (h : Row w a len cap z) (hm : len ≤ 1048576) :
    Calls Try.prog 8 #[.slice a len cap] w fun e w' => SliceOut w' len z w.heap.size e ∧ Below w.heap.size w w' := by
  have hnil := fun W => Lib.run_eql_slice_nil (P := Try.prog) W 22 26 a len cap 0 0 Try.underlying22
  by_cases hnone : a = none
  · subst hnone
    have e0 : len = 0 := by
      by_cases e : len = 0
      · exact e
      · obtain ⟨b, off, e2, _⟩ := h.lt 0 (by omega)
        cases e2
    subst e0
    go_enter Try.func8, Try.ntmps8
    go_wp2
    go_ret
    exact ⟨⟨none, 0, rfl, ⟨Nat.le_refl _, fun k hk => by omega, fun k hk => by omega, fun k hk => by omega⟩, fun x hx => by cases hx⟩, Below.refl _ _⟩
  · have hs : a.isNone = false := by cases a <;> simp_all
    have hmk := run_make_row' (P := Try.prog) 22 26 (.int .u64 0) 8 Try.underlying22 Try.info26 rfl .i64 .i64 len (by omega) (by omega)
    go_enter Try.func8, Try.ntmps8
    go_wp2
    go_loopw [4] (fun i wr => ∃ k : Nat, k ≤ len ∧ i = .int .i64 k ∧ OwnCells wr w.heap.size len z k ∧ Below w.heap.size w wr) (fun i _ => len - (intOf i).toNat)
    case atStart => exact ⟨0, Nat.zero_le _, rfl, OwnCells.made w len z, (Below.refl _ _).alloc (Nat.le_refl _) _⟩
    case round =>
      obtain ⟨k, hk, rfl, hown, hb⟩ := hrel
      have hr := h.below hb
      by_cases hlt : k < len
      · obtain ⟨i1, c1⟩ := hr.at hlt
        obtain ⟨v0, c0⟩ := hown.any k hlt
        have f0 := hown.frozen k hlt
        go_wp2
        go_roundw
        case rel => exact ⟨k + 1, by omega, by go_num, hown.set hlt, hb.setCell (Nat.le_refl _) _⟩
        case measure => simp [intOf]; omega
      · have e : k = len := by omega
        subst e
        go_wp2
        go_ret
        refine ⟨⟨_, _, rfl, ⟨Nat.le_refl _, fun j hj => ⟨_, _, rfl, hown.lt⟩, fun j hj => ?_, h.wf⟩, fun x hx => by cases hx; exact Nat.le_refl _⟩, hb⟩
        have := hown.cell j hj
        simpa [place, base] using this

set_option maxHeartbeats 800000 in
theorem set_any (a : Option Addr) (len cap : Nat) (z : Nat → Int) (w : World) (h : Row w a len cap z) (hm : len ≤ 1048576) :
    Calls Try.prog 9 #[.slice a len cap] w fun e w' => e = .returned (.map (some w.heap.size)) ∧ SetN w' w.heap.size len (keys z len) ∧ Below w.heap.size w w' := by
  have hmm := run_makeMap_hint
  go_enter Try.func9, Try.ntmps9
  go_wp2
  go_loopw [4] (fun i wr => ∃ k : Nat, k ≤ len ∧ i = .int .i64 k ∧ SetN wr w.heap.size k (keys z k) ∧ Below w.heap.size w wr) (fun i _ => len - (intOf i).toNat)
  case atStart => exact ⟨0, Nat.zero_le _, rfl, SetN.made w 0, (Below.refl _ _).alloc (Nat.le_refl _) _⟩
  case round =>
    obtain ⟨k, hk, rfl, hown, hb⟩ := hrel
    have hr := h.below hb
    by_cases hlt : k < len
    · obtain ⟨i1, c1⟩ := hr.at hlt
      have hwf := hr.wf k hlt
      go_wp2_with (at_mapUpdate; refine wpList_put rfl _ _ _ rfl w.heap.size k (keys z k) (z k) rfl rfl rfl hown (by omega) hwf ?_; intro w1 hown1 hk1)
      go_roundw
      case rel => exact ⟨k + 1, by omega, by go_num, hown1, hb.trans (hk1.below hb.size (fun x hx => by simp at hx; omega))⟩
      case measure => simp [intOf]; omega
    · have e : k = len := by omega
      subst e
      go_wp2
      go_ret
      exact ⟨rfl, hown, hb⟩
end Go.Proofs.Qxb6625645a
