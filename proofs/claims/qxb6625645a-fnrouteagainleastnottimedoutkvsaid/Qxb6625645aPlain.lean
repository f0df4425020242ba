/-
  OUR OWN WORK. Seat b6625645a: THE PLAIN MATHEMATICS: no Go in sight.
-/
import Derived.Test.Qxb6625645aRoute
import Derived.OpenShut
namespace Go.Proofs.Qxb6625645a

/-- How many of z 0, .., z (k - 1) lie in L. -/
def cnt (L : List Int) (z : Nat → Int) : Nat → Nat
  | 0 => 0
  | k + 1 => cnt L z k + if inS L (z k) = true then 1 else 0
theorem cnt_le (L : List Int) (z : Nat → Int) : ∀ k, cnt L z k ≤ k
  | 0 => Nat.le_refl _
  | k + 1 => by have := cnt_le L z k; unfold cnt; split <;> omega

/-- The numbers z 0, .., z (k - 1) that lie in L, one by one. -/
def hits (L : List Int) (z : Nat → Int) : Nat → List Int
  | 0 => []
  | k + 1 => hits L z k ++ if inS L (z k) = true then [z k] else []
theorem length_hits (L : List Int) (z : Nat → Int) : ∀ k, (hits L z k).length = cnt L z k
  | 0 => rfl
  | k + 1 => by
    unfold hits cnt
    rw [List.length_append, length_hits L z k]
    split <;> rfl
theorem mem_hits {L : List Int} {z : Nat → Int} {x : Int} : ∀ {k : Nat}, x ∈ hits L z k ↔ x ∈ L ∧ ∃ j, j < k ∧ z j = x
  | 0 => by simp [hits]
  | k + 1 => by
    rw [hits, List.mem_append, mem_hits]
    constructor
    · rintro (⟨h1, j, hj, e⟩ | h)
      · exact ⟨h1, j, by omega, e⟩
      · split at h
        · rename_i hk
          simp at h
          subst h
          exact ⟨inS_iff.1 hk, k, by omega, rfl⟩
        · simp at h
    · rintro ⟨h1, j, hj, e⟩
      by_cases hjk : j = k
      · subst hjk
        right
        rw [e, if_pos (inS_iff.2 h1)]
        simp
      · exact Or.inl ⟨h1, j, by omega, e⟩
theorem nodup_hits {L : List Int} {z : Nat → Int} {n : Nat} (h : Asc z n) : ∀ k, k ≤ n → (hits L z k).Nodup
  | 0, _ => by simp [hits]
  | k + 1, hk => by
    rw [hits, List.nodup_append]
    refine ⟨nodup_hits h k (by omega), by split <;> simp, ?_⟩
    intro a ha b hb e
    obtain ⟨_, j, hj, e1⟩ := mem_hits.1 ha
    split at hb
    · simp at hb
      have := h.lt hj (by omega : k < n)
      omega
    · simp at hb

/-- A list without repeats that lies in another is no longer. -/
theorem length_le_of_sub : ∀ (l m : List Int), l.Nodup → (∀ x, x ∈ l → x ∈ m) → l.length ≤ m.length
  | [], _, _, _ => Nat.zero_le _
  | x :: r, m, hn, hs => by
    obtain ⟨h1, h2⟩ := List.nodup_cons.1 hn
    have hx := hs x (by simp)
    have := length_le_of_sub r (m.erase x) h2 (fun y hy => (List.mem_erase_of_ne (fun e => h1 (by rw [← e]; exact hy))).2 (hs y (by simp [hy])))
    have e := List.length_erase_of_mem hx
    have hp : 0 < m.length := List.length_pos_of_mem hx
    simp
    omega

/-- THE COUNT: the nodes that timed out are as many as the entries of the set. -/
theorem cnt_eq {z zt : Nat → Int} {n nt : Nat} (h : Asc z n) (hin : ∀ j, j < nt → ∃ i, i < n ∧ z i = zt j) : cnt (keys zt nt) z n = (keys zt nt).length := by
  rw [← length_hits]
  refine Nat.le_antisymm (length_le_of_sub _ _ (nodup_hits h n (Nat.le_refl _)) (fun x hx => (mem_hits.1 hx).1)) (length_le_of_sub _ _ (nodup_keys _ _) (fun x hx => mem_hits.2 ⟨hx, ?_⟩))
  obtain ⟨j, hj, e⟩ := mem_keys.1 hx
  obtain ⟨i, hi, e2⟩ := hin j hj
  exact ⟨i, hi, e2.trans e⟩

theorem First.unique {p : Int → Bool} {z : Nat → Int} {n : Nat} {v v' : Int} (h : First p z n v) (h' : First p z n v') : v = v' := by
  rcases h with ⟨e, h⟩ | ⟨j, hj, e, hp, hb⟩ <;> rcases h' with ⟨e', h'⟩ | ⟨j', hj', e', hp', hb'⟩
  · rw [e, e']
  · rw [h j' hj'] at hp'; cases hp'
  · rw [h' j hj] at hp; cases hp
  · rcases Nat.lt_trichotomy j j' with hl | hl | hl
    · rw [hb' j hl] at hp; cases hp
    · subst hl; rw [e, e']
    · rw [hb j' hl] at hp'; cases hp'

theorem First.congr {p q : Int → Bool} {z : Nat → Int} {n : Nat} {v : Int} (h : First p z n v) (hpq : ∀ x, p x = q x) : First q z n v := by
  rcases h with ⟨e, h⟩ | ⟨j, hj, e, hp, hb⟩
  · exact Or.inl ⟨e, fun j hj => by rw [← hpq]; exact h j hj⟩
  · exact Or.inr ⟨j, hj, e, by rw [← hpq]; exact hp, fun i hi => by rw [← hpq]; exact hb i hi⟩

/-- How a loop comes to 'First': found or not. -/
def Sought (p : Int → Bool) (z : Nat → Int) (k : Nat) (f : Bool) (v : Int) : Prop :=
  (f = false ∧ v = 0 ∧ ∀ j, j < k → p (z j) = false) ∨ (f = true ∧ ∃ j, j < k ∧ v = z j ∧ p (z j) = true ∧ ∀ i, i < j → p (z i) = false)
theorem Sought.start (p : Int → Bool) (z : Nat → Int) : Sought p z 0 false 0 := Or.inl ⟨rfl, rfl, fun j hj => by omega⟩
theorem Sought.first {p : Int → Bool} {z : Nat → Int} {k : Nat} {f : Bool} {v : Int} (h : Sought p z k f v) : First p z k v := by
  rcases h with ⟨_, e, h⟩ | ⟨_, h⟩
  · exact Or.inl ⟨e, h⟩
  · exact Or.inr h
theorem Sought.miss {p : Int → Bool} {z : Nat → Int} {k : Nat} {f : Bool} {v : Int} (h : Sought p z k f v) (hp : p (z k) = false) : Sought p z (k + 1) f v := by
  rcases h with ⟨e0, e, h⟩ | ⟨e0, j, hj, r⟩
  · refine Or.inl ⟨e0, e, fun j hj => ?_⟩
    by_cases ej : j = k
    · subst ej; exact hp
    · exact h j (by omega)
  · exact Or.inr ⟨e0, j, by omega, r⟩
theorem Sought.hit {p : Int → Bool} {z : Nat → Int} {k : Nat} {v : Int} (h : Sought p z k false v) (hp : p (z k) = true) : Sought p z (k + 1) true (z k) := by
  rcases h with ⟨e0, e, h⟩ | ⟨e0, j, hj, r⟩
  · exact Or.inr ⟨rfl, k, by omega, rfl, hp, h⟩
  · cases e0
theorem Sought.later {p : Int → Bool} {z : Nat → Int} {k : Nat} {v : Int} (h : Sought p z k true v) : Sought p z (k + 1) true v := by
  rcases h with ⟨e0, e, h⟩ | ⟨e0, j, hj, r⟩
  · cases e0
  · exact Or.inr ⟨e0, j, by omega, r⟩
theorem Sought.lt {p : Int → Bool} {z : Nat → Int} {k n : Nat} {v : Int} (h : Sought p z k true v) (ha : Asc z n) (hk : k < n) : v < z k := by
  rcases h with ⟨e0, e, h⟩ | ⟨e0, j, hj, e, r⟩
  · cases e0
  · rw [e]; exact ha.lt hj hk

theorem inS_cleared {L : List Int} {len : Nat} (x : Int) : inS (cleared L len) x = (!decide (L.length = len) && inS L x) := by
  unfold cleared
  split <;> simp_all [inS]
theorem length_cleared {L : List Int} {len : Nat} : (cleared L len).length = if L.length = len then 0 else L.length := by
  unfold cleared
  split <;> rfl

/-- A row out of what the frame gives. -/
theorem Row.of_cells {w : World} {x : Addr} {len cap : Nat} {zs : List Int} (hl : len ≤ cap) (hz : zs.length = cap) (h : ∀ i, i < zs.length → w.cell? (x.add i) = some (.int .u64 (zs.getD i 0))) (hw : ∀ n ∈ zs, (Lit.int .u64 n).wf = true) : Row w (some x) len cap (fun i => zs.getD i 0) := by
  refine ⟨hl, fun k hk => ?_, fun k hk => ?_, fun k hk => ?_⟩
  · obtain ⟨b, off, rfl, hc⟩ := ints_at h (by omega)
    refine ⟨b, off, rfl, ?_⟩
    have := hc 0 (by omega)
    unfold World.cell? at this
    split at this
    · rename_i hb; exact (Array.getElem?_eq_some_iff.1 hb).1
    · cases this
  · obtain ⟨b, off, rfl, hc⟩ := ints_at h (by omega)
    exact hc k (by omega)
  · have : zs.getD k 0 ∈ zs := by
      rw [List.getD_eq_getElem?_getD, List.getElem?_eq_getElem (by omega)]
      simp
    exact hw _ this
section
open Go.RowKit Go.Maps
theorem length_cleared' {al : Bool} {L : List Int} {len c : Nat} (h : al = decide (L.length = len)) (hc : c = L.length) : ((cleared L len).length : Int) = cond al 0 (c : Int) := by
  rw [length_cleared, h, hc]
  by_cases e : L.length = len <;> simp [e]
theorem inS_cleared' {al : Bool} {L : List Int} {len : Nat} (h : al = decide (L.length = len)) (x : Int) : inS (cleared L len) x = (!al && inS L x) := by
  rw [inS_cleared, h]
theorem hide {p : Prop} (h : p) : Hid p := h
theorem SetN.ne_row {w : World} {m N : Nat} {L : List Int} (hs : SetN w m N L) {a : Option Addr} {len cap : Nat} {z : Nat → Int} (hr : Row w a len cap z) (hl : 0 < len) : (base a).block ≠ m := fun e => by
  obtain ⟨D, ⟨es, clock, hb, _⟩, _⟩ := hs
  have := hr.cell 0 hl
  unfold place at this
  rw [e] at this
  simp [World.cell?, hb] at this
theorem cleared_nil (len : Nat) : cleared [] len = [] := by unfold cleared; split <;> rfl
theorem notIn_cleared {al : Bool} {L : List Int} {len : Nat} (h : al = decide (L.length = len)) (x : Int) : notIn (cleared L len) x = (al || !inS L x) := by
  unfold notIn
  rw [inS_cleared, h]
  cases decide (L.length = len) <;> cases inS L x <;> rfl
end
end Go.Proofs.Qxb6625645a
