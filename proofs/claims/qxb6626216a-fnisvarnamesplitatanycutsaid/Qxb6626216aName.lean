/-
  OUR OWN WORK. Seat b6626216a: THE CONTRACTS of zzManB1NameByte (9), IsVarName (6), zzManB1TailOK (7), zzBytes (5, 8).
-/
import Derived.Test.Qxb6626216aByte
namespace Go.Proofs.Qxb6626216a
open Go.RowKit

theorem nb_true {c : Int} (lead : Bool) (h : letter c = true ∨ c = 95) : vb c lead = true := by
  simp only [letter, decide_eq_true_eq] at h
  simp only [vb, decide_eq_true_eq]
  omega
theorem nb_lead {c : Int} (h : letter c = false) (h' : c ≠ 95) : vb c true = false := by
  simp only [letter, decide_eq_false_iff_not] at h
  simp only [vb, decide_eq_false_iff_not, reduceCtorEq, false_and, or_false]
  omega
theorem nb_tail {c : Int} (h : letter c = false) (h' : c ≠ 95) : vb c false = digit c := by
  simp only [letter, decide_eq_false_iff_not] at h
  simp only [vb, digit, true_and]
  apply decide_eq_decide.mpr
  omega

set_option maxHeartbeats 1000000 in
theorem nameByte_any (c : Int) (lead : Bool) (w : World) (h0 : 0 ≤ c) (h1 : c < 256) : Calls Try.prog 9 #[.int .u8 c, .bool lead] w fun e w' => e = .returned (.bool (vb c lead)) ∧ w' = w := by
  by_cases e : c = 95
  · subst e
    go_enter Try.func9, Try.ntmps9
    go_wp2
    go_ret
    exact ⟨ret_bool (nb_true lead (.inr rfl)).symm, rfl⟩
  have e' : (c == 95) = false := by simpa using e
  cases hl : letter c
  · cases lead
    · go_enter Try.func9, Try.ntmps9
      go_wp2_with (first | (go_at_call 11; refine (letter_any c _ h0 h1).mono fun q w' hq => ?_; obtain ⟨rfl, hw⟩ := hq; subst w'; rw [hl]) | (go_at_call 12; refine (digit_any c _ h0 h1).mono fun q w' hq => ?_; obtain ⟨rfl, hw⟩ := hq; subst w'))
      go_ret
      exact ⟨ret_bool (nb_tail hl e).symm, rfl⟩
    · go_enter Try.func9, Try.ntmps9
      go_wp2_with (go_at_call 11; refine (letter_any c _ h0 h1).mono fun q w' hq => ?_; obtain ⟨rfl, hw⟩ := hq; subst w'; rw [hl])
      go_ret
      exact ⟨ret_bool (nb_lead hl e).symm, rfl⟩
  · go_enter Try.func9, Try.ntmps9
    go_wp2_with (go_at_call 11; refine (letter_any c _ h0 h1).mono fun q w' hq => ?_; obtain ⟨rfl, hw⟩ := hq; subst w'; rw [hl])
    go_ret
    exact ⟨ret_bool (nb_true lead (.inl hl)).symm, rfl⟩

/-- The i-th byte of the bytes l. -/
def byt (l : List UInt8) (i : Nat) : Int := ((l.getD i 0).toNat : Int)
/-- May all of l stand behind a name's head? -/
def tailOK (l : List UInt8) : Bool := l.all fun b => vb (b.toNat : Int) false
/-- Is l a name? -/
def isName : List UInt8 → Bool
  | [] => false
  | b :: t => vb (b.toNat : Int) true && tailOK t

theorem byt_lo (l : List UInt8) (i : Nat) : 0 ≤ byt l i := by unfold byt; omega
theorem byt_hi (l : List UInt8) (i : Nat) : byt l i < 256 := by
  unfold byt
  have := (l.getD i 0).toNat_lt
  omega
theorem byt_cons (b : UInt8) (l : List UInt8) (i : Nat) : byt (b :: l) (i + 1) = byt l i := rfl

theorem tailOK_true {l : List UInt8} (h : ∀ i, i < l.length → vb (byt l i) false = true) : tailOK l = true := by
  induction l with
  | nil => rfl
  | cons b t ih =>
    have hb : vb (b.toNat : Int) false = true := h 0 (by simp)
    have ht : tailOK t = true := ih fun i hi => h (i + 1) (by simp; omega)
    show (vb (b.toNat : Int) false && tailOK t) = true
    rw [hb, ht]; rfl
theorem tailOK_false {l : List UInt8} {i : Nat} (hi : i < l.length) (h : vb (byt l i) false = false) : tailOK l = false := by
  induction l generalizing i with
  | nil => exact absurd hi (by simp)
  | cons b t ih =>
    show (vb (b.toNat : Int) false && tailOK t) = false
    cases i with
    | zero => rw [show vb (b.toNat : Int) false = false from h]; rfl
    | succ i => rw [ih (i := i) (by simpa using hi) h, Bool.and_false]

theorem isName_true {l : List UInt8} (hn : l ≠ []) (h : ∀ i, i < l.length → vb (byt l i) (decide (i = 0)) = true) : isName l = true := by
  cases l with
  | nil => exact absurd rfl hn
  | cons b t =>
    have hb : vb (b.toNat : Int) true = true := h 0 (by simp)
    have ht : tailOK t = true := tailOK_true fun i hi => h (i + 1) (by simp; omega)
    show (vb (b.toNat : Int) true && tailOK t) = true
    rw [hb, ht]; rfl
theorem isName_false {l : List UInt8} {i : Nat} (hi : i < l.length) (h : vb (byt l i) (decide (i = 0)) = false) : isName l = false := by
  cases l with
  | nil => rfl
  | cons b t =>
    show (vb (b.toNat : Int) true && tailOK t) = false
    cases i with
    | zero => rw [show vb (b.toNat : Int) true = false from h]; rfl
    | succ i => rw [tailOK_false (i := i) (by simpa using hi) h, Bool.and_false]

theorem index_byt {s : ByteArray} {k : Nat} (w : World) (hk : k < s.size) : (Instr.index 9 (.string s) (.int .i64 (k : Int))).run Try.prog w = .ok (.int .u8 (byt s.data.toList k)) w := by
  rw [run_index_string w 9 s .i64 k Try.underlying9, dif_pos ⟨by omega, by omega⟩]
  congr 2
  unfold byt
  have : k < s.data.toList.length := by simpa using hk
  rw [List.getD_eq_getElem?_getD, List.getElem?_eq_getElem this, Option.getD_some, Array.getElem_toList]
  rfl

theorem size_len (s : ByteArray) : s.data.toList.length = s.size := by simp

set_option maxHeartbeats 1000000 in
theorem isVarName_any (s : ByteArray) (w : World) (hs : s.size ≤ maxLen) : Calls Try.prog 6 #[.string s] w fun e w' => e = .returned (.bool (isName s.data.toList)) ∧ w' = w := by
  have hm : maxLen = 9223372036854775807 := rfl
  have hsz := size_len s
  go_enter Try.func6, Try.ntmps6
  go_wp2
  go_loop [3] (fun i => ∃ k : Nat, k ≤ s.size ∧ i = .int .i64 k ∧ ∀ j, j < k → vb (byt s.data.toList j) (decide (j = 0)) = true) (fun i => s.size - (intOf i).toNat)
  case atStart => exact ⟨0, Nat.zero_le _, rfl, fun j hj => by omega⟩
  case round =>
    obtain ⟨k, hk, rfl, hall⟩ := hrel
    by_cases hlt : k < s.size
    · have hix := index_byt w hlt
      have hz : (((k : Nat) : Int) == 0) = decide (k = 0) := by
        apply Bool.eq_iff_iff.mpr; simp
      cases hv : vb (byt s.data.toList k) (decide (k = 0))
      · go_wp2_with (go_at_call 10; refine (isVarByte_any (byt s.data.toList k) (decide (k = 0)) _ (byt_lo _ _) (byt_hi _ _)).mono fun q w' hq => ?_; obtain ⟨rfl, hw⟩ := hq; subst w'; rw [hv])
        go_ret
        exact ⟨ret_bool (isName_false (by omega) hv).symm, rfl⟩
      · go_wp2_with (go_at_call 10; refine (isVarByte_any (byt s.data.toList k) (decide (k = 0)) _ (byt_lo _ _) (byt_hi _ _)).mono fun q w' hq => ?_; obtain ⟨rfl, hw⟩ := hq; subst w'; rw [hv])
        go_round
        case rel =>
          refine ⟨k + 1, by omega, by go_num, fun j hj => ?_⟩
          by_cases e : j = k
          · subst e; exact hv
          · exact hall j (by omega)
        case measure => simp [intOf]; omega
    · have e : k = s.size := by omega
      subst e
      by_cases hn : s.data.toList = []
      · have he : s.toList.isEmpty = true := by rw [ByteArray.toList_eq, hn]; rfl
        go_wp2
        go_ret
        exact ⟨rfl, rfl⟩
      · have he : s.toList.isEmpty = false := by rw [ByteArray.toList_eq]; simpa using hn
        go_wp2
        go_ret
        exact ⟨ret_bool (isName_true hn fun i hi => hall i (by omega)).symm, rfl⟩

set_option maxHeartbeats 1000000 in
theorem tailOK_any (s : ByteArray) (w : World) (hs : s.size ≤ maxLen) : Calls Try.prog 7 #[.string s] w fun e w' => e = .returned (.bool (tailOK s.data.toList)) ∧ w' = w := by
  have hm : maxLen = 9223372036854775807 := rfl
  have hsz := size_len s
  go_enter Try.func7, Try.ntmps7
  go_wp2
  go_loop [3] (fun i => ∃ k : Nat, k ≤ s.size ∧ i = .int .i64 k ∧ ∀ j, j < k → vb (byt s.data.toList j) false = true) (fun i => s.size - (intOf i).toNat)
  case atStart => exact ⟨0, Nat.zero_le _, rfl, fun j hj => by omega⟩
  case round =>
    obtain ⟨k, hk, rfl, hall⟩ := hrel
    by_cases hlt : k < s.size
    · have hix := index_byt w hlt
      cases hv : vb (byt s.data.toList k) false
      · go_wp2_with (go_at_call 9; refine (nameByte_any (byt s.data.toList k) false _ (byt_lo _ _) (byt_hi _ _)).mono fun q w' hq => ?_; obtain ⟨rfl, hw⟩ := hq; subst w'; rw [hv])
        go_ret
        exact ⟨ret_bool (tailOK_false (by omega) hv).symm, rfl⟩
      · go_wp2_with (go_at_call 9; refine (nameByte_any (byt s.data.toList k) false _ (byt_lo _ _) (byt_hi _ _)).mono fun q w' hq => ?_; obtain ⟨rfl, hw⟩ := hq; subst w'; rw [hv])
        go_round
        case rel =>
          refine ⟨k + 1, by omega, by go_num, fun j hj => ?_⟩
          by_cases e : j = k
          · subst e; exact hv
          · exact hall j (by omega)
        case measure => simp [intOf]; omega
    · have e : k = s.size := by omega
      subst e
      go_wp2
      go_ret
      exact ⟨ret_bool (tailOK_true fun i hi => hall i (by omega)).symm, rfl⟩

/-- Some bool comes back. -/
def SomeBool (e : Ending) : Prop := ∃ b, e = .returned (.bool b)

set_option maxHeartbeats 1000000 in
theorem bytes5_any (s t : ByteArray) (w : World) (hs : s.size ≤ maxLen) (ht : t.size ≤ maxLen) : Calls Try.prog 5 #[.string s, .string t] w fun e w' => SomeBool e ∧ w' = w := by
  have hm : maxLen = 9223372036854775807 := rfl
  go_enter Try.func5, Try.ntmps5
  go_wp2
  all_goals go_ret
  all_goals exact ⟨⟨_, rfl⟩, rfl⟩

set_option maxHeartbeats 1000000 in
theorem bytes8_any (s : ByteArray) (k c : Int) (w : World) (hs : s.size ≤ maxLen) : Calls Try.prog 8 #[.string s, .int .i64 k, .int .u8 c] w fun e w' => SomeBool e ∧ w' = w := by
  have hm : maxLen = 9223372036854775807 := rfl
  go_enter Try.func8, Try.ntmps8
  go_wp2
  all_goals go_ret
  all_goals exact ⟨⟨_, rfl⟩, rfl⟩
end Go.Proofs.Qxb6626216a
