/-
  OUR OWN WORK. Seat b6626216a: THE PLAIN LAW AND THE WALK of SplitAtAnyCut (3).
-/
import Derived.Test.Qxb6626216aName
namespace Go.Proofs.Qxb6626216a
open Go.RowKit

theorem tailOK_append (l m : List UInt8) : tailOK (l ++ m) = (tailOK l && tailOK m) := by
  unfold tailOK; rw [List.all_append]
theorem isName_append {l m : List UInt8} (h : l ≠ []) : isName (l ++ m) = (isName l && tailOK m) := by
  cases l with
  | nil => exact absurd rfl h
  | cons b t =>
    show (vb (b.toNat : Int) true && tailOK (t ++ m)) = (vb (b.toNat : Int) true && tailOK t && tailOK m)
    rw [tailOK_append, Bool.and_assoc]
theorem isName_under (m : List UInt8) : isName (95 :: m) = tailOK m := by
  show (vb 95 true && tailOK m) = tailOK m
  rw [show vb 95 true = true from rfl, Bool.true_and]
theorem data_append (a b : ByteArray) : (a ++ b).data.toList = a.data.toList ++ b.data.toList := by simp
theorem under_append (b : ByteArray) : ((⟨#[95]⟩ : ByteArray) ++ b).data.toList = 95 :: b.data.toList := by rw [data_append]; rfl

theorem name_is {s : ByteArray} {x : Bool} (hx : isName s.data.toList = x) (w : World) (hs : s.size ≤ maxLen) : Calls Try.prog 6 #[.string s] w fun e w' => e = .returned (.bool x) ∧ w' = w := by
  rw [← hx]; exact isVarName_any s w hs
theorem tail_is {s : ByteArray} {x : Bool} (hx : tailOK s.data.toList = x) (w : World) (hs : s.size ≤ maxLen) : Calls Try.prog 7 #[.string s] w fun e w' => e = .returned (.bool x) ∧ w' = w := by
  rw [← hx]; exact tailOK_any s w hs

set_option maxHeartbeats 1000000 in
theorem split_walk (a b ab ub : ByteArray) (w : World) (ha : a.size ≤ maxLen) (hb : b.size ≤ maxLen) (s1 : ab.size ≤ maxLen) (s2 : ub.size ≤ maxLen) (ba : a.size ≤ 524288) (bb : b.size ≤ 524288)
    (hadd : (Op.stringOp .add a b).run Try.prog w = .ok (.string ab) w) (hadd' : (Op.stringOp .add ⟨#[95]⟩ b).run Try.prog w = .ok (.string ub) w) (z : Bool) (he : a.toList.isEmpty = z)
    (xA xB xC xP xT : Bool) (hA : isName a.data.toList = xA) (hB : isName b.data.toList = xB) (hC : isName ab.data.toList = xC) (hP : isName ub.data.toList = xP) (hT : tailOK b.data.toList = xT)
    (hlaw : (z = true ∧ xC = xB ∧ xP = xT) ∨ (z = false ∧ xC = (xA && xP) ∧ xP = xT)) :
    Calls Try.prog 3 #[.string a, .string b] w fun e w' => e = .returned (.bool true) ∧ w' = w := by
  have hm : maxLen = 9223372036854775807 := rfl
  rcases hlaw with ⟨rfl, rfl, rfl⟩ | ⟨rfl, rfl, rfl⟩
  · go_enter Try.func3, Try.ntmps3
    go_wp2_with (first | (go_at_call 5; refine (bytes5_any a b _ ha hb).mono fun q w' hq => ?_; obtain ⟨⟨y, rfl⟩, hw⟩ := hq; subst w'; cases y) | (go_at_call 7; with_reducible refine (tail_is hT _ hb).mono fun q w' hq => ?_; obtain ⟨rfl, hw⟩ := hq; subst w') | (go_at_call 6; first | with_reducible refine (name_is hC _ s1).mono fun q w' hq => ?_ | with_reducible refine (name_is hP _ s2).mono fun q w' hq => ?_ | with_reducible refine (name_is hA _ ha).mono fun q w' hq => ?_ | with_reducible refine (name_is hB _ hb).mono fun q w' hq => ?_); (obtain ⟨rfl, hw⟩ := hq; subst w'))
    all_goals go_ret
    all_goals exact ⟨ret_bool (by simp), rfl⟩
  · go_enter Try.func3, Try.ntmps3
    go_wp2_with (first | (go_at_call 5; refine (bytes5_any a b _ ha hb).mono fun q w' hq => ?_; obtain ⟨⟨y, rfl⟩, hw⟩ := hq; subst w'; cases y) | (go_at_call 7; with_reducible refine (tail_is hT _ hb).mono fun q w' hq => ?_; obtain ⟨rfl, hw⟩ := hq; subst w') | (go_at_call 6; first | with_reducible refine (name_is hC _ s1).mono fun q w' hq => ?_ | with_reducible refine (name_is hP _ s2).mono fun q w' hq => ?_ | with_reducible refine (name_is hA _ ha).mono fun q w' hq => ?_ | with_reducible refine (name_is hB _ hb).mono fun q w' hq => ?_); (obtain ⟨rfl, hw⟩ := hq; subst w'))
    all_goals go_ret
    all_goals exact ⟨ret_bool (by simp), rfl⟩

set_option maxHeartbeats 1000000 in
theorem split_any (a b : ByteArray) (w : World) (ha : a.size ≤ maxLen) (hb : b.size ≤ maxLen) : Calls Try.prog 3 #[.string a, .string b] w fun e w' => e = .returned (.bool true) ∧ w' = w := by
  have hm : maxLen = 9223372036854775807 := rfl
  by_cases ba : 524288 < a.size
  · go_enter Try.func3, Try.ntmps3
    go_wp2_with (go_at_call 5; refine (bytes5_any a b _ ha hb).mono fun q w' hq => ?_; obtain ⟨⟨y, rfl⟩, hw⟩ := hq; subst w'; cases y)
    all_goals go_ret
    all_goals exact ⟨rfl, rfl⟩
  by_cases bb : 524288 < b.size
  · go_enter Try.func3, Try.ntmps3
    go_wp2_with (go_at_call 5; refine (bytes5_any a b _ ha hb).mono fun q w' hq => ?_; obtain ⟨⟨y, rfl⟩, hw⟩ := hq; subst w'; cases y)
    all_goals go_ret
    all_goals exact ⟨rfl, rfl⟩
  have hsz : (⟨#[95]⟩ : ByteArray).size = 1 := rfl
  have s1 : (a ++ b).size ≤ maxLen := by rw [ByteArray.size_append]; omega
  have s2 : ((⟨#[95]⟩ : ByteArray) ++ b).size ≤ maxLen := by rw [ByteArray.size_append]; omega
  have hP : isName ((⟨#[95]⟩ : ByteArray) ++ b).data.toList = tailOK b.data.toList := by rw [under_append, isName_under]
  refine split_walk a b (a ++ b) (⟨#[95]⟩ ++ b) w ha hb s1 s2 (by omega) (by omega) (run_string_add_sum w a b (by omega)) (run_string_add_sum w _ b (by omega)) _ rfl _ _ _ _ _ rfl rfl rfl rfl rfl ?_
  by_cases hn : a.data.toList = []
  · exact .inl ⟨by rw [ByteArray.toList_eq, hn]; rfl, by rw [data_append, hn]; rfl, hP⟩
  · exact .inr ⟨by rw [ByteArray.toList_eq]; simpa using hn, by rw [data_append, isName_append hn, hP], hP⟩
end Go.Proofs.Qxb6626216a
