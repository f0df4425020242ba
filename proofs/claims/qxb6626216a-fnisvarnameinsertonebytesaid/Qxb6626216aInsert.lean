/-
  OUR OWN WORK. Seat b6626216a: THE PLAIN LAW AND THE WALK of InsertOneByte (4).
-/
import Derived.Test.Qxb6626216aSplit
namespace Go.Proofs.Qxb6626216a
open Go.RowKit
set_option linter.unusedVariables false

theorem nb_is {c : Int} {lead : Bool} {x : Bool} (hx : vb c lead = x) (w : World) (h0 : 0 ≤ c) (h1 : c < 256) : Calls Try.prog 9 #[.int .u8 c, .bool lead] w fun e w' => e = .returned (.bool x) ∧ w' = w := by
  rw [← hx]; exact nameByte_any c lead w h0 h1

theorem grownN (w : World) (cs : Array Value) (t : TypeId) (n : Nat) : Grown w ((w.alloc (.cells cs t)).drewN n) :=
  (Grown.refl w).alloc cs t

set_option maxHeartbeats 1000000 in
theorem insert_walk0 (s one L R lo n us : ByteArray) (c : Int) (w : World) (hs : s.size ≤ maxLen) (bs : s.size ≤ 1048576) (c0 : 0 ≤ c) (c1 : c < 256)
    (hconv : (convert 25 9 (.slice (some ⟨w.heap.size, 0, none⟩) 1 1)).run Try.prog (w.alloc (.cells #[.int .u8 c] 5)) = .ok (.string one) (w.alloc (.cells #[.int .u8 c] 5)))
    (hL : ∀ w : World, (Instr.slice 9 (.string s) none (some (.int .i64 0)) none).run Try.prog w = .ok (.string L) w)
    (hR : ∀ w : World, (Instr.slice 9 (.string s) (some (.int .i64 0)) none none).run Try.prog w = .ok (.string R) w)
    (ha1 : ∀ w : World, (Op.stringOp .add L one).run Try.prog w = .ok (.string lo) w)
    (ha2 : ∀ w : World, (Op.stringOp .add lo R).run Try.prog w = .ok (.string n) w)
    (ha3 : ∀ w : World, (Op.stringOp .add ⟨#[95]⟩ s).run Try.prog w = .ok (.string us) w)
    (s1 : one.size ≤ maxLen) (s2 : n.size ≤ maxLen) (s3 : us.size ≤ maxLen)
    (xN xO xS xU xF : Bool) (hN : isName n.data.toList = xN) (hO : isName one.data.toList = xO) (hS : isName s.data.toList = xS) (hU : isName us.data.toList = xU) (hF : vb c false = xF) (hT : vb c true = xO)
    (z : Bool) (he : s.toList.isEmpty = z)
    (h1 : z = true → xN = xO) (h2 : z = false → xN = (xO && xU)) :
    Calls Try.prog 4 #[.string s, .int .i64 0, .int .u8 c] w fun e w' => e = .returned (.bool true) ∧ Grown w w' := by
  have hm : maxLen = 9223372036854775807 := rfl
  cases z
  · obtain rfl := h2 rfl
    clear h1 h2
    go_enter Try.func4, Try.ntmps4
    go_wp2_with (go_at_call 8; refine (bytes8_any s 0 c _ hs).mono fun q w' hq => ?_; obtain ⟨⟨y, rfl⟩, hw⟩ := hq; subst w'; cases y)
    · go_ret; exact ⟨rfl, Grown.refl _⟩
    go_quiet ((go_at_call 6; refine Calls.quiet_of_same (name_is hN _ s2)))
    go_wp2_with (first | (go_at_call 9; (first | with_reducible refine (nb_is hF _ c0 c1).mono fun q w' hq => ?_ | with_reducible refine (nb_is hT _ c0 c1).mono fun q w' hq => ?_); obtain ⟨rfl, hw⟩ := hq; subst w') | (go_at_call 6; (first | with_reducible refine (name_is hO _ s1).mono fun q w' hq => ?_ | with_reducible refine (name_is hU _ s3).mono fun q w' hq => ?_ | with_reducible refine (name_is hS _ hs).mono fun q w' hq => ?_); obtain ⟨rfl, hw⟩ := hq; subst w'))
    all_goals go_ret
    all_goals exact ⟨ret_bool (by simp), grownN w _ _ _⟩
  · obtain rfl := h1 rfl
    clear h1 h2
    go_enter Try.func4, Try.ntmps4
    go_wp2_with (go_at_call 8; refine (bytes8_any s 0 c _ hs).mono fun q w' hq => ?_; obtain ⟨⟨y, rfl⟩, hw⟩ := hq; subst w'; cases y)
    · go_ret; exact ⟨rfl, Grown.refl _⟩
    go_quiet ((go_at_call 6; refine Calls.quiet_of_same (name_is hN _ s2)))
    go_wp2_with (first | (go_at_call 9; (first | with_reducible refine (nb_is hF _ c0 c1).mono fun q w' hq => ?_ | with_reducible refine (nb_is hT _ c0 c1).mono fun q w' hq => ?_); obtain ⟨rfl, hw⟩ := hq; subst w') | (go_at_call 6; (first | with_reducible refine (name_is hO _ s1).mono fun q w' hq => ?_ | with_reducible refine (name_is hU _ s3).mono fun q w' hq => ?_ | with_reducible refine (name_is hS _ hs).mono fun q w' hq => ?_); obtain ⟨rfl, hw⟩ := hq; subst w'))
    all_goals go_ret
    all_goals exact ⟨ret_bool (by simp), grownN w _ _ _⟩

set_option maxHeartbeats 1000000 in
theorem insert_walk (s one lo n us : ByteArray) (k c : Int) (w : World) (hs : s.size ≤ maxLen) (bs : s.size ≤ 1048576) (k0 : 0 ≤ k) (k1 : k ≤ s.size) (c0 : 0 ≤ c) (c1 : c < 256)
    (hconv : (convert 25 9 (.slice (some ⟨w.heap.size, 0, none⟩) 1 1)).run Try.prog (w.alloc (.cells #[.int .u8 c] 5)) = .ok (.string one) (w.alloc (.cells #[.int .u8 c] 5)))
    (ha1 : ∀ w : World, (Op.stringOp .add (s.extract 0 k.toNat) one).run Try.prog w = .ok (.string lo) w)
    (ha2 : ∀ w : World, (Op.stringOp .add lo (s.extract k.toNat s.size)).run Try.prog w = .ok (.string n) w)
    (ha3 : ∀ w : World, (Op.stringOp .add ⟨#[95]⟩ s).run Try.prog w = .ok (.string us) w)
    (s1 : one.size ≤ maxLen) (s2 : n.size ≤ maxLen) (s3 : us.size ≤ maxLen)
    (xN xO xS xU xF xT : Bool) (hN : isName n.data.toList = xN) (hO : isName one.data.toList = xO) (hS : isName s.data.toList = xS) (hU : isName us.data.toList = xU) (hF : vb c false = xF) (hT : vb c true = xT)
    (hOT : xO = xT) (hk : k ≠ 0) (h3 : xN = (xS && xF)) :
    Calls Try.prog 4 #[.string s, .int .i64 k, .int .u8 c] w fun e w' => e = .returned (.bool true) ∧ Grown w w' := by
  have hm : maxLen = 9223372036854775807 := rfl
  subst hOT
  subst h3
  have hk' : (k == 0) = false := by simpa using hk
  go_enter Try.func4, Try.ntmps4
  go_wp2_with (go_at_call 8; refine (bytes8_any s k c _ hs).mono fun q w' hq => ?_; obtain ⟨⟨y, rfl⟩, hw⟩ := hq; subst w'; cases y)
  · go_ret; exact ⟨rfl, Grown.refl _⟩
  go_quiet ((go_at_call 6; refine Calls.quiet_of_same (name_is hN _ s2)))
  go_wp2_with (first | (go_at_call 9; (first | with_reducible refine (nb_is hF _ c0 c1).mono fun q w' hq => ?_ | with_reducible refine (nb_is hT _ c0 c1).mono fun q w' hq => ?_); obtain ⟨rfl, hw⟩ := hq; subst w') | (go_at_call 6; (first | with_reducible refine (name_is hO _ s1).mono fun q w' hq => ?_ | with_reducible refine (name_is hU _ s3).mono fun q w' hq => ?_ | with_reducible refine (name_is hS _ hs).mono fun q w' hq => ?_); obtain ⟨rfl, hw⟩ := hq; subst w'))
  all_goals go_ret
  all_goals exact ⟨ret_bool (by simp), grownN w _ _ _⟩

theorem one_list {c : Int} : (strOfNums [c]).data.toList = [UInt8.ofNat c.toNat] := by
  simp [strOfNums]
theorem one_byte {c : Int} (c0 : 0 ≤ c) (c1 : c < 256) : (((UInt8.ofNat c.toNat).toNat : Nat) : Int) = c := by
  rw [UInt8.toNat_ofNat']; omega
theorem isName_one {c : Int} (c0 : 0 ≤ c) (c1 : c < 256) (m : List UInt8) : isName (UInt8.ofNat c.toNat :: m) = (vb c true && tailOK m) := by
  show (vb (((UInt8.ofNat c.toNat).toNat : Nat) : Int) true && tailOK m) = _
  rw [one_byte c0 c1]
theorem tailOK_one {c : Int} (c0 : 0 ≤ c) (c1 : c < 256) (m : List UInt8) : tailOK (UInt8.ofNat c.toNat :: m) = (vb c false && tailOK m) := by
  show (vb (((UInt8.ofNat c.toNat).toNat : Nat) : Int) false && tailOK m) = _
  rw [one_byte c0 c1]
theorem ext_list (s : ByteArray) (i j : Nat) : (s.extract i j).data.toList = (s.data.toList.take j).drop i := by
  rw [ByteArray.data_extract, Array.toList_extract, List.extract_eq_take_drop, List.drop_take]
theorem conv_one (w : World) (c : Int) : (convert 25 9 (.slice (some ⟨w.heap.size, 0, none⟩) 1 1)).run Try.prog (w.alloc (.cells #[.int .u8 c] 5)) = .ok (.string (strOfNums [c])) (w.alloc (.cells #[.int .u8 c] 5)) := by
  refine run_convert_bytes_arg _ 25 5 Try.underlying25 Try.underlying5 w.heap.size 0 1 1 [c] rfl (fun i hi => ?_) 9 Try.underlying9
  obtain rfl : i = 0 := by omega
  have hh : (w.alloc (.cells #[.int .u8 c] 5)).heap = w.heap.push (.cells #[.int .u8 c] 5) := rfl
  unfold World.cell?
  rw [hh]
  simp

set_option maxHeartbeats 1000000 in
theorem insert_any (s : ByteArray) (k c : Int) (w : World) (hs : s.size ≤ maxLen) (c0 : 0 ≤ c) (c1 : c < 256) :
    Calls Try.prog 4 #[.string s, .int .i64 k, .int .u8 c] w fun e w' => e = .returned (.bool true) ∧ Grown w w' := by
  have hm : maxLen = 9223372036854775807 := rfl
  by_cases bs : 1048576 < s.size
  · go_enter Try.func4, Try.ntmps4
    go_wp2_with (go_at_call 8; refine (bytes8_any s k c _ hs).mono fun q w' hq => ?_; obtain ⟨⟨y, rfl⟩, hw⟩ := hq; subst w'; cases y)
    all_goals go_ret
    all_goals exact ⟨rfl, Grown.refl _⟩
  by_cases k0 : k < 0
  · go_enter Try.func4, Try.ntmps4
    go_wp2_with (go_at_call 8; refine (bytes8_any s k c _ hs).mono fun q w' hq => ?_; obtain ⟨⟨y, rfl⟩, hw⟩ := hq; subst w'; cases y)
    all_goals go_ret
    all_goals exact ⟨rfl, Grown.refl _⟩
  by_cases k1 : (s.size : Int) < k
  · go_enter Try.func4, Try.ntmps4
    go_wp2_with (go_at_call 8; refine (bytes8_any s k c _ hs).mono fun q w' hq => ?_; obtain ⟨⟨y, rfl⟩, hw⟩ := hq; subst w'; cases y)
    all_goals go_ret
    all_goals exact ⟨rfl, Grown.refl _⟩
  have hsz : (⟨#[95]⟩ : ByteArray).size = 1 := rfl
  have h1sz : (strOfNums [c]).size = 1 := by rw [← size_len, one_list]; rfl
  have hlen := size_len s
  have e1 : (s.extract 0 k.toNat).size ≤ s.size := by rw [ByteArray.size_extract]; omega
  have e2 : (s.extract k.toNat s.size).size ≤ s.size := by rw [ByteArray.size_extract]; omega
  have e3 : (s.extract 0 k.toNat ++ strOfNums [c]).size ≤ s.size + 1 := by rw [ByteArray.size_append]; omega
  have e4 : (s.extract 0 k.toNat ++ strOfNums [c] ++ s.extract k.toNat s.size).size ≤ maxLen := by rw [ByteArray.size_append]; omega
  have e5 : ((⟨#[95]⟩ : ByteArray) ++ s).size ≤ maxLen := by rw [ByteArray.size_append]; omega
  have hU : isName ((⟨#[95]⟩ : ByteArray) ++ s).data.toList = tailOK s.data.toList := by rw [under_append, isName_under]
  have hO : isName (strOfNums [c]).data.toList = vb c true := by rw [one_list, isName_one c0 c1]; exact Bool.and_true _
  have hL : (s.extract 0 k.toNat).data.toList = s.data.toList.take k.toNat := by rw [ext_list]; rfl
  have hR : (s.extract k.toNat s.size).data.toList = s.data.toList.drop k.toNat := by rw [ext_list, ← hlen, List.take_length]
  have hN : (s.extract 0 k.toNat ++ strOfNums [c] ++ s.extract k.toNat s.size).data.toList = s.data.toList.take k.toNat ++ UInt8.ofNat c.toNat :: s.data.toList.drop k.toNat := by
    rw [data_append, data_append, hL, hR, one_list, List.append_assoc]; rfl
  by_cases hk : k = 0
  · subst hk
    refine insert_walk0 s (strOfNums [c]) (s.extract 0 (0 : Int).toNat) (s.extract (0 : Int).toNat s.size) _ _ _ c w hs (by omega) c0 c1 (conv_one w c)
      (fun w => run_slice_string_h w 9 s Try.underlying9 .i64 0 (by omega) (by omega)) (fun w => run_slice_string_l w 9 s Try.underlying9 .i64 0 (by omega) (by omega))
      (fun w => run_string_add_sum w _ _ (by omega)) (fun w => run_string_add_sum w _ _ (by omega)) (fun w => run_string_add_sum w _ _ (by omega))
      (by omega) e4 e5 _ _ _ _ _ rfl hO rfl hU rfl rfl _ rfl ?_ ?_
    · intro hz
      have hz' : s.data.toList = [] := by rw [ByteArray.toList_eq] at hz; simpa using hz
      rw [hN, hz']
      show isName (UInt8.ofNat c.toNat :: []) = _
      rw [isName_one c0 c1]; exact Bool.and_true _
    · intro _
      rw [hN]
      show isName (UInt8.ofNat c.toNat :: s.data.toList) = _
      rw [isName_one c0 c1]
  · refine insert_walk s (strOfNums [c]) _ _ _ k c w hs (by omega) (by omega) (by omega) c0 c1 (conv_one w c)
      (fun w => run_string_add_sum w _ _ (by omega)) (fun w => run_string_add_sum w _ _ (by omega)) (fun w => run_string_add_sum w _ _ (by omega))
      (by omega) e4 e5 _ _ _ _ _ _ rfl hO rfl hU rfl rfl rfl hk ?_
    have hne : s.data.toList.take k.toNat ≠ [] := by
      intro h
      have h' := congrArg List.length h
      rw [List.length_take, hlen, List.length_nil] at h'
      omega
    have hS : isName s.data.toList = (isName (s.data.toList.take k.toNat) && tailOK (s.data.toList.drop k.toNat)) := by
      rw [← isName_append hne, List.take_append_drop]
    rw [hN, isName_append hne, tailOK_one c0 c1, hS]
    cases isName (s.data.toList.take k.toNat) <;> cases tailOK (s.data.toList.drop k.toNat) <;> cases vb c false <;> rfl
end Go.Proofs.Qxb6626216a
