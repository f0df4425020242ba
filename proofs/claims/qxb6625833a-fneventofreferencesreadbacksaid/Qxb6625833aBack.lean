/-
  OUR OWN WORK. Seat b6625833a: THE CONTRACTS of zzHexVal (17) and zzReadsBack (10).
-/
import Derived.Test.Qxb6625833aLib
namespace Go.Proofs.Qxb6625833a
open Go.RowKit Go.Lib

/-- What the byte of a hexadecimal digit stands for. -/
def hexVal (c : Int) : Int := if 48 ≤ c ∧ c ≤ 57 then c - 48 else if 97 ≤ c ∧ c ≤ 102 then c - 87 else -1

theorem ret_int {k : IntKind} {a b : Int} (h : a = b) : Ending.returned (.int k a) = .returned (.int k b) := by rw [h]

set_option maxHeartbeats 1000000 in
theorem hexVal_any (c : Int) (w : World) (h0 : 0 ≤ c) (h1 : c < 256) : Calls Try.prog 17 #[.int .u8 c] w fun e w' => e = .returned (.int .i64 (hexVal c)) ∧ w' = w := by
  by_cases a1 : 48 ≤ c
  · by_cases a2 : c ≤ 57
    · go_enter Try.func17, Try.ntmps17
      go_wp2
      go_ret
      exact ⟨ret_int (by unfold hexVal; rw [if_pos ⟨a1, a2⟩]), rfl⟩
    · by_cases a3 : 97 ≤ c
      · by_cases a4 : c ≤ 102
        · go_enter Try.func17, Try.ntmps17
          go_wp2
          go_ret
          exact ⟨ret_int (by unfold hexVal; rw [if_neg (by omega), if_pos ⟨a3, a4⟩]; omega), rfl⟩
        · go_enter Try.func17, Try.ntmps17
          go_wp2
          go_ret
          exact ⟨ret_int (by unfold hexVal; rw [if_neg (by omega), if_neg (by omega)]), rfl⟩
      · go_enter Try.func17, Try.ntmps17
        go_wp2
        go_ret
        exact ⟨ret_int (by unfold hexVal; rw [if_neg (by omega), if_neg (by omega)]), rfl⟩
  · go_enter Try.func17, Try.ntmps17
    go_wp2
    go_ret
    exact ⟨ret_int (by unfold hexVal; rw [if_neg (by omega), if_neg (by omega)]), rfl⟩

theorem hexVal_digit' : ∀ a : Fin 16, hexVal ((Hx.digit a.val).toNat : Int) = (a.val : Int) := by decide
theorem hexVal_digit {a : Nat} (h : a < 16) : hexVal ((Hx.digit a).toNat : Int) = (a : Int) := hexVal_digit' ⟨a, h⟩

theorem encode_hi : ∀ (l : List UInt8) (i : Nat), i < l.length → (Hx.encode l)[2 * i]? = some (Hx.digit ((l.getD i 0).toNat / 16))
  | [], i, h => absurd h (by simp)
  | b :: t, 0, _ => by rw [Hx.encode_cons]; rfl
  | b :: t, i + 1, h => by
    rw [Hx.encode_cons, show 2 * (i + 1) = 2 * i + 1 + 1 by omega, List.getElem?_cons_succ, List.getElem?_cons_succ, encode_hi t i (by simpa using h)]
    rfl
theorem encode_lo : ∀ (l : List UInt8) (i : Nat), i < l.length → (Hx.encode l)[2 * i + 1]? = some (Hx.digit ((l.getD i 0).toNat % 16))
  | [], i, h => absurd h (by simp)
  | b :: t, 0, _ => by rw [Hx.encode_cons]; rfl
  | b :: t, i + 1, h => by
    rw [Hx.encode_cons, show 2 * (i + 1) + 1 = 2 * i + 1 + 1 + 1 by omega, List.getElem?_cons_succ, List.getElem?_cons_succ, encode_lo t i (by simpa using h)]
    rfl

theorem ref_hi {xs : List Int} {k : Nat} (hk : k < xs.length) : (refText xs).data.toList[7 + 2 * k]? = some (Hx.digit (((Lib.bytesOf xs).getD k 0).toNat / 16)) := by
  rw [← ByteArray.toList_eq, refText_list, List.getElem?_append_right (by simp), ← encode_hi _ _ (by rw [Lib.bytesOf_length]; exact hk)]
  congr 1
  simp
theorem ref_lo {xs : List Int} {k : Nat} (hk : k < xs.length) : (refText xs).data.toList[8 + 2 * k]? = some (Hx.digit (((Lib.bytesOf xs).getD k 0).toNat % 16)) := by
  rw [← ByteArray.toList_eq, refText_list, List.getElem?_append_right (by simp; omega), ← encode_lo _ _ (by rw [Lib.bytesOf_length]; exact hk)]
  congr 1
  simp
  omega
theorem ref_size {xs : List Int} (h : xs.length = 32) : (refText xs).size = 71 := by
  have : (refText xs).data.toList.length = 71 := by
    rw [← ByteArray.toList_eq, refText_list, List.length_append, Hx.encode_length, Lib.bytesOf_length, h]; rfl
  simpa using this
theorem bytes_num {xs : List Int} {k : Nat} (hk : k < xs.length) (h0 : 0 ≤ xs.getD k 0) (h1 : xs.getD k 0 < 256) : (((Lib.bytesOf xs).getD k 0).toNat : Int) = xs.getD k 0 := by
  have e : (Lib.bytesOf xs).getD k 0 = UInt8.ofNat (xs.getD k 0).toNat := by
    simp [Lib.bytesOf, List.getD_eq_getElem?_getD, List.getElem?_eq_getElem hk]
  rw [e, UInt8.toNat_ofNat']
  omega

theorem index_ref {s : ByteArray} {i : Int} {j : Nat} {b : UInt8} (w : World) (hi : i = (j : Int)) (hb : s.data.toList[j]? = some b) : (Instr.index 9 (.string s) (.int .i64 i)).run Try.prog w = .ok (.int .u8 (b.toNat : Int)) w := by
  subst hi
  obtain ⟨hj, rfl⟩ := List.getElem?_eq_some_iff.1 hb
  have hj' : j < s.size := by simpa using hj
  rw [run_index_string w 9 s .i64 j Try.underlying9, dif_pos ⟨by omega, by omega⟩, Array.getElem_toList]
  rfl

set_option maxHeartbeats 1000000 in
theorem readsBack_any (l : List Value) (xs : List Int) (h : IsRef l xs) (w : World) :
    Calls Try.prog 10 #[.string (refText xs), .agg l.toArray] w fun e w' => e = .returned (.bool true) ∧ Below w.heap.size w w' := by
  have hsz := ref_size h.len
  have hpre : ((refText xs).extract 0 7).toList = [115, 104, 97, 50, 53, 54, 58] := by
    rw [ByteArray.toList_eq, ByteArray.data_extract, Array.toList_extract, List.extract_eq_take_drop, List.drop_zero, ← ByteArray.toList_eq, refText_list]
    rfl
  have hhi : ∀ k, k < 32 → (refText xs).data.toList[7 + 2 * k]? = some (Hx.digit (((Lib.bytesOf xs).getD k 0).toNat / 16)) := fun k hk => ref_hi (by rw [h.len]; exact hk)
  have hlo : ∀ k, k < 32 → (refText xs).data.toList[8 + 2 * k]? = some (Hx.digit (((Lib.bytesOf xs).getD k 0).toNat % 16)) := fun k hk => ref_lo (by rw [h.len]; exact hk)
  have HI := hide2 hhi
  have LO := hide2 hlo
  clear hhi hlo
  generalize refText xs = s at *
  go_enter Try.func10, Try.ntmps10
  go_wp2_with (refine wpList_box_row (by rfl) 23 _ (by rfl) l (by rfl) ?_)
  intro W hW hb hz
  have hcell : ∀ k, k < 32 → W.cell? ⟨w.heap.size, k, none⟩ = some (.int .u8 (xs.getD k 0)) := fun i hi => by
    have := hW i (.int .u8 (xs.getD i 0)) (by
      rw [h.eq, List.getElem?_map, List.getD_eq_getElem?_getD, List.getElem?_eq_getElem (by rw [h.len]; exact hi)]; rfl)
    rwa [Nat.zero_add] at this
  have HC := hide2 hcell
  clear hcell hW
  go_wp2
  go_loop [5] (fun i => ∃ k : Nat, k ≤ 32 ∧ i = .int .i64 k) (fun i => 32 - (RowKit.intOf i).toNat)
  case atStart => exact ⟨0, by omega, rfl⟩
  case round =>
    obtain ⟨k, hk, rfl⟩ := hrel
    by_cases hlt : k < 32
    · have b0 := HI.out k hlt
      have b1 := LO.out k hlt
      have hx := bytes_num (xs := xs) (k := k) (by rw [h.len]; exact hlt) (h.rng k hlt).1 (h.rng k hlt).2
      have bl := ((Lib.bytesOf xs).getD k 0).toNat_lt
      have v0 := hexVal_digit (a := ((Lib.bytesOf xs).getD k 0).toNat / 16) (by omega)
      have v1 := hexVal_digit (a := ((Lib.bytesOf xs).getD k 0).toNat % 16) (by omega)
      have hc := HC.out k hlt
      generalize xs.getD k 0 = x at *
      generalize ((Lib.bytesOf xs).getD k 0).toNat = n at *
      have i0 : ∀ w : World, (Instr.index 9 (.string s) (.int .i64 (7 + 2 * (k : Int)))).run Try.prog w = .ok (.int .u8 ((Hx.digit (n / 16)).toNat : Int)) w := fun w => index_ref w (by omega) b0
      have i1 : ∀ w : World, (Instr.index 9 (.string s) (.int .i64 (8 + 2 * (k : Int)))).run Try.prog w = .ok (.int .u8 ((Hx.digit (n % 16)).toNat : Int)) w := fun w => index_ref w (by omega) b1
      have l0 := (Hx.digit (n / 16)).toNat_lt
      have l1 := (Hx.digit (n % 16)).toNat_lt
      generalize (Hx.digit (n / 16)).toNat = d0 at *
      generalize (Hx.digit (n % 16)).toNat = d1 at *
      clear b0 b1
      have c0 : ∀ w : World, Calls Try.prog 17 #[.int .u8 (d0 : Int)] w fun e w' => e = .returned (.int .i64 ((n / 16 : Nat) : Int)) ∧ w' = w := fun w => by rw [← v0]; exact hexVal_any _ w (by omega) (by omega)
      have c1 : ∀ w : World, Calls Try.prog 17 #[.int .u8 (d1 : Int)] w fun e w' => e = .returned (.int .i64 ((n % 16 : Nat) : Int)) ∧ w' = w := fun w => by rw [← v1]; exact hexVal_any _ w (by omega) (by omega)
      have hq0 : ((n / 16 : Nat) : Int) * 16 + ((n % 16 : Nat) : Int) = x := by omega
      have hx0 : 0 ≤ x := by omega
      have hx1 : x < 256 := by omega
      generalize hn0 : n / 16 = n0 at *
      generalize hn1 : n % 16 = n1 at *
      have hn0' : n0 < 16 := by omega
      have hn1' : n1 < 16 := by omega
      clear v0 v1 hn0 hn1 hx bl
      go_wp2_with (go_at_call 17; (first | with_reducible refine (c0 _).mono fun q w' hq => ?_ | with_reducible refine (c1 _).mono fun q w' hq => ?_); obtain ⟨rfl, hw⟩ := hq; subst w')
      exact ⟨⟨k + 1, by omega, rfl⟩, by simp [RowKit.intOf]; omega⟩
    · have e : k = 32 := by omega
      subst e
      go_wp2
      go_ret
      exact ⟨rfl, hb⟩
end Go.Proofs.Qxb6625833a
