/-
  OUR OWN WORK (the two walks are the shelf's own, turned to this dump). Seat b6625833a: encoding/hex's Encode, EncodeToString, EncodedLen (functions 20, 18, 19); the project's Ref.hex and Ref.String (15, 8).
-/
import Derived.Test.Qxb6625833aBase
import Derived.Lib.HexFns
import Derived.Lib.Walk
import Derived.Lib.Strings
import Derived.Deep.OwnRows
import Derived.Deep.Draws
namespace Go.Proofs.Qxb6625833a
open Go.RowKit Go.Lib

theorem info5 : (Try.prog.info? 5).map (fun i => (i.zero, i.size, i.bytes)) = some (some (Value.int IntKind.u8 0), 1, 1) := by kernel_rfl

theorem encodedLen_any (n : Int) (h0 : 0 ≤ n) (h1 : n ≤ 1000) (w : World) : Calls Try.prog 19 #[.int .i64 n] w fun e w' => e = .returned (.int .i64 (n * 2)) ∧ w' = w := by
  go_enter Try.func19, Try.ntmps19
  go_wp2
  go_ret
  exact ⟨rfl, rfl⟩

set_option maxHeartbeats 2000000 in
set_option maxRecDepth 100000 in
theorem encode_any (bd od nd cd N : Nat) (f : Nat → Value) (bs os n cs : Nat) (xs : List Int) (w : World)
    (hx : xs.length = n) (hr : ∀ i, i < n → 0 ≤ xs.getD i 0 ∧ xs.getD i 0 < 256) (hsrc : ∀ i, i < n → w.cell? ⟨bs, os + i, none⟩ = some (.int .u8 (xs.getD i 0)))
    (hrow : w.rowIs bd 5 N f) (hfit : od + nd ≤ N) (hlen : 2 * n ≤ nd) (hne : bd ≠ bs) (hbig : n ≤ 1000) :
    Calls Try.prog 20 #[.slice (some ⟨bd, od, none⟩) nd cd, .slice (some ⟨bs, os, none⟩) n cs] w fun e w' => e = .returned (.int .i64 ((n : Int) * 2)) ∧ w'.rowIs bd 5 N (Hx.row f od (Lib.bytesOf xs) n) ∧ w.grownBy w' (some bd) := by
  have HS : Hid (∀ i, i < n → w.cell? ⟨bs, os + i, none⟩ = some (.int .u8 (xs.getD i 0))) := hsrc
  have HR : Hid (∀ i, i < n → 0 ≤ xs.getD i 0 ∧ xs.getD i 0 < 256) := hr
  have HX0 : Hid (xs.length = n) := hx
  clear hsrc hr hx
  go_enter Try.func20, Try.ntmps20
  go_wp2
  go_loopw [5, 10] (fun vj vi wr => ∃ k : Nat, k ≤ n ∧ vi = .int .i64 k ∧ vj = .int .i64 ((2 * k : Nat) : Int) ∧ Hid (wr.rowIs bd 5 N (Hx.row f od (Lib.bytesOf xs) k)) ∧ Hid (w.grownBy wr (some bd))) (fun _ vi _ => n - (RowKit.intOf vi).toNat)
  case atStart => exact ⟨0, Nat.zero_le _, rfl, rfl, hrow.congr (fun j _ => Hx.row_zero f od _ j), Hx.grownBy_refl _ _⟩
  case round =>
    obtain ⟨k, hk, rfl, rfl, hrw, hgr⟩ := hrel
    obtain ⟨x, hxk⟩ : ∃ x, x = xs.getD k 0 := ⟨_, rfl⟩
    have hcx : k < n → wr.cell? ⟨bs, os + k, none⟩ = some (.int .u8 x) := fun h => by rw [hxk]; exact hgr.out.cell (HS.out k h) (by simp; omega)
    have hx0 : k < n → 0 ≤ x := fun h => by rw [hxk]; exact (HR.out k h).1
    have hx1 : k < n → x < 256 := fun h => by rw [hxk]; exact (HR.out k h).2
    have HX : Hid (x = xs.getD k 0) := hxk
    clear hxk
    have hf1 : wr.frozen? ⟨bd, od + 2 * k, none⟩ = false := hrw.out.frozen _
    have hc1 : k < n → wr.cell? ⟨bd, od + 2 * k, none⟩ = some (Hx.row f od (Lib.bytesOf xs) k (od + 2 * k)) := fun h => hrw.out.cell (by omega)
    have hf2 : ∀ v, (wr.setCell ⟨bd, od + 2 * k, none⟩ v).frozen? ⟨bd, od + (2 * k + 1), none⟩ = false := fun v => (hrw.out.set _ v).frozen _
    have hc2 : k < n → ∀ v, (wr.setCell ⟨bd, od + 2 * k, none⟩ v).cell? ⟨bd, od + (2 * k + 1), none⟩ = some (Hx.row f od (Lib.bytesOf xs) k (od + (2 * k + 1))) := fun h v => by
      have := (hrw.out.set (od + 2 * k) v).cell (i := od + (2 * k + 1)) (by omega)
      rwa [if_neg (by omega)] at this
    go_wp2
    · have hlt : k < n := by assumption
      go_roundw
      case rel =>
        refine ⟨k + 1, by omega, by go_num, by first | go_num | (congr 1; omega), ((hrw.out.set _ _).set _ _).congr (fun j _ => ?_), Hx.grownBy_set (Hx.grownBy_set hgr.out _ rfl _) _ rfl _⟩
        have e1 := Hx.dig_hi x (hx0 hlt) (hx1 hlt) (by have := hx0 hlt; have := hx1 hlt; show _ < 16; omega)
        have e2 := Hx.dig_lo x (hx0 hlt) (hx1 hlt) (by have := hx0 hlt; show _ < 16; omega)
        have e3 := Hx.row_step f od (Lib.bytesOf xs) k _ (Hx.bytes_at xs k (by rw [HX0.out]; exact hlt)) j
        rw [← HX.out, ← e1, ← e2] at e3
        exact e3
      case measure => simp [RowKit.intOf]; omega
    · have hk2 : k = n := by omega
      subst hk2
      go_ret
      exact ⟨rfl, hrw.out, hgr.out⟩

set_option maxHeartbeats 2000000 in
set_option maxRecDepth 100000 in
theorem encodeToString_any (bs os n cs : Nat) (xs : List Int) (w : World)
    (hx : xs.length = n) (hr : ∀ i, i < n → 0 ≤ xs.getD i 0 ∧ xs.getD i 0 < 256) (hsrc : ∀ i, i < n → w.cell? ⟨bs, os + i, none⟩ = some (.int .u8 (xs.getD i 0)))
    (hb : bs < w.heap.size) (hbig : n ≤ 1000) :
    Calls Try.prog 18 #[.slice (some ⟨bs, os, none⟩) n cs] w fun e w' => e = .returned (.string ⟨(Hx.encode (Lib.bytesOf xs)).toArray⟩) ∧ Below w.heap.size w w' := by
  have hmk : ∀ w : World, (Instr.makeSlice 62 (.int .i64 ((n : Int) * 2)) (.int .i64 ((n : Int) * 2))).run Try.prog w = .ok (.slice (some ⟨w.heap.size, 0, none⟩) (2 * n) (2 * n)) (w.alloc (.cells (madeCells #[.int .u8 0] (2 * n)) 5)) := fun w => by
    have h := run_make_row' (P := Try.prog) 62 5 (.int .u8 0) 1 Try.underlying62 info5 rfl .i64 .i64 (2 * n) (by omega) (by omega) w
    rwa [show ((2 * n : Nat) : Int) = (n : Int) * 2 by omega] at h
  have hsrc' : Hid (∀ o, ∀ i, i < n → (w.alloc o).cell? ⟨bs, os + i, none⟩ = some (.int .u8 (xs.getD i 0))) := fun o i hi => (((Below.refl _ w).alloc (Nat.le_refl _) o).cell (p := ⟨bs, os + i, none⟩) hb).trans (hsrc i hi)
  have HR : Hid (∀ i, i < n → 0 ≤ xs.getD i 0 ∧ xs.getD i 0 < 256) := hr
  have HX0 : Hid (xs.length = n) := hx
  clear hsrc hr hx
  go_enter Try.func18, Try.ntmps18
  go_wp2_with fail
  refine (encodedLen_any n (by omega) (by omega) _).mono ?_
  rintro e w1 ⟨rfl, hw1⟩
  subst w1
  go_wp2_with fail
  refine (encode_any w.heap.size 0 (2 * n) (2 * n) (2 * n) (fun _ => .int .u8 0) bs os n cs xs _ HX0.out HR.out (hsrc'.out _) (World.rowIs_made w _ _ _) (by omega) (by omega) (by omega) (by omega)).mono ?_
  rintro e w2 ⟨rfl, hrow', hgrow⟩
  have g := run_convert_bytes_arg (P := Try.prog) w2 62 5 Try.underlying62 Try.underlying5 w.heap.size 0 (2 * n) (2 * n) (Hx.nums (Lib.bytesOf xs)) (by rw [Hx.nums_length, Lib.bytesOf_length, HX0.out]) (fun i hi => by rw [Nat.zero_add, hrow'.cell hi, Hx.row_in _ _ _ _ hi]) 9 Try.underlying9
  have HG : Hid ((w.alloc (.cells (madeCells #[.int .u8 0] (2 * n)) 5)).grownBy w2 (some w.heap.size)) := hgrow
  clear hrow' hgrow
  go_wp2
  go_ret
  exact ⟨by rw [← Hx.strOfNums_nums]; rfl, ((Below.refl _ w).alloc (Nat.le_refl _) _).grown HG.out (by simp) (fun k hk => by cases hk; exact Nat.le_refl _)⟩

/-- A reference's cells: 32 bytes. -/
structure IsRef (l : List Value) (xs : List Int) : Prop where
  eq : l = xs.map (Value.int .u8)
  len : xs.length = 32
  rng : ∀ i, i < 32 → 0 ≤ xs.getD i 0 ∧ xs.getD i 0 < 256
theorem IsRef.length {l : List Value} {xs : List Int} (h : IsRef l xs) : l.length = 32 := by rw [h.eq, List.length_map, h.len]

/-- What a reference is written as. -/
def refText (xs : List Int) : ByteArray := { data := #[115, 104, 97, 50, 53, 54, 58] } ++ ⟨(Hx.encode (Lib.bytesOf xs)).toArray⟩

/-- A row of cells laid into a block of its own. -/
theorem wpList_box_row {w : World} {ops : Array Oper} {rest : List Oper} {o : Oper} {a : Act} {Q : Exit → Act → World → Prop}
    (hg : o.guard = none) (T : TypeId) (x : Operand) (hop : o.op = Op.box T x) (l : List Value) (hx : a.eval x = .agg l.toArray)
    (hK : ∀ W, W.rangeAt w.heap.size 0 l → Below w.heap.size w W → W.heap.size = w.heap.size + 1 → wpList Try.prog ops Q rest (a.put o.dst (.pointer (some ⟨w.heap.size, 0, none⟩))) W) :
    wpList Try.prog ops Q (o :: rest) a w := by
  refine wpList_plain hg fun K' hK' => ?_
  unfold Oper.wp
  have hrun : (Instr.box T (.agg l.toArray)).run Try.prog w = .ok (.pointer (some ⟨w.heap.size, 0, none⟩)) (w.alloc (.cells l.toArray T)) := rfl
  simp [execOp, hop, hx, hrun, Result.andThen]
  refine hK' _ _ (hK _ (fun j v hv => ?_) ((Below.refl _ _).alloc (Nat.le_refl _) _) (by simp))
  rw [World.cell?_alloc_new]
  simpa using hv

theorem rowInfo36 : (Try.prog.info? 36).map (·.size) = some 32 := by kernel_rfl
theorem rowInfo23 : (Try.prog.info? 23).map (·.size) = some 32 := by kernel_rfl

set_option maxHeartbeats 800000 in
theorem hex_any (l : List Value) (xs : List Int) (h : IsRef l xs) (w : World) :
    Calls Try.prog 15 #[.agg l.toArray] w fun e w' => e = .returned (.string ⟨(Hx.encode (Lib.bytesOf xs)).toArray⟩) ∧ Below w.heap.size w w' := by
  go_enter Try.func15, Try.ntmps15
  go_wp2_with (refine wpList_box_row rfl 36 _ rfl l rfl ?_)
  intro W hW hb hsz
  have hsl : ∀ i, i < 32 → W.cell? ⟨w.heap.size, 0 + i, none⟩ = some (.int .u8 (xs.getD i 0)) := fun i hi => hW i _ (by
    rw [h.eq, List.getElem?_map, List.getD_eq_getElem?_getD, List.getElem?_eq_getElem (by rw [h.len]; exact hi)]; rfl)
  have HS : Hid (∀ i, i < 32 → W.cell? ⟨w.heap.size, 0 + i, none⟩ = some (.int .u8 (xs.getD i 0))) := hsl
  clear hsl
  go_wp2_with fail
  refine (encodeToString_any w.heap.size 0 32 32 xs _ h.len h.rng HS.out (by omega) (by omega)).mono ?_
  rintro e w1 ⟨rfl, hb1⟩
  go_wp2
  go_ret
  exact ⟨rfl, hb.trans (hb1.mono hb.size)⟩

set_option maxHeartbeats 800000 in
theorem string_any (l : List Value) (xs : List Int) (h : IsRef l xs) (w : World) :
    Calls Try.prog 8 #[.agg l.toArray] w fun e w' => e = .returned (.string (refText xs)) ∧ Below w.heap.size w w' := by
  have hlen : (Hx.encode (Lib.bytesOf xs)).length ≤ 64 := by rw [Hx.encode_length, Lib.bytesOf_length, h.len]; omega
  go_enter Try.func8, Try.ntmps8
  go_wp2_with (refine wpList_box_row rfl 36 _ rfl l rfl ?_)
  intro W hW hb hsz
  go_wp2_with (refine wpList_load_mid rfl 36 _ rfl w.heap.size 0 rfl l _ hW Try.underlying36 rfl (by rw [h.length]; exact rowInfo36) ?_)
  refine (hex_any l xs h _).mono ?_
  rintro e w1 ⟨rfl, hb1⟩
  go_wp2
  go_ret
  exact ⟨rfl, hb.trans (hb1.mono hb.size)⟩
end Go.Proofs.Qxb6625833a
