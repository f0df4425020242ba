/-
  OUR OWN WORK. Seat b6625833a: THE CONTRACT OF zzProv (function 14).
-/
import Derived.Test.Qxb6625833aBase
import Derived.Handy
namespace Go.Proofs.Qxb6625833a
open Go.RowKit

/-- Some pointer comes back. -/
def PtrOut (e : Ending) : Prop := ∃ q, e = .returned (.pointer q)

theorem prov_nil (w : World) : Calls Try.prog 14 #[.pointer none] w fun e w' => PtrOut e ∧ Below w.heap.size w w' := by
  go_enter Try.func14, Try.ntmps14
  go_wp2
  go_ret
  exact ⟨⟨_, rfl⟩, Below.refl _ _⟩

set_option maxHeartbeats 2000000 in
set_option maxRecDepth 100000 in
theorem prov_a (b o : Nat) (s1 s2 s3 : ByteArray) (n1 n2 : Int) (w : World) (h : Prov w b o s1 s2 s3 n1 n2 (none) (none)) :
    Calls Try.prog 14 #[.pointer (some ⟨b, o, none⟩)] w fun e w' => PtrOut e ∧ Below w.heap.size w w' := by
  obtain ⟨c0, c1, c2, c3, c4, c5, c6⟩ := h
  have hlt : b < w.heap.size := World.block_lt_of_cell? w _ c0
  go_enter Try.func14, Try.ntmps14
  go_wp2
  go_region_held3 (fun w' => w'.cell? ⟨b, o, none⟩ = some (.string s1) ∧ w'.cell? ⟨b, o + 1, none⟩ = some (.string s2) ∧ w'.cell? ⟨b, o + 2, none⟩ = some (.string s3) ∧ w'.cell? ⟨b, o + 3, none⟩ = some (.int .i64 n1) ∧ w'.cell? ⟨b, o + 4, none⟩ = some (.int .i64 n2)) (go_keep) (fail)
  go_wp2
  go_ret
  refine ⟨⟨_, rfl⟩, ?_⟩
  go_grown

set_option maxHeartbeats 2000000 in
set_option maxRecDepth 100000 in
theorem prov_b (b o : Nat) (s1 s2 s3 : ByteArray) (n1 n2 : Int) (lb lo : Nat) (s4 : ByteArray) (w : World) (h : Prov w b o s1 s2 s3 n1 n2 (none) (some ⟨lb, lo, none⟩)) (hl : w.cell? ⟨lb, lo, none⟩ = some (.string s4)) :
    Calls Try.prog 14 #[.pointer (some ⟨b, o, none⟩)] w fun e w' => PtrOut e ∧ Below w.heap.size w w' := by
  obtain ⟨c0, c1, c2, c3, c4, c5, c6⟩ := h
  have hlt : b < w.heap.size := World.block_lt_of_cell? w _ c0
  have ll : lb < w.heap.size := World.block_lt_of_cell? w _ hl
  go_enter Try.func14, Try.ntmps14
  go_wp2
  go_region_held3 (fun w' => w'.cell? ⟨b, o, none⟩ = some (.string s1) ∧ w'.cell? ⟨b, o + 1, none⟩ = some (.string s2) ∧ w'.cell? ⟨b, o + 2, none⟩ = some (.string s3) ∧ w'.cell? ⟨b, o + 3, none⟩ = some (.int .i64 n1) ∧ w'.cell? ⟨b, o + 4, none⟩ = some (.int .i64 n2)) (go_keep) (fail)
  go_wp2
  go_ret
  refine ⟨⟨_, rfl⟩, ?_⟩
  go_grown

set_option maxHeartbeats 2000000 in
set_option maxRecDepth 100000 in
theorem prov_c (b o : Nat) (s1 s2 s3 : ByteArray) (n1 n2 : Int) (fb fo : Nat) (k : FloatKind) (x : _) (w : World) (h : Prov w b o s1 s2 s3 n1 n2 (some ⟨fb, fo, none⟩) (none)) (hf : w.cell? ⟨fb, fo, none⟩ = some (.float k x)) :
    Calls Try.prog 14 #[.pointer (some ⟨b, o, none⟩)] w fun e w' => PtrOut e ∧ Below w.heap.size w w' := by
  obtain ⟨c0, c1, c2, c3, c4, c5, c6⟩ := h
  have hlt : b < w.heap.size := World.block_lt_of_cell? w _ c0
  have hst : ∀ (W : World) (a : Addr) (m : Mode), (store a (.float k x) m).run Try.prog W = stored Try.prog W a (.float k x) m := fun W a m => run_store Try.prog W a _ m rfl
  have lf : fb < w.heap.size := World.block_lt_of_cell? w _ hf
  go_enter Try.func14, Try.ntmps14
  go_wp2
  go_region_held3 (fun w' => w'.cell? ⟨b, o, none⟩ = some (.string s1) ∧ w'.cell? ⟨b, o + 1, none⟩ = some (.string s2) ∧ w'.cell? ⟨b, o + 2, none⟩ = some (.string s3) ∧ w'.cell? ⟨b, o + 3, none⟩ = some (.int .i64 n1) ∧ w'.cell? ⟨b, o + 4, none⟩ = some (.int .i64 n2)) (go_keep) (fail)
  go_wp2
  go_ret
  refine ⟨⟨_, rfl⟩, ?_⟩
  go_grown

set_option maxHeartbeats 2000000 in
set_option maxRecDepth 100000 in
theorem prov_d (b o : Nat) (s1 s2 s3 : ByteArray) (n1 n2 : Int) (fb fo : Nat) (k : FloatKind) (x : _) (lb lo : Nat) (s4 : ByteArray) (w : World) (h : Prov w b o s1 s2 s3 n1 n2 (some ⟨fb, fo, none⟩) (some ⟨lb, lo, none⟩)) (hf : w.cell? ⟨fb, fo, none⟩ = some (.float k x)) (hl : w.cell? ⟨lb, lo, none⟩ = some (.string s4)) :
    Calls Try.prog 14 #[.pointer (some ⟨b, o, none⟩)] w fun e w' => PtrOut e ∧ Below w.heap.size w w' := by
  obtain ⟨c0, c1, c2, c3, c4, c5, c6⟩ := h
  have hlt : b < w.heap.size := World.block_lt_of_cell? w _ c0
  have hst : ∀ (W : World) (a : Addr) (m : Mode), (store a (.float k x) m).run Try.prog W = stored Try.prog W a (.float k x) m := fun W a m => run_store Try.prog W a _ m rfl
  have lf : fb < w.heap.size := World.block_lt_of_cell? w _ hf
  have ll : lb < w.heap.size := World.block_lt_of_cell? w _ hl
  go_enter Try.func14, Try.ntmps14
  go_wp2
  go_region_held3 (fun w' => w'.cell? ⟨b, o, none⟩ = some (.string s1) ∧ w'.cell? ⟨b, o + 1, none⟩ = some (.string s2) ∧ w'.cell? ⟨b, o + 2, none⟩ = some (.string s3) ∧ w'.cell? ⟨b, o + 3, none⟩ = some (.int .i64 n1) ∧ w'.cell? ⟨b, o + 4, none⟩ = some (.int .i64 n2)) (go_keep) (fail)
  go_wp2
  go_ret
  refine ⟨⟨_, rfl⟩, ?_⟩
  go_grown

theorem prov_any (p : Option Addr) (w : World) (h : ProvAt w p) : Calls Try.prog 14 #[.pointer p] w fun e w' => PtrOut e ∧ Below w.heap.size w w' := by
  rcases h with rfl | ⟨b, o, s1, s2, s3, n1, n2, cf, lc, rfl, h1, h2, h3⟩
  · exact prov_nil w
  · rcases h2 with rfl | ⟨fb, fo, k, x, rfl, h2⟩ <;> rcases h3 with rfl | ⟨lb, lo, s4, rfl, h3⟩
    · exact prov_a b o s1 s2 s3 n1 n2 w h1
    · exact prov_b b o s1 s2 s3 n1 n2 lb lo s4 w h1 h3
    · exact prov_c b o s1 s2 s3 n1 n2 fb fo k x w h1 h2
    · exact prov_d b o s1 s2 s3 n1 n2 fb fo k x lb lo s4 w h1 h2 h3
end Go.Proofs.Qxb6625833a
