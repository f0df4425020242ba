/-
  OUR OWN WORK. Seat b6625833a: THE CONTRACT OF function 5 (it answers some bool, and turns nothing that was there).
-/
import Derived.Test.Qxb6625833aBase
namespace Go.Proofs.Qxb6625833a
open Go.RowKit

/-- Some bool comes back. -/
def SomeBool (e : Ending) : Prop := ∃ b, e = .returned (.bool b)

/-- What a *ZProv leads to, case by case. -/
theorem ProvAt.split {w : World} {p : Option Addr} (h : ProvAt w p) : p = none ∨
    (∃ b o s1 s2 s3, p = some ⟨b, o, none⟩ ∧ w.cell? ⟨b, o, none⟩ = some (.string s1) ∧ w.cell? ⟨b, o + 1, none⟩ = some (.string s2) ∧ w.cell? ⟨b, o + 2, none⟩ = some (.string s3) ∧ w.cell? ⟨b, o + 6, none⟩ = some (.pointer none)) ∨
    (∃ b o s1 s2 s3 lb lo s4, p = some ⟨b, o, none⟩ ∧ w.cell? ⟨b, o, none⟩ = some (.string s1) ∧ w.cell? ⟨b, o + 1, none⟩ = some (.string s2) ∧ w.cell? ⟨b, o + 2, none⟩ = some (.string s3) ∧ w.cell? ⟨b, o + 6, none⟩ = some (.pointer (some ⟨lb, lo, none⟩)) ∧ w.cell? ⟨lb, lo, none⟩ = some (.string s4)) := by
  rcases h with h | ⟨b, o, s1, s2, s3, n1, n2, cf, lc, e, h1, _, h3⟩
  · exact .inl h
  · rcases h3 with rfl | ⟨lb, lo, s4, rfl, h3⟩
    · exact .inr (.inl ⟨b, o, s1, s2, s3, e, h1.c0, h1.c1, h1.c2, h1.c6⟩)
    · exact .inr (.inr ⟨b, o, s1, s2, s3, lb, lo, s4, e, h1.c0, h1.c1, h1.c2, h1.c6, h3⟩)

set_option maxHeartbeats 20000000 in
set_option maxRecDepth 100000 in
theorem bytes5_any (c : Chg) (w : World) (le : c.eref.length = 32) (lv : c.vref.length = 32) (h1 : ProvAt w c.ep) (h2 : ProvAt w c.vp) :
    Calls Try.prog 5 #[c.val] w fun e w' => SomeBool e ∧ Below w.heap.size w w' := by
  go_enter Try.func5, Try.ntmps5
  go_wp2_with (refine wpList_box rfl 29 _ rfl c rfl le lv ?_)
  intro W hW hb _
  have d0 := hW.c0
  have d2 := hW.c2
  have d3 := hW.c3
  have d4 := hW.c4
  have d5 := hW.c5
  have d6 := hW.c6
  have d41 := hW.c41
  have d74 := hW.c74
  have p1 := (h1.below hb).split
  have p2 := (h2.below hb).split
  clear h1 h2 hW le lv
  rcases p1 with e1 | ⟨b1, o1, s1, s2, s3, e1, x0, x1, x2, x6⟩ | ⟨b1, o1, s1, s2, s3, lb1, lo1, s4, e1, x0, x1, x2, x6, x7⟩
  all_goals
    rw [e1] at d6
    clear e1
    rcases p2 with e2 | ⟨b2, o2, t1, t2, t3, e2, y0, y1, y2, y6⟩ | ⟨b2, o2, t1, t2, t3, lb2, lo2, t4, e2, y0, y1, y2, y6, y7⟩
    all_goals
      rw [e2] at d74
      clear e2
      go_wp2
      all_goals (go_ret; exact ⟨⟨_, rfl⟩, hb⟩)
end Go.Proofs.Qxb6625833a
