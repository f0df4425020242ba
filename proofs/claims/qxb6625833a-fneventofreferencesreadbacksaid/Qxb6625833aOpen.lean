/-
  OUR OWN WORK. Seat b6625833a: THE ARGUMENT OPENED: whatever reads as a ZChange is a 'Chg' whose references are bytes and whose provenances can be read.
-/
import Derived.Test.Qxb6625833aLib
import Derived.ProofKit
import Derived.OpenShut
namespace Go.Proofs.Qxb6625833a
open Go.RowKit Go.Lib Go.ChangeShapes Go.WideShapes

section
variable {H : Type} {enc : TypeId × Value → H} {w : World} {base : Nat} {sp : Nat → Bool} {held : Bool}

theorem field_of {t : TypeId} {fs : Array Field} {fuel : Nat} {cs : List Value} {x : DataW H × List MemPlace} (ht : Try.prog.underlying t = some (.struct fs)) (h : DataW.trod enc Try.prog w base sp held fuel t cs = some x) (i : Nat) (ty : TypeId) (off : Nat) (hi : (fs[i]?).map (fun f => (f.type, f.offset)) = some (ty, off)) (n : Nat) (hn : Try.prog.cellsOf ty = n) :
    ∃ y m, DataW.trod enc Try.prog w base sp held m ty ((cs.drop off).take n) = some y := by
  obtain ⟨xs, m, _, _, _, hlen, hf⟩ := DataW.trod_struct ht h
  obtain ⟨f, hf0, he⟩ := Option.map_eq_some_iff.1 hi
  simp only [Prod.mk.injEq] at he
  obtain ⟨rfl, rfl⟩ := he
  have := hf i f hf0
  rw [hn] at this
  have hlt : i < xs.length := by rw [hlen]; exact (Array.getElem?_eq_some_iff.1 hf0).1
  rw [List.getElem?_eq_getElem hlt] at this
  exact ⟨_, m, this⟩
theorem len_of {t : TypeId} {fs : Array Field} {fuel : Nat} {cs : List Value} {x : DataW H × List MemPlace} (ht : Try.prog.underlying t = some (.struct fs)) (h : DataW.trod enc Try.prog w base sp held fuel t cs = some x) : cs.length = Try.prog.cellsOf t := by
  obtain ⟨xs, m, _, _, hl, _, _⟩ := DataW.trod_struct ht h
  exact hl
theorem str_of {t : TypeId} (ht : Try.prog.underlying t = some .string) {fuel : Nat} {cs : List Value} {x : DataW H × List MemPlace} (h : DataW.trod enc Try.prog w base sp held fuel t cs = some x) : ∃ s, cs = [.string s] ∧ s.size ≤ maxLen := by
  cases fuel with
  | zero => simp [DataW.trod] at h
  | succ n =>
    unfold DataW.trod at h
    rw [ht] at h
    split at h <;> simp_all
theorem int_of {t : TypeId} {k : IntKind} (ht : Try.prog.underlying t = some (.int k)) {fuel : Nat} {cs : List Value} {x : DataW H × List MemPlace} (h : DataW.trod enc Try.prog w base sp held fuel t cs = some x) : ∃ n, cs = [.int k n] ∧ (Lit.int k n).wf = true := by
  cases fuel with
  | zero => simp [DataW.trod] at h
  | succ n =>
    unfold DataW.trod at h
    rw [ht] at h
    split at h <;> simp_all
theorem flo_of {t : TypeId} {k : FloatKind} (ht : Try.prog.underlying t = some (.float k)) {fuel : Nat} {cs : List Value} {x : DataW H × List MemPlace} (h : DataW.trod enc Try.prog w base sp held fuel t cs = some x) : ∃ n, cs = [.float k n] := by
  cases fuel with
  | zero => simp [DataW.trod] at h
  | succ n =>
    unfold DataW.trod at h
    rw [ht] at h
    split at h <;> simp_all
theorem ptr_of {t e : TypeId} (ht : Try.prog.underlying t = some (.pointer e)) {fuel : Nat} {cs : List Value} {x : DataW H × List MemPlace} (h : DataW.trod enc Try.prog w base sp held fuel t cs = some x) :
    cs = [.pointer none] ∨ ∃ a cs' m y, cs = [.pointer (some a)] ∧ w.cells? base a (Try.prog.cellsOf e) = some cs' ∧ DataW.trod enc Try.prog w base sp held m e cs' = some y := by
  rcases DataW.trod_pointer ht h with ⟨h1, _⟩ | ⟨a, cs', y, n, h0, h1, h2, h3, h4⟩
  · exact .inl h1
  · exact .inr ⟨a, cs', n, y, by assumption, by assumption, by assumption⟩

/-- The cells behind a pointer. -/
theorem cells_of {a : Addr} {n : Nat} {cs : List Value} (h : w.cells? base a n = some cs) (hn : 0 < n) : ∃ b o, a = ⟨b, o, none⟩ ∧ cs.length = n ∧ ∀ i v, cs[i]? = some v → w.cell? ⟨b, o + i, none⟩ = some v := by
  obtain ⟨_, hl, hc⟩ := World.cells?_some h
  obtain ⟨b, o, spot⟩ := a
  have h0 := hc 0 hn
  rw [List.getElem?_eq_getElem (by omega)] at h0
  have hspot : spot = none := by simpa [Addr.add] using World.cell?_spot h0
  subst hspot
  refine ⟨b, o, rfl, hl, fun i v hv => ?_⟩
  have hi : i < n := by rw [← hl]; exact (List.getElem?_eq_some_iff.1 hv).1
  rw [← hv, ← hc i hi, Addr.add_mid]

theorem at_of {cs : List Value} {i : Nat} {v : Value} (h : (cs.drop i).take 1 = [v]) : cs[i]? = some v := by
  have : ((cs.drop i).take 1)[0]? = some v := by rw [h]; rfl
  simpa [List.getElem?_take, List.getElem?_drop] using this

theorem c54 : Try.prog.cellsOf 54 = 7 := by kernel_rfl
theorem c9 : Try.prog.cellsOf 9 = 1 := by kernel_rfl
theorem c2 : Try.prog.cellsOf 2 = 1 := by kernel_rfl
theorem c3 : Try.prog.cellsOf 3 = 1 := by kernel_rfl
theorem c5 : Try.prog.cellsOf 5 = 1 := by kernel_rfl
theorem c51 : Try.prog.cellsOf 51 = 1 := by kernel_rfl
theorem c52 : Try.prog.cellsOf 52 = 1 := by kernel_rfl
theorem c60 : Try.prog.cellsOf 60 = 1 := by kernel_rfl
theorem c22 : Try.prog.cellsOf 22 = 1 := by kernel_rfl
theorem c23 : Try.prog.cellsOf 23 = 32 := by kernel_rfl
theorem c25 : Try.prog.cellsOf 25 = 38 := by kernel_rfl
theorem c27 : Try.prog.cellsOf 27 = 37 := by kernel_rfl
theorem c29 : Try.prog.cellsOf 29 = 78 := by kernel_rfl

theorem prov_of {fuel : Nat} {cs : List Value} {x : DataW H × List MemPlace} (h : DataW.trod enc Try.prog w base sp held fuel 22 cs = some x) : ∃ p, cs = [.pointer p] ∧ ProvAt w p := by
  rcases ptr_of Try.underlying22 h with rfl | ⟨a, cs', m, y, rfl, hc, hy⟩
  · exact ⟨none, rfl, .inl rfl⟩
  · rw [c54] at hc
    obtain ⟨b, o, rfl, hl, hat⟩ := cells_of hc (by omega)
    obtain ⟨_, _, f0⟩ := field_of Try.underlying54 hy 0 9 0 rfl 1 c9
    obtain ⟨_, _, f1⟩ := field_of Try.underlying54 hy 1 9 1 rfl 1 c9
    obtain ⟨_, _, f2⟩ := field_of Try.underlying54 hy 2 9 2 rfl 1 c9
    obtain ⟨_, _, f3⟩ := field_of Try.underlying54 hy 3 2 3 rfl 1 c2
    obtain ⟨_, _, f4⟩ := field_of Try.underlying54 hy 4 2 4 rfl 1 c2
    obtain ⟨_, _, f5⟩ := field_of Try.underlying54 hy 5 51 5 rfl 1 c51
    obtain ⟨_, _, f6⟩ := field_of Try.underlying54 hy 6 52 6 rfl 1 c52
    obtain ⟨s1, e0, _⟩ := str_of Try.underlying9 f0
    obtain ⟨s2, e1, _⟩ := str_of Try.underlying9 f1
    obtain ⟨s3, e2, _⟩ := str_of Try.underlying9 f2
    obtain ⟨n1, e3, _⟩ := int_of Try.underlying2 f3
    obtain ⟨n2, e4, _⟩ := int_of Try.underlying2 f4
    obtain ⟨cf, e5, hcf⟩ : ∃ cf, (cs'.drop 5).take 1 = [.pointer cf] ∧ CfOk w cf := by
      rcases ptr_of Try.underlying51 f5 with e | ⟨a', cs'', m', y', e, hc', hy'⟩
      · exact ⟨none, e, .inl rfl⟩
      · rw [c60] at hc'
        obtain ⟨b', o', rfl, hl', hat'⟩ := cells_of hc' (by omega)
        obtain ⟨n', rfl⟩ := flo_of Try.underlying60 hy'
        exact ⟨_, e, .inr ⟨b', o', _, n', rfl, by simpa using hat' 0 _ rfl⟩⟩
    obtain ⟨lc, e6, hlc⟩ : ∃ lc, (cs'.drop 6).take 1 = [.pointer lc] ∧ LicOk w lc := by
      rcases ptr_of Try.underlying52 f6 with e | ⟨a', cs'', m', y', e, hc', hy'⟩
      · exact ⟨none, e, .inl rfl⟩
      · rw [c9] at hc'
        obtain ⟨b', o', rfl, hl', hat'⟩ := cells_of hc' (by omega)
        obtain ⟨s', rfl, _⟩ := str_of Try.underlying9 hy'
        exact ⟨_, e, .inr ⟨b', o', s', rfl, by simpa using hat' 0 _ rfl⟩⟩
    refine ⟨_, rfl, .inr ⟨b, o, s1, s2, s3, n1, n2, cf, lc, rfl, ⟨?_, ?_, ?_, ?_, ?_, ?_, ?_⟩, hcf, hlc⟩⟩
    · simpa using hat 0 _ (at_of e0)
    · exact hat 1 _ (at_of e1)
    · exact hat 2 _ (at_of e2)
    · exact hat 3 _ (at_of e3)
    · exact hat 4 _ (at_of e4)
    · exact hat 5 _ (at_of e5)
    · exact hat 6 _ (at_of e6)

/-- Cells that are all bytes. -/
theorem bytes_list : ∀ (l : List Value), (∀ v ∈ l, ∃ n, v = Value.int .u8 n ∧ (Lit.int .u8 n).wf = true) → ∃ xs : List Int, l = xs.map (Value.int .u8) ∧ ∀ x ∈ xs, (Lit.int .u8 x).wf = true
  | [], _ => ⟨[], rfl, by simp⟩
  | v :: r, h => by
    obtain ⟨n, rfl, hn⟩ := h v (by simp)
    obtain ⟨xs, e, hx⟩ := bytes_list r (fun u hu => h u (by simp [hu]))
    exact ⟨n :: xs, by rw [e]; rfl, by simpa [hn] using hx⟩
theorem ref_of {fuel : Nat} {cs : List Value} {x : DataW H × List MemPlace} (h : DataW.trod enc Try.prog w base sp held fuel 23 cs = some x) : ∃ xs, IsRef cs xs := by
  obtain ⟨ys, m, _, _, hl, hlen, hi⟩ := DataW.trod_array Try.underlying23 h
  rw [c23] at hl
  obtain ⟨xs, e, hx⟩ := bytes_list cs (fun v hv => by
    obtain ⟨i, hlt, hg⟩ := List.mem_iff_getElem.1 hv
    have := hi i (by omega)
    rw [c5, Nat.mul_one, List.getElem?_eq_getElem (by omega)] at this
    obtain ⟨n, en, hn⟩ := int_of Try.underlying5 this
    have e2 := at_of en
    rw [List.getElem?_eq_getElem hlt, hg] at e2
    exact ⟨n, by simpa using e2, hn⟩)
  have hxl : xs.length = 32 := by rw [← hl, e, List.length_map]
  refine ⟨xs, e, hxl, fun i hi => ?_⟩
  have hm : xs.getD i 0 ∈ xs := by
    rw [List.getD_eq_getElem?_getD, List.getElem?_eq_getElem (by omega)]
    simp
  have := bounds_u8 (hx _ hm)
  omega

theorem split_at {L l : List Value} {a n : Nat} (h : (L.drop a).take n = l) (b : Nat) (hb : a + n = b) : L.drop a = l ++ L.drop b := by
  rw [← h, ← hb, ← List.drop_drop]
  exact (List.take_append_drop n _).symm

/-- WHATEVER READS AS A ZChange. -/
theorem chg_of {v : Value} {fuel : Nat} {x : DataW H × List MemPlace} {cs : Array Value} (hv : v = .agg cs) (h : DataW.trod enc Try.prog w base sp held fuel 29 v.cells.toList = some x) :
    ∃ (c : Chg) (xs ys : List Int), v = c.val ∧ IsRef c.eref xs ∧ IsRef c.vref ys ∧ ProvAt w c.ep ∧ ProvAt w c.vp := by
  subst hv
  have h : DataW.trod enc Try.prog w base sp held fuel 29 cs.toList = some x := h
  have hL := len_of Try.underlying29 h
  rw [c29] at hL
  obtain ⟨_, _, f0⟩ := field_of Try.underlying29 h 0 9 0 rfl 1 c9
  obtain ⟨_, _, f1⟩ := field_of Try.underlying29 h 1 3 1 rfl 1 c3
  obtain ⟨_, _, f2⟩ := field_of Try.underlying29 h 2 9 2 rfl 1 c9
  obtain ⟨_, _, f3⟩ := field_of Try.underlying29 h 3 25 3 rfl 38 c25
  obtain ⟨_, _, f4⟩ := field_of Try.underlying29 h 4 27 41 rfl 37 c27
  obtain ⟨kind, e0, _⟩ := str_of Try.underlying9 f0
  obtain ⟨pos, e1, _⟩ := int_of Try.underlying3 f1
  obtain ⟨name, e2, _⟩ := str_of Try.underlying9 f2
  generalize he : (cs.toList.drop 3).take 38 = E at f3
  generalize hw : (cs.toList.drop 41).take 37 = V at f4
  have lE := len_of Try.underlying25 f3
  have lV := len_of Try.underlying27 f4
  rw [c25] at lE
  rw [c27] at lV
  obtain ⟨_, _, g0⟩ := field_of Try.underlying25 f3 0 9 0 rfl 1 c9
  obtain ⟨_, _, g1⟩ := field_of Try.underlying25 f3 1 9 1 rfl 1 c9
  obtain ⟨_, _, g2⟩ := field_of Try.underlying25 f3 2 9 2 rfl 1 c9
  obtain ⟨_, _, g3⟩ := field_of Try.underlying25 f3 3 22 3 rfl 1 c22
  obtain ⟨_, _, g4⟩ := field_of Try.underlying25 f3 4 23 4 rfl 32 c23
  obtain ⟨_, _, g5⟩ := field_of Try.underlying25 f3 5 3 36 rfl 1 c3
  obtain ⟨_, _, g6⟩ := field_of Try.underlying25 f3 6 3 37 rfl 1 c3
  obtain ⟨subj, i0, _⟩ := str_of Try.underlying9 g0
  obtain ⟨pred, i1, _⟩ := str_of Try.underlying9 g1
  obtain ⟨obj, i2, _⟩ := str_of Try.underlying9 g2
  obtain ⟨ep, i3, hep⟩ := prov_of g3
  obtain ⟨xs, hxs⟩ := ref_of g4
  generalize i4 : (E.drop 4).take 32 = eref at hxs
  obtain ⟨epos, i5, _⟩ := int_of Try.underlying3 g5
  obtain ⟨etomb, i6, _⟩ := int_of Try.underlying3 g6
  obtain ⟨_, _, k0⟩ := field_of Try.underlying27 f4 0 9 0 rfl 1 c9
  obtain ⟨_, _, k1⟩ := field_of Try.underlying27 f4 1 23 1 rfl 32 c23
  obtain ⟨_, _, k2⟩ := field_of Try.underlying27 f4 2 22 33 rfl 1 c22
  obtain ⟨_, _, k3⟩ := field_of Try.underlying27 f4 3 3 34 rfl 1 c3
  obtain ⟨_, _, k4⟩ := field_of Try.underlying27 f4 4 3 35 rfl 1 c3
  obtain ⟨_, _, k5⟩ := field_of Try.underlying27 f4 5 3 36 rfl 1 c3
  obtain ⟨vname, j0, _⟩ := str_of Try.underlying9 k0
  obtain ⟨ys, hys⟩ := ref_of k1
  generalize j1 : (V.drop 1).take 32 = vref at hys
  obtain ⟨vp, j2, hvp⟩ := prov_of k2
  obtain ⟨num, j3, _⟩ := int_of Try.underlying3 k3
  obtain ⟨vpos, j4, _⟩ := int_of Try.underlying3 k4
  obtain ⟨vtomb, j5, _⟩ := int_of Try.underlying3 k5
  have hE : E = [Value.string subj] ++ ([Value.string pred] ++ ([Value.string obj] ++ ([Value.pointer ep] ++ (eref ++ ([Value.int .i64 epos] ++ ([Value.int .i64 etomb] ++ [])))))) := by
    have z : E.drop 38 = [] := List.drop_eq_nil_of_le (by omega)
    show E.drop 0 = _
    rw [split_at i0 1 rfl, split_at i1 2 rfl, split_at i2 3 rfl, split_at i3 4 rfl, split_at i4 36 rfl, split_at i5 37 rfl, split_at i6 38 rfl, z]
  have hV : V = [Value.string vname] ++ (vref ++ ([Value.pointer vp] ++ ([Value.int .i64 num] ++ ([Value.int .i64 vpos] ++ ([Value.int .i64 vtomb] ++ []))))) := by
    have z : V.drop 37 = [] := List.drop_eq_nil_of_le (by omega)
    show V.drop 0 = _
    rw [split_at j0 1 rfl, split_at j1 33 rfl, split_at j2 34 rfl, split_at j3 35 rfl, split_at j4 36 rfl, split_at j5 37 rfl, z]
  have hC : cs.toList = [Value.string kind] ++ ([Value.int .i64 pos] ++ ([Value.string name] ++ (E ++ (V ++ [])))) := by
    have z : cs.toList.drop 78 = [] := List.drop_eq_nil_of_le (by omega)
    show cs.toList.drop 0 = _
    rw [split_at e0 1 rfl, split_at e1 2 rfl, split_at e2 3 rfl, split_at he 41 rfl, split_at hw 78 rfl, z]
  refine ⟨⟨kind, pos, name, subj, pred, obj, ep, eref, epos, etomb, vname, vref, vp, num, vpos, vtomb⟩, xs, ys, ?_, hxs, hys, hep, hvp⟩
  unfold Chg.val Chg.cells
  rw [hE, hV] at hC
  congr 1
  rw [← Array.toArray_toList (xs := cs), hC]
  simp
end
end Go.Proofs.Qxb6625833a
