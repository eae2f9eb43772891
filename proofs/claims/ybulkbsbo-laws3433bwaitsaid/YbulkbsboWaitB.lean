/-
  Walks under LawS3433BWait: hasFailed (41), avoids (36). Own work.
-/
import Derived.Test.YbulkbsboWaitA
namespace Go.Proofs.Ybulkbsbo
set_option linter.unusedVariables false
open Go.RowKit Go.Maps

/-- How an error in a map reads here: is it nil? -/
def errElem : Value → Option (DataW Unit × List MemPlace)
  | .nilIface => some (.lit (.bool false), [])
  | .iface _ _ => some (.lit (.bool true), [])
  | _ => none

theorem key3 : Keyed Yba.prog 3 := int_keyed Yba.underlying3
theorem zero70 (w : World) : (zeroValue 70).run Yba.prog w = .ok .nilIface w := by kernel_rfl
theorem zero4 (w : World) : (zeroValue 4).run Yba.prog w = .ok (.bool false) w := by kernel_rfl

theorem plainElem_bool_inv {P : Program} {e : TypeId} (he : P.underlying e = some .bool) {v : Value} {z : DataW Unit × List MemPlace} (h : plainElem P e v = some z) : ∃ x, v = .bool x ∧ z = (.lit (.bool x), []) := by
  unfold plainElem at h
  split at h
  · cases h; exact ⟨_, rfl, rfl⟩
  · rename_i hq
    rw [he] at hq
    cases hq
  · rename_i hq
    rw [he] at hq
    cases hq
  · cases h

/-- The record at block R: the failed and the slow keys. -/
structure RecAt (w : World) (R M2 M3 : Nat) (fl sl : Int → Bool) : Prop where
  r1 : w.cell? ⟨R, 1, none⟩ = some (.map (some M2))
  r2 : w.cell? ⟨R, 2, none⟩ = some (.map (some M3))
  m2 : ∃ n D, w.ownsMap Yba.prog 3 errElem M2 n D ∧ ∀ x, Maps.has D (.int .i64 x) = fl x
  m3 : ∃ n D, w.ownsMap Yba.prog 3 (plainElem (H := Unit) Yba.prog 4) M3 n D ∧ ∀ x, D.atKey (.int .i64 x) (.lit (.bool false)) = .lit (.bool (sl x))

theorem RecAt.kept {w w' : World} {R M2 M3 : Nat} {fl sl : Int → Bool} (h : RecAt w R M2 M3 fl sl) (hb : Below w.heap.size w w') : RecAt w' R M2 M3 fl sl where
  r1 := cell_kept hb h.r1
  r2 := cell_kept hb h.r2
  m2 := by
    obtain ⟨n, D, ho, hh⟩ := h.m2
    obtain ⟨es, clock, h1, h2⟩ := ho
    have hlt := World.ownsMap.lt ⟨es, clock, h1, h2⟩
    exact ⟨n, D, ⟨es, clock, (hb.block _ hlt).trans h1, h2⟩, hh⟩
  m3 := by
    obtain ⟨n, D, ho, hh⟩ := h.m3
    obtain ⟨es, clock, h1, h2⟩ := ho
    have hlt := World.ownsMap.lt ⟨es, clock, h1, h2⟩
    exact ⟨n, D, ⟨es, clock, (hb.block _ hlt).trans h1, h2⟩, hh⟩

theorem RecAt.setCell {w : World} {R M2 M3 : Nat} {fl sl : Int → Bool} (h : RecAt w R M2 M3 fl sl) {c : Nat} (hR : R ≠ c) (h2 : M2 ≠ c) (h3 : M3 ≠ c) (v : Value) : RecAt (w.setCell ⟨c, 0, none⟩ v) R M2 M3 fl sl where
  r1 := (World.cell?_setCell_other _ _ _ _ (by intro e; injection e with e1; exact hR e1.symm)).trans h.r1
  r2 := (World.cell?_setCell_other _ _ _ _ (by intro e; injection e with e1; exact hR e1.symm)).trans h.r2
  m2 := by
    obtain ⟨n, D, ho, hh⟩ := h.m2
    exact ⟨n, D, ho.setCell h2 _, hh⟩
  m3 := by
    obtain ⟨n, D, ho, hh⟩ := h.m3
    exact ⟨n, D, ho.setCell h3 _, hh⟩

theorem RecAt.look1 {w : World} {R M2 M3 : Nat} {fl sl : Int → Bool} (h : RecAt w R M2 M3 fl sl) {p : Int} (hp : (Lit.int .i64 p).wf = true) :
    ∃ v, (Instr.lookup 50 (.map (some M2)) (.int .i64 p) true).run Yba.prog w = .ok (.tuple #[v, .bool (fl p)]) w := by
  obtain ⟨n, D, ho, hh⟩ := h.m2
  obtain ⟨v, ps, hrun, _⟩ := ho.look_ok key3 Yba.underlying50 (zero70 w) (zd := .lit (.bool false)) (zp := []) rfl (keyOf_int_mk Yba.underlying3 hp)
  rw [hh] at hrun
  exact ⟨v, hrun⟩

theorem RecAt.look2 {w : World} {R M2 M3 : Nat} {fl sl : Int → Bool} (h : RecAt w R M2 M3 fl sl) {p : Int} (hp : (Lit.int .i64 p).wf = true) :
    (Instr.lookup 49 (.map (some M3)) (.int .i64 p) false).run Yba.prog w = .ok (.bool (sl p)) w := by
  obtain ⟨n, D, ho, hh⟩ := h.m3
  obtain ⟨v, ps, hrun, hv⟩ := ho.lookup key3 Yba.underlying49 (zero4 w) (plainElem_bool Yba.underlying4 false) (keyOf_int_mk Yba.underlying3 hp)
  rw [hh] at hv
  obtain ⟨x, rfl, hx⟩ := plainElem_bool_inv Yba.underlying4 hv
  simp only [Prod.mk.injEq, DataW.lit.injEq, Lit.bool.injEq] at hx
  rw [hrun, hx.1]

theorem hasFailed_any (O R M2 M3 : Nat) (fl sl : Int → Bool) (p : Int) (w : World) (hO : w.cell? ⟨O, 7, none⟩ = some (.pointer (some ⟨R, 0, none⟩))) (hr : RecAt w R M2 M3 fl sl) (hp : (Lit.int .i64 p).wf = true) :
    Calls Yba.prog 41 #[.pointer (some ⟨O, 0, none⟩), .int .i64 p] w fun e w' => e = .returned (.bool (fl p)) ∧ w' = w := by
  obtain ⟨v, hl⟩ := hr.look1 hp
  have h1 := hr.r1
  clear hr
  go_enter Yba.func41, Yba.ntmps41
  go_wp2
  go_ret
  exact ⟨rfl, rfl⟩

theorem avoids_any (O R M2 M3 : Nat) (fl sl : Int → Bool) (p : Int) (w : World) (hO : w.cell? ⟨O, 7, none⟩ = some (.pointer (some ⟨R, 0, none⟩))) (hr : RecAt w R M2 M3 fl sl) (hp : (Lit.int .i64 p).wf = true) :
    Calls Yba.prog 36 #[.pointer (some ⟨O, 0, none⟩), .int .i64 p] w fun e w' => e = .returned (.bool (fl p || sl p)) ∧ w' = w := by
  have hl := hr.look2 hp
  have h2 := hr.r2
  cases hf : fl p with
  | true =>
    go_enter Yba.func36, Yba.ntmps36
    go_wp2_with fail
    refine (hasFailed_any O R M2 M3 fl sl p w hO hr hp).mono ?_
    rintro e w' ⟨rfl, rfl⟩
    rw [hf]
    go_wp2
    go_ret
    exact ⟨rfl, rfl⟩
  | false =>
    go_enter Yba.func36, Yba.ntmps36
    go_wp2_with fail
    refine (hasFailed_any O R M2 M3 fl sl p w hO hr hp).mono ?_
    rintro e w' ⟨rfl, rfl⟩
    rw [hf]
    go_wp2
    go_ret
    exact ⟨rfl, rfl⟩

end Go.Proofs.Ybulkbsbo
