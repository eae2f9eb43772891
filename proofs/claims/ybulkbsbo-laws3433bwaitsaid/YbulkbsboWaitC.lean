/-
  Walks under LawS3433BWait: the law's own picker (18), quorum (35), the fetching op's waitOnSlow (34). Own work.
-/
import Derived.Test.YbulkbsboWaitB
namespace Go.Proofs.Ybulkbsbo
set_option linter.unusedVariables false
open Go.RowKit Go.Maps

/-- What the picker finds: the candidates' box C, its counter Cv at 0, the op O over the record R. -/
structure Ready (w : World) (O R M2 M3 C Cv : Nat) (a : Option Addr) (len cap : Nat) (zs : Nat → Int) (fl sl : Int → Bool) : Prop where
  hv : w.cell? ⟨Cv, 0, none⟩ = some (.int .i64 0)
  hz : w.frozen? ⟨Cv, 0, none⟩ = false
  hC : w.cell? ⟨C, 0, none⟩ = some (.slice a len cap)
  hO : w.cell? ⟨O, 7, none⟩ = some (.pointer (some ⟨R, 0, none⟩))
  hP : w.cell? ⟨O, 2, none⟩ = some (.func (.func 18) #[] #[.pointer (some ⟨Cv, 0, none⟩), .pointer (some ⟨C, 0, none⟩)])
  hr : RecAt w R M2 M3 fl sl
  hi : 0 < len → ∃ b o, a = some ⟨b, o, none⟩ ∧ b < Cv ∧ ∀ i, i < len → w.cell? ⟨b, o + i, none⟩ = some (.int .i64 (zs i))
  hm : len ≤ 1024
  wf : ∀ i, i < len → (Lit.int .i64 (zs i)).wf = true
  nC : C ≠ Cv
  nO : O ≠ Cv
  nR : R ≠ Cv
  n2 : M2 ≠ Cv
  n3 : M3 ≠ Cv

theorem other_cell {w : World} {c b o : Nat} {v u : Value} (h : w.cell? ⟨b, o, none⟩ = some u) (hne : b ≠ c) : (w.setCell ⟨c, 0, none⟩ v).cell? ⟨b, o, none⟩ = some u :=
  (World.cell?_setCell_other _ _ _ _ (by intro e; injection e with e1; exact hne e1.symm)).trans h

theorem counted {w : World} {Cv : Nat} (h : w.cell? ⟨Cv, 0, none⟩ = some (.int .i64 0)) : (w.setCell ⟨Cv, 0, none⟩ (.int .i64 1)).cell? ⟨Cv, 0, none⟩ = some (.int .i64 1) := World.cell?_setCell_same _ _ _ h

theorem counted_below (w : World) (Cv : Nat) (v : Value) : Below Cv w (w.setCell ⟨Cv, 0, none⟩ v) := (Below.refl Cv w).setCell (p := ⟨Cv, 0, none⟩) (Nat.le_refl _) v

theorem own_zero (O R M2 M3 C Cv cap : Nat) (a : Option Addr) (zs : Nat → Int) (fl sl : Int → Bool) (g : Fn) (gs gc : Array Value) (w : World) (h : Ready w O R M2 M3 C Cv a 0 cap zs fl sl) :
    Calls Yba.prog 18 #[.func (.func 36) #[.pointer (some ⟨O, 0, none⟩)] #[], .func g gs gc, .pointer (some ⟨Cv, 0, none⟩), .pointer (some ⟨C, 0, none⟩)] w
      fun e w' => e = .returned (.slice none 0 0) ∧ w'.cell? ⟨Cv, 0, none⟩ = some (.int .i64 1) ∧ Below Cv w w' := by
  obtain ⟨hv, hz, hC, hO, hP, hr, hi, hm, wf, nC, nO, nR, n2, n3⟩ := h
  have hC' : (w.setCell ⟨Cv, 0, none⟩ (.int .i64 1)).cell? ⟨C, 0, none⟩ = some (.slice a 0 cap) := other_cell hC nC
  clear hi wf hr hP
  go_enter Yba.func18, Yba.ntmps18
  go_wp2
  refine wp_loop_rounds 1 ?_
  rw [rounds_succ]
  go_wp2
  go_ret
  exact ⟨rfl, counted hv, counted_below _ _ _⟩

set_option maxHeartbeats 400000 in
theorem own_none (O R M2 M3 C Cv len cap b o : Nat) (zs : Nat → Int) (fl sl : Int → Bool) (g : Fn) (gs gc : Array Value) (w : World) (h : Ready w O R M2 M3 C Cv (some ⟨b, o, none⟩) len cap zs fl sl) (hp : 0 < len)
    (hall : ∀ i, i < len → (fl (zs i) || sl (zs i)) = true) :
    Calls Yba.prog 18 #[.func (.func 36) #[.pointer (some ⟨O, 0, none⟩)] #[], .func g gs gc, .pointer (some ⟨Cv, 0, none⟩), .pointer (some ⟨C, 0, none⟩)] w
      fun e w' => e = .returned (.slice none 0 0) ∧ w'.cell? ⟨Cv, 0, none⟩ = some (.int .i64 1) ∧ Below Cv w w' := by
  obtain ⟨hv, hz, hC, hO, hP, hr, hi, hm, wf, nC, nO, nR, n2, n3⟩ := h
  obtain ⟨b', o', e, hlt, hc⟩ := hi hp
  simp only [Option.some.injEq, Addr.mk.injEq, and_true] at e
  obtain ⟨rfl, rfl⟩ := e
  have hC' : (w.setCell ⟨Cv, 0, none⟩ (.int .i64 1)).cell? ⟨C, 0, none⟩ = some (.slice (some ⟨b, o, none⟩) len cap) := other_cell hC nC
  have hO' : (w.setCell ⟨Cv, 0, none⟩ (.int .i64 1)).cell? ⟨O, 7, none⟩ = some (.pointer (some ⟨R, 0, none⟩)) := other_cell hO nO
  have hr' := hr.setCell nR n2 n3 (.int .i64 1)
  have hc' : ∀ i, i < len → (w.setCell ⟨Cv, 0, none⟩ (.int .i64 1)).cell? ⟨b, o + i, none⟩ = some (.int .i64 (zs i)) := fun i hi => other_cell (hc i hi) (by omega)
  clear hc hr hO hP
  go_enter Yba.func18, Yba.ntmps18
  go_wp2
  go_loop [13] (fun i => ∃ k : Nat, k ≤ len ∧ i = .int .i64 k) (fun i => len - (intOf i).toNat)
  case atStart => exact ⟨0, Nat.zero_le _, rfl⟩
  case round =>
    obtain ⟨k, hk, rfl⟩ := hrel
    by_cases hlt : k < len
    · have c1 := hc' k hlt
      have hlk := hall k hlt
      have hwk := wf k hlt
      go_wp2_with fail
      refine (avoids_any O R M2 M3 fl sl (zs k) _ hO' hr' hwk).mono ?_
      rintro e w' ⟨rfl, rfl⟩
      rw [hlk]
      go_wp2
      go_round
      case rel => exact ⟨k + 1, by omega, by go_num⟩
      case measure => simp [intOf]; omega
    · go_wp2
      go_ret
      exact ⟨rfl, counted hv, counted_below _ _ _⟩

set_option maxHeartbeats 400000 in
theorem own_some (O R M2 M3 C Cv len cap b o : Nat) (zs : Nat → Int) (fl sl : Int → Bool) (g : Fn) (gs gc : Array Value) (w : World) (h : Ready w O R M2 M3 C Cv (some ⟨b, o, none⟩) len cap zs fl sl) (hp : 0 < len)
    (m : Nat) (hml : m < len) (hmf : (fl (zs m) || sl (zs m)) = false) (hall : ∀ i, i < m → (fl (zs i) || sl (zs i)) = true) :
    Calls Yba.prog 18 #[.func (.func 36) #[.pointer (some ⟨O, 0, none⟩)] #[], .func g gs gc, .pointer (some ⟨Cv, 0, none⟩), .pointer (some ⟨C, 0, none⟩)] w
      fun e w' => (∃ x, e = .returned (.slice (some x) 1 1)) ∧ w'.cell? ⟨Cv, 0, none⟩ = some (.int .i64 1) ∧ Below Cv w w' := by
  obtain ⟨hv, hz, hC, hO, hP, hr, hi, hm, wf, nC, nO, nR, n2, n3⟩ := h
  obtain ⟨b', o', e, hlt, hc⟩ := hi hp
  simp only [Option.some.injEq, Addr.mk.injEq, and_true] at e
  obtain ⟨rfl, rfl⟩ := e
  have hC' : (w.setCell ⟨Cv, 0, none⟩ (.int .i64 1)).cell? ⟨C, 0, none⟩ = some (.slice (some ⟨b, o, none⟩) len cap) := other_cell hC nC
  have hO' : (w.setCell ⟨Cv, 0, none⟩ (.int .i64 1)).cell? ⟨O, 7, none⟩ = some (.pointer (some ⟨R, 0, none⟩)) := other_cell hO nO
  have hr' := hr.setCell nR n2 n3 (.int .i64 1)
  have hc' : ∀ i, i < len → (w.setCell ⟨Cv, 0, none⟩ (.int .i64 1)).cell? ⟨b, o + i, none⟩ = some (.int .i64 (zs i)) := fun i hi => other_cell (hc i hi) (by omega)
  clear hc hr hO hP
  go_enter Yba.func18, Yba.ntmps18
  go_wp2
  go_loop [13] (fun i => ∃ k : Nat, k ≤ m ∧ i = .int .i64 k) (fun i => len - (intOf i).toNat)
  case atStart => exact ⟨0, Nat.zero_le _, rfl⟩
  case round =>
    obtain ⟨k, hk, rfl⟩ := hrel
    by_cases hlt : k < m
    · have c1 := hc' k (by omega)
      have hlk := hall k hlt
      have hwk := wf k (by omega)
      go_wp2_with fail
      refine (avoids_any O R M2 M3 fl sl (zs k) _ hO' hr' hwk).mono ?_
      rintro e w' ⟨rfl, rfl⟩
      rw [hlk]
      go_wp2
      go_round
      case rel => exact ⟨k + 1, by omega, by go_num⟩
      case measure => simp [intOf]; omega
    · obtain rfl : k = m := by omega
      have c1 := hc' k hml
      have hwk := wf k hml
      go_wp2_with fail
      refine (avoids_any O R M2 M3 fl sl (zs k) _ hO' hr' hwk).mono ?_
      rintro e w' ⟨rfl, rfl⟩
      rw [hmf]
      go_wp2
      go_ret
      exact ⟨⟨_, rfl⟩, cell_kept ((Below.refl _ _).alloc (Nat.le_refl _) _) (counted hv), (counted_below w Cv _).alloc (by have := cell_lt hv; simp [World.setCell] at this ⊢; omega) _⟩

end Go.Proofs.Ybulkbsbo
