/-
  Walks under LawS3433BPick: the fetching op's picker (31), slices.Clone (12), slices.Equal (16). Own work.
-/
import Derived.Test.YbulkbsboPickA
import Derived.Laws.EntriesVeiled
namespace Go.Proofs.Ybulkbsbo
set_option linter.unusedVariables false
open Go.RowKit

theorem pick_zero (Hb cap : Nat) (a : Option Addr) (f g : Fn) (fs fc gs gc : Array Value) (w : World) (hH : w.cell? ⟨Hb, 0, none⟩ = some (.slice a 0 cap)) :
    Calls Yba.prog 31 #[.func f fs fc, .func g gs gc, .pointer (some ⟨Hb, 0, none⟩)] w fun e w' => e = .returned (.slice none 0 0) ∧ Below w.heap.size w w' := by
  have hlt := cell_lt hH
  have hmf : ∀ (fn : Fn) (first cap : Array Value) (w : World), (Instr.makeFunc fn first cap).run Yba.prog w = .ok (.func fn first cap) w := fun _ _ _ _ => rfl
  go_enter Yba.func31, Yba.ntmps31
  go_wp2_with fail
  refine (idx_zero a cap 0 _ _).mono ?_
  rintro e w1 ⟨rfl, hb⟩
  go_wp2
  go_ret
  exact ⟨rfl, ((Below.refl _ _).alloc (Nat.le_refl _) _).trans (hb.mono (by simp))⟩

theorem OutAt.alloc {w : World} {B len : Nat} {bs : Nat → Bool} (h : OutAt w B len bs) (o : Obj) : OutAt (w.alloc o) B len bs := h.kept ((Below.refl _ _).alloc (Nat.le_refl _) _)

theorem pick_none (b o len cap Hb B ol : Nat) (bs : Nat → Bool) (zs : Nat → Int) (g : Fn) (gs gc : Array Value) (w : World) (hH : w.cell? ⟨Hb, 0, none⟩ = some (.slice (some ⟨b, o, none⟩) len cap)) (hlen : 0 < len) (hm : len ≤ 1024)
    (hz : ∀ i, i < len → w.cell? ⟨b, o + i, none⟩ = some (.int .i64 (zs i))) (h : OutAt w B ol bs) (hom : ol ≤ 1024) (hall : ∀ i, i < len → leftB ol bs (zs i) = true) :
    Calls Yba.prog 31 #[.func (.func 14) #[] #[.pointer (some ⟨B, 0, none⟩)], .func g gs gc, .pointer (some ⟨Hb, 0, none⟩)] w fun e w' => e = .returned (.slice none 0 0) ∧ Below w.heap.size w w' := by
  have hlt := cell_lt hH
  have hmf : ∀ (fn : Fn) (first cap : Array Value) (w : World), (Instr.makeFunc fn first cap).run Yba.prog w = .ok (.func fn first cap) w := fun _ _ _ _ => rfl
  have hb0 := fun (o : Obj) => (Below.refl w.heap.size w).alloc (Nat.le_refl _) o
  go_enter Yba.func31, Yba.ntmps31
  go_wp2_with fail
  refine (idx_none b o len cap w.heap.size B ol bs zs _ hlen hm (fun i hi => cell_kept (hb0 _) (hz i hi)) (by simp) (h.alloc _) hom hall).mono ?_
  rintro e w1 ⟨rfl, hb⟩
  go_wp2
  go_ret
  exact ⟨rfl, ((Below.refl _ _).alloc (Nat.le_refl _) _).trans (hb.mono (by simp))⟩

theorem pick_some (b o len cap Hb B ol : Nat) (bs : Nat → Bool) (zs : Nat → Int) (g : Fn) (gs gc : Array Value) (w : World) (hH : w.cell? ⟨Hb, 0, none⟩ = some (.slice (some ⟨b, o, none⟩) len cap)) (hlen : 0 < len) (hm : len ≤ 1024)
    (hz : ∀ i, i < len → w.cell? ⟨b, o + i, none⟩ = some (.int .i64 (zs i))) (h : OutAt w B ol bs) (hom : ol ≤ 1024) (m : Nat) (hml : m < len) (hmf : leftB ol bs (zs m) = false) (hall : ∀ i, i < m → leftB ol bs (zs i) = true) :
    Calls Yba.prog 31 #[.func (.func 14) #[] #[.pointer (some ⟨B, 0, none⟩)], .func g gs gc, .pointer (some ⟨Hb, 0, none⟩)] w fun e w' => ∃ k : Nat, e = .returned (.slice (some ⟨k, 0, none⟩) 1 1) ∧ w'.cell? ⟨k, 0, none⟩ = some (.int .i64 (zs m)) ∧ Below w.heap.size w w' := by
  have hlt := cell_lt hH
  have hmk : ∀ (fn : Fn) (first cap : Array Value) (w : World), (Instr.makeFunc fn first cap).run Yba.prog w = .ok (.func fn first cap) w := fun _ _ _ _ => rfl
  have hb0 := fun (o : Obj) => (Below.refl w.heap.size w).alloc (Nat.le_refl _) o
  go_enter Yba.func31, Yba.ntmps31
  go_wp2_with fail
  refine (idx_some b o len cap w.heap.size B ol bs zs _ hlen hm (fun i hi => cell_kept (hb0 _) (hz i hi)) (by simp) (h.alloc _) hom m hml hmf hall).mono ?_
  rintro e w1 ⟨rfl, hb⟩
  have hb1 := (hb0 _).trans (hb.mono (by simp))
  have c1 := cell_kept hb1 hH
  have c2 := cell_kept hb1 (hz m hml)
  go_wp2
  go_ret
  exact ⟨w1.heap.size, rfl, by simp, hb1.alloc hb1.size _⟩

end Go.Proofs.Ybulkbsbo
