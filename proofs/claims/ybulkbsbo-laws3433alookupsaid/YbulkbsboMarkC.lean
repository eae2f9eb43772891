/-
  The walk over (*replacedMarks).note (10) on a fresh receiver. Own work.
-/
import Derived.Test.YbulkbsboMarkB
namespace Go.Proofs.Ybulkbsbo
set_option linter.unusedVariables false
open Go.RowKit Go.Maps Go.MuLone Go.WideMaps

theorem note_owns (w : World) (r : Nat) (c x : Int) : (((((w.setCell ⟨r, 0, none⟩ (.int .i32 1)).setCell ⟨r, 2, none⟩ (.map (some (w.heap.size + 1 + 1)))).alloc (.cells #[.int .u64 c, .int .u64 x] 38)).alloc (.cells #[.int .u64 0, .int .u64 0] 38)).alloc (.map #[] 0)).ownsMap Yba.prog 9 verElem (w.heap.size + 1 + 1) 0 (.map []) := by
  have h := World.ownsMap_made ((((w.setCell ⟨r, 0, none⟩ (.int .i32 1)).setCell ⟨r, 2, none⟩ (.map (some (w.heap.size + 1 + 1)))).alloc (.cells #[.int .u64 c, .int .u64 x] 38)).alloc (.cells #[.int .u64 0, .int .u64 0] 38)) Yba.prog 9 verElem
  simpa [size_setCell] using h

theorem note_len (w : World) (r : Nat) (c x : Int) : (Builtin.len_ #[32] 3 #[.map (some (w.heap.size + 1 + 1))]).run Yba.prog (((((w.setCell ⟨r, 0, none⟩ (.int .i32 1)).setCell ⟨r, 2, none⟩ (.map (some (w.heap.size + 1 + 1)))).alloc (.cells #[.int .u64 c, .int .u64 x] 38)).alloc (.cells #[.int .u64 0, .int .u64 0] 38)).alloc (.map #[] 0)) = .ok (.int .i64 0) (((((w.setCell ⟨r, 0, none⟩ (.int .i32 1)).setCell ⟨r, 2, none⟩ (.map (some (w.heap.size + 1 + 1)))).alloc (.cells #[.int .u64 c, .int .u64 x] 38)).alloc (.cells #[.int .u64 0, .int .u64 0] 38)).alloc (.map #[] 0)) := by
  have h := (note_owns w r c x).len Yba.underlying32 3
  exact h

theorem note_below (w : World) (r : Nat) (c x : Int) : Below w.heap.size ((w.setCell ⟨r, 0, none⟩ (.int .i32 1)).setCell ⟨r, 2, none⟩ (.map (some (w.heap.size + 1 + 1)))) (((((w.setCell ⟨r, 0, none⟩ (.int .i32 1)).setCell ⟨r, 2, none⟩ (.map (some (w.heap.size + 1 + 1)))).alloc (.cells #[.int .u64 c, .int .u64 x] 38)).alloc (.cells #[.int .u64 0, .int .u64 0] 38)).alloc (.map #[] 0)) :=
  (((Below.refl _ _).alloc (by simp) _).alloc (by simp) _).alloc (by simp; omega) _

theorem note_end {w w1 : World} {r : Nat} {c x : Int} (c0 : w.cell? ⟨r, 0, none⟩ = some (.int .i32 0)) (f0 : w.frozen? ⟨r, 0, none⟩ = false) (c2 : w.cell? ⟨r, 2, none⟩ = some (.map none)) (hg : (((((w.setCell ⟨r, 0, none⟩ (.int .i32 1)).setCell ⟨r, 2, none⟩ (.map (some (w.heap.size + 1 + 1)))).alloc (.cells #[.int .u64 c, .int .u64 x] 38)).alloc (.cells #[.int .u64 0, .int .u64 0] 38)).alloc (.map #[] 0)).drew.grownBy w1 (some (w.heap.size + 1 + 1))) :
    w1.cell? ⟨r, 0, none⟩ = some (.int .i32 1) ∧ w1.cell? ⟨r, 2, none⟩ = some (.map (some (w.heap.size + 1 + 1))) ∧ w1.frozen? ⟨r, 0, none⟩ = false ∧ w.grownBy (w1.setCell ⟨r, 0, none⟩ (.int .i32 0)) (some r) := by
  have hlt : r < w.heap.size := below_lt c0
  have hb := note_below w r c x
  have k0 : ((w.setCell ⟨r, 0, none⟩ (.int .i32 1)).setCell ⟨r, 2, none⟩ (.map (some (w.heap.size + 1 + 1)))).cell? ⟨r, 0, none⟩ = some (.int .i32 1) :=
    (World.cell?_setCell_other _ _ _ _ (by simp)).trans (World.cell?_setCell_same _ _ _ c0)
  have k2 : ((w.setCell ⟨r, 0, none⟩ (.int .i32 1)).setCell ⟨r, 2, none⟩ (.map (some (w.heap.size + 1 + 1)))).cell? ⟨r, 2, none⟩ = some (.map (some (w.heap.size + 1 + 1))) :=
    World.cell?_setCell_same _ _ _ ((World.cell?_setCell_other _ _ _ _ (by simp)).trans c2)
  have kf : ((w.setCell ⟨r, 0, none⟩ (.int .i32 1)).setCell ⟨r, 2, none⟩ (.map (some (w.heap.size + 1 + 1)))).frozen? ⟨r, 0, none⟩ = false :=
    (World.frozen?_setCell _ _ _ _).trans ((World.frozen?_setCell _ _ _ _).trans f0)
  have hsz : (((((w.setCell ⟨r, 0, none⟩ (.int .i32 1)).setCell ⟨r, 2, none⟩ (.map (some (w.heap.size + 1 + 1)))).alloc (.cells #[.int .u64 c, .int .u64 x] 38)).alloc (.cells #[.int .u64 0, .int .u64 0] 38)).alloc (.map #[] 0)).drew.heap.size = w.heap.size + 1 + 1 + 1 := by simp
  have hblk : ∀ k, k < w.heap.size → w1.heap[k]? = ((w.setCell ⟨r, 0, none⟩ (.int .i32 1)).setCell ⟨r, 2, none⟩ (.map (some (w.heap.size + 1 + 1)))).heap[k]? := fun k hk =>
    (hg.block k (by rw [hsz]; omega) (fun e => by have := Option.some.inj e; omega)).trans (hb.block k hk)
  refine ⟨(World.cell?_of_block (hblk r hlt)).trans k0, (World.cell?_of_block (hblk r hlt)).trans k2, (World.frozen?_of_block (hblk r hlt)).trans kf, ?_⟩
  refine ⟨hg.os, hg.tape, hg.output, ?_, fun k hk hne => ?_⟩
  · have := hg.size
    rw [hsz] at this
    rw [size_setCell]
    omega
  · have hkr : k ≠ r := fun e => hne (by rw [e])
    rw [Below.heap_setCell _ _ _ _ hkr, hblk k hk, Below.heap_setCell _ _ _ _ hkr, Below.heap_setCell _ _ _ _ hkr]

set_option maxHeartbeats 800000 in
set_option maxRecDepth 100000 in
theorem note_fresh (r : Nat) (s : ByteArray) (c x : Int) (w : World) (hs : s.size ≤ maxLen) (c0 : w.cell? ⟨r, 0, none⟩ = some (.int .i32 0)) (f0 : w.frozen? ⟨r, 0, none⟩ = false) (f2 : w.frozen? ⟨r, 2, none⟩ = false) (c2 : w.cell? ⟨r, 2, none⟩ = some (.map none)) :
    Calls Yba.prog 10 #[.pointer (some ⟨r, 0, none⟩), .string s, .agg #[.int .u64 c, .int .u64 x]] w fun e w' => e = .returned (.tuple #[]) ∧ ∃ bm, bm ≠ r ∧ w.heap.size ≤ bm ∧ w'.ownsMap Yba.prog 9 verElem bm 1 ((DataW.map []).put (.string s.data.toList) (verD c x)) ∧
      w'.cell? ⟨r, 0, none⟩ = some (.int .i32 0) ∧ w'.cell? ⟨r, 2, none⟩ = some (.map (some bm)) ∧ w'.frozen? ⟨r, 0, none⟩ = false ∧ w.grownBy w' (some r) := by
  have hlk := fun (w' : World) => look_nil (w := w') true key9 Yba.underlying32 (zero38 _) (keyOf_string_mk Yba.underlying9 hs)
  have hlt : r < w.heap.size := World.block_lt_of_cell? _ _ c0
  have hlt1 : r < w.heap.size + 1 := by omega
  have hlt2 : r < w.heap.size + 1 + 1 := by omega
  have hlt3 : r < w.heap.size + 1 + 1 + 1 := by omega
  have hmm := @run_makeMap Yba.prog
  have q32 : ∀ (w : World) (r : Option Nat), (binOp .eql 32 (.map r) (.map none)).run Yba.prog w = .ok (.bool r.isNone) w := fun w r => run_eql_map_nil w _ _ _ r Yba.underlying32
  have hb0 := (Below.refl w.heap.size w).alloc (Nat.le_refl _) (.cells #[.int .u64 c, .int .u64 x] 38)
  have c0' : (w.alloc (.cells #[.int .u64 c, .int .u64 x] 38)).cell? ⟨r, 0, none⟩ = some (.int .i32 0) := (hb0.cell (p := ⟨r, 0, none⟩) hlt).trans c0
  have f0' : (w.alloc (.cells #[.int .u64 c, .int .u64 x] 38)).frozen? ⟨r, 0, none⟩ = false := (hb0.frozen (p := ⟨r, 0, none⟩) hlt).trans f0
  have hlen := note_len w r c x
  obtain ⟨w1, hup, hown1, hg1⟩ := (note_owns w r c x).drew.update key9 Yba.underlying32 (by unfold maxLen; omega) (keyOf_string_mk Yba.underlying9 hs) (verElem_mk c x)
  go_enter_defers Yba.func10, Yba.ntmps10
  go_wp2_with fail
  refine (lock_free muLib ⟨r, 0, none⟩ _ c0' f0').mono ?_
  rintro e w' ⟨rfl, rfl⟩
  go_wp2_with fail
  go_region
  obtain ⟨e0, e2, ef, eg⟩ := note_end c0 f0 c2 hg1
  have hne : w.heap.size + 1 + 1 ≠ r := by omega
  go_wp2_with fail
  refine leaves_cons (f := 29) (args := #[.pointer (some ⟨r, 0, none⟩)]) (by simp) (by simp [go_sem]) ?_
  refine (unlock_deferred muLib ⟨r, 0, none⟩ .returning _ e0 ef).mono ?_
  rintro e u' w'' ⟨rfl, rfl, rfl⟩
  exact ⟨_, results_none rfl _ _ _, rfl, w.heap.size + 1 + 1, hne, by omega, hown1.setCell hne _, World.cell?_setCell_same _ _ _ e0, (World.cell?_setCell_other _ _ _ _ (by simp)).trans e2, (World.frozen?_setCell _ _ _ _).trans ef, eg⟩

end Go.Proofs.Ybulkbsbo
