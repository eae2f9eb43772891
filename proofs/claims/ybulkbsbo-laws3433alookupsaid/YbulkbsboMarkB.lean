/-
  Walks over (*replacedMarks).drop (11) and note (10) on a fresh receiver. Own work.
-/
import Derived.Test.YbulkbsboMarkA
import Derived.Deep.RegionHeld3
namespace Go.Proofs.Ybulkbsbo
set_option linter.unusedVariables false
open Go.RowKit Go.Maps Go.MuLone Go.WideMaps

theorem grown_at {w w' : World} {m b o : Nat} {v : Value} (hg : w.grownBy w' (some m)) (hne : b ≠ m) (h : w.cell? ⟨b, o, none⟩ = some v) : w'.cell? ⟨b, o, none⟩ = some v := by
  have hlt : b < w.heap.size := below_lt h
  have hb := hg.block b hlt (fun e => hne (by injection e))
  rw [World.cell?_of_block (w := w) (a := ⟨b, o, none⟩) hb]
  exact h

theorem setCell_at {w1 w2 : World} {a : Addr} {v : Value} {k : Nat} (h : w1.heap[k]? = w2.heap[k]?) : (w1.setCell a v).heap[k]? = (w2.setCell a v).heap[k]? := by
  simp only [World.setCell, Array.getElem?_modify, h]

/-- A lock taken, something turned elsewhere, the lock let go. -/
theorem grown_relock {w w1 : World} {r : Nat} {u v : Value} {row : Option Nat} (h : w.cell? ⟨r, 0, none⟩ = some v) (hg : (w.setCell ⟨r, 0, none⟩ u).grownBy w1 row) (hr : some r ≠ row) : w.grownBy (w1.setCell ⟨r, 0, none⟩ v) row := by
  have hb := setCell_back (u := u) h w.heap.size
  refine ⟨hg.os, hg.tape, hg.output, ?_, fun k hk hne => ?_⟩
  · have := hg.size
    rw [size_setCell] at this
    rw [size_setCell]
    exact this
  · have h1 := hg.block k (by rw [size_setCell]; exact hk) hne
    rw [setCell_at (w2 := w.setCell ⟨r, 0, none⟩ u) h1]
    exact hb.block k hk

set_option maxHeartbeats 800000 in
theorem drop_map (r bm n : Nat) (D : DataW Unit) (s : ByteArray) (w : World) (hs : s.size ≤ maxLen) (c0 : w.cell? ⟨r, 0, none⟩ = some (.int .i32 0)) (f0 : w.frozen? ⟨r, 0, none⟩ = false) (c2 : w.cell? ⟨r, 2, none⟩ = some (.map (some bm)))
    (hne : bm ≠ r) (hown : w.ownsMap Yba.prog 9 verElem bm n D) :
    Calls Yba.prog 11 #[.pointer (some ⟨r, 0, none⟩), .string s] w fun e w' => e = .returned (.tuple #[]) ∧ w'.ownsMap Yba.prog 9 verElem bm n (D.del (.string s.data.toList)) ∧ w.grownBy w' (some bm) := by
  have hlt : r < w.heap.size := World.block_lt_of_cell? _ _ c0
  have hown1 := hown.setCell (a := ⟨r, 0, none⟩) hne (.int .i32 1)
  have hkey := keyOf_string_mk Yba.underlying9 hs
  have c2' : (w.setCell ⟨r, 0, none⟩ (.int .i32 1)).cell? ⟨r, 2, none⟩ = some (.map (some bm)) := (World.cell?_setCell_other _ _ _ _ (by simp)).trans c2
  go_enter_defers Yba.func11, Yba.ntmps11
  go_wp2_with (first
    | (go_at_call 28; refine (lock_free muLib ⟨r, 0, none⟩ _ c0 f0).mono ?_; rintro e w' ⟨rfl, rfl⟩)
    | (at_delete; refine wpList_delete_own _ rfl _ _ 32 9 rfl 38 key9 Yba.underlying32 verElem bm n D rfl hown1 _ _ rfl hkey ?_; intro w1 hown2 hturn1))
  have d1 : w1.cell? ⟨r, 0, none⟩ = some (.int .i32 1) := grown_at hturn1.grown (Ne.symm hne) (World.cell?_setCell_same _ _ _ c0)
  have hgr := grown_relock c0 hturn1.grown (fun e => hne (Option.some.inj e).symm)
  refine leaves_cons (f := 29) (args := #[.pointer (some ⟨r, 0, none⟩)]) (by simp) (by simp [go_sem]) ?_
  refine (unlock_deferred muLib ⟨r, 0, none⟩ .returning _ d1 ((hturn1.frozen _).trans ((World.frozen?_setCell _ _ _ _).trans f0))).mono ?_
  rintro e u' w'' ⟨rfl, rfl, rfl⟩
  exact ⟨_, results_none rfl _ _ _, rfl, hown2.setCell hne _, hgr⟩

end Go.Proofs.Ybulkbsbo
