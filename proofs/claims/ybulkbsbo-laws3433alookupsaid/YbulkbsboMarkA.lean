/-
  Walks over (*replacedMarks).newest (8). Own work.
-/
import Derived.Test.YbulkbsboLocks
import Derived.WalkKit
import Derived.WalkSpells
import Derived.WalkSmall
import Derived.Maps.Own
import Derived.Maps.OwnOps
import Derived.Maps.OwnSet
namespace Go.Proofs.Ybulkbsbo
set_option linter.unusedVariables false
open Go.RowKit Go.Maps Go.MuLone Go.WideMaps

/-- How a Version in a map reads: its two numbers. -/
def verElem (v : Value) : Option (DataW Unit × List MemPlace) :=
  match v with
  | .agg xs =>
    match xs.toList with
    | [.int .u64 a, .int .u64 b] => some (.agg [.lit (.int .u64 a), .lit (.int .u64 b)], [])
    | _ => none
  | _ => none

abbrev verD (a b : Int) : DataW Unit := .agg [.lit (.int .u64 a), .lit (.int .u64 b)]

theorem verElem_mk (a b : Int) : verElem (.agg #[.int .u64 a, .int .u64 b]) = some (verD a b, []) := rfl

theorem verElem_inv {v : Value} {a b : Int} {ps : List MemPlace} (h : verElem v = some (verD a b, ps)) : v = .agg #[.int .u64 a, .int .u64 b] := by
  unfold verElem at h
  split at h
  · rename_i xs
    split at h
    · rename_i x y hx
      simp only [Option.some.injEq, Prod.mk.injEq, DataW.agg.injEq, List.cons.injEq, DataW.lit.injEq, Lit.int.injEq, true_and, and_true] at h
      obtain ⟨⟨rfl, rfl⟩, _⟩ := h
      have e : xs = #[.int .u64 x, .int .u64 y] := by cases xs; simp_all
      rw [e]
    · cases h
  · cases h

theorem key9 : Keyed Yba.prog 9 := string_keyed Yba.underlying9
theorem zero38 (w : World) : (zeroValue 38).run Yba.prog w = .ok (.agg #[.int .u64 0, .int .u64 0]) w := by kernel_rfl

/-- A cell that is turned and turned back: nothing has turned. -/
theorem setCell_back {w : World} {a : Addr} {v u : Value} (h : w.cell? a = some v) (B : Nat) : Below B w ((w.setCell a u).setCell a v) := by
  obtain ⟨b, o, sp⟩ := a
  refine ⟨rfl, rfl, rfl, by simp [World.setCell], fun k _ => ?_⟩
  simp only [World.setCell, Array.getElem?_modify]
  by_cases hk : b = k
  · subst hk
    simp only [if_true]
    unfold World.cell? at h
    cases hb : w.heap[b]? with
    | none => rfl
    | some ob =>
      simp only [hb] at h
      cases ob with
      | cells c t f =>
        simp only at h
        cases sp with
        | some x => simp at h
        | none =>
          simp at h ⊢
          apply Array.ext
          · simp
          · intro i h1 h2
            rw [Array.getElem_setIfInBounds]
            split
            · rename_i e
              subst e
              obtain ⟨_, h3⟩ := Array.getElem?_eq_some_iff.1 h
              exact h3.symm
            · rfl
      | _ => rfl
  · simp [hk]

theorem below_lt {w : World} {a : Addr} {v : Value} (h : w.cell? a = some v) : a.block < w.heap.size := World.block_lt_of_cell? _ _ h

theorem size_setCell (w : World) (a : Addr) (v : Value) : (w.setCell a v).heap.size = w.heap.size := by simp [World.setCell]

/-- A lock taken, a block laid, the lock let go: nothing that was there has turned. -/
theorem locked_back {w : World} {r : Nat} {v u : Value} (h : w.cell? ⟨r, 0, none⟩ = some v) (o : Obj) : Below w.heap.size w (((w.setCell ⟨r, 0, none⟩ u).alloc o).setCell ⟨r, 0, none⟩ v) := by
  have hlt := below_lt h
  rw [World.setCell_alloc_past o r 0 v (by rw [size_setCell]; exact hlt)]
  exact (setCell_back (u := u) h w.heap.size).alloc (by rw [size_setCell, size_setCell]; exact Nat.le_refl _) o

theorem door_cell {w : World} {r : Nat} (c0 : w.cell? ⟨r, 0, none⟩ = some (.int .i32 0)) (o : Obj) : ((w.setCell ⟨r, 0, none⟩ (.int .i32 1)).alloc o).cell? ⟨r, 0, none⟩ = some (.int .i32 1) := by
  have h := below_lt c0
  have hb := (Below.refl _ (w.setCell ⟨r, 0, none⟩ (.int .i32 1))).alloc (Nat.le_refl _) o
  rw [hb.cell (p := ⟨r, 0, none⟩) (by rw [size_setCell]; exact h)]
  exact World.cell?_setCell_same _ _ _ c0

theorem door_free {w : World} {r : Nat} (f0 : w.frozen? ⟨r, 0, none⟩ = false) (h : r < w.heap.size) (v : Value) (o : Obj) : ((w.setCell ⟨r, 0, none⟩ v).alloc o).frozen? ⟨r, 0, none⟩ = false := by
  have hb := (Below.refl _ (w.setCell ⟨r, 0, none⟩ v)).alloc (Nat.le_refl _) o
  rw [hb.frozen (p := ⟨r, 0, none⟩) (by rw [size_setCell]; exact h), World.frozen?_setCell]
  exact f0

theorem door_new {w : World} {r : Nat} (h : r < w.heap.size) {v u : Value} {x y : Value} {t : TypeId} (i : Nat) : (((w.setCell ⟨r, 0, none⟩ v).alloc (.cells #[x, y] t)).setCell ⟨r, 0, none⟩ u).cell? ⟨w.heap.size, i, none⟩ = #[x, y][i]? := by
  rw [World.cell?_setCell_other _ _ _ _ (by intro e; injection e with e1; omega)]
  have e : (w.setCell ⟨r, 0, none⟩ v).heap.size = w.heap.size := size_setCell _ _ _
  have hb : ((w.setCell ⟨r, 0, none⟩ v).alloc (.cells #[x, y] t)).heap[w.heap.size]? = some (.cells #[x, y] t) := by
    show ((w.setCell ⟨r, 0, none⟩ v).heap.push _)[w.heap.size]? = _
    rw [Array.getElem?_push, if_pos e.symm]
  unfold World.cell?
  simp only [hb]
  simp

theorem newest_nil (r : Nat) (s : ByteArray) (w : World) (hs : s.size ≤ maxLen) (c0 : w.cell? ⟨r, 0, none⟩ = some (.int .i32 0)) (f0 : w.frozen? ⟨r, 0, none⟩ = false) (c2 : w.cell? ⟨r, 2, none⟩ = some (.map none)) :
    Calls Yba.prog 8 #[.pointer (some ⟨r, 0, none⟩), .string s] w fun e w' => e = .returned (.agg #[.int .u64 0, .int .u64 0]) ∧ Below w.heap.size w w' := by
  have hlk := fun (w' : World) => look_nil (w := w') false key9 Yba.underlying32 (zero38 _) (keyOf_string_mk Yba.underlying9 hs)
  have hlt : r < w.heap.size := World.block_lt_of_cell? _ _ c0
  have hb0 := (Below.refl w.heap.size w).alloc (Nat.le_refl _) (.cells #[.int .u64 0, .int .u64 0] 38)
  have c0' : (w.alloc (.cells #[.int .u64 0, .int .u64 0] 38)).cell? ⟨r, 0, none⟩ = some (.int .i32 0) := (hb0.cell (p := ⟨r, 0, none⟩) hlt).trans c0
  have f0' : (w.alloc (.cells #[.int .u64 0, .int .u64 0] 38)).frozen? ⟨r, 0, none⟩ = false := (hb0.frozen (p := ⟨r, 0, none⟩) hlt).trans f0
  go_enter_defers Yba.func8, Yba.ntmps8
  go_wp2_with fail
  refine (lock_free muLib ⟨r, 0, none⟩ _ c0' f0').mono ?_
  rintro e w' ⟨rfl, rfl⟩
  go_wp2_with fail
  refine leaves_cons (f := 29) (args := #[.pointer (some ⟨r, 0, none⟩)]) (by simp) (by simp [go_sem]) ?_
  refine (unlock_deferred muLib ⟨r, 0, none⟩ .returning _ (door_cell c0 _) (door_free f0 hlt _ _)).mono ?_
  rintro e u' w'' ⟨rfl, rfl, rfl⟩
  exact ⟨.agg #[.int .u64 0, .int .u64 0], by simp [results, Yba.results8, go_sem, door_new hlt], rfl, locked_back c0 _⟩

theorem newest_map (r bm n : Nat) (D : DataW Unit) (a b : Int) (s : ByteArray) (w : World) (hs : s.size ≤ maxLen) (c0 : w.cell? ⟨r, 0, none⟩ = some (.int .i32 0)) (f0 : w.frozen? ⟨r, 0, none⟩ = false) (c2 : w.cell? ⟨r, 2, none⟩ = some (.map (some bm)))
    (hne : bm ≠ r) (hown : w.ownsMap Yba.prog 9 verElem bm n D) (hat : D.atKey (.string s.data.toList) (verD 0 0) = verD a b) :
    Calls Yba.prog 8 #[.pointer (some ⟨r, 0, none⟩), .string s] w fun e w' => e = .returned (.agg #[.int .u64 a, .int .u64 b]) ∧ Below w.heap.size w w' := by
  have hown1 := (hown.setCell (a := ⟨r, 0, none⟩) hne (.int .i32 1)).alloc (.cells #[.int .u64 0, .int .u64 0] 38)
  obtain ⟨v, ps, hlk, hv⟩ := hown1.lookup key9 Yba.underlying32 (zero38 _) (verElem_mk 0 0) (keyOf_string_mk Yba.underlying9 hs)
  rw [hat] at hv
  obtain rfl := verElem_inv hv
  clear hv hown1 hown hat
  have hlt : r < w.heap.size := World.block_lt_of_cell? _ _ c0
  have hb0 := (Below.refl w.heap.size w).alloc (Nat.le_refl _) (.cells #[.int .u64 0, .int .u64 0] 38)
  have c0' : (w.alloc (.cells #[.int .u64 0, .int .u64 0] 38)).cell? ⟨r, 0, none⟩ = some (.int .i32 0) := (hb0.cell (p := ⟨r, 0, none⟩) hlt).trans c0
  have f0' : (w.alloc (.cells #[.int .u64 0, .int .u64 0] 38)).frozen? ⟨r, 0, none⟩ = false := (hb0.frozen (p := ⟨r, 0, none⟩) hlt).trans f0
  go_enter_defers Yba.func8, Yba.ntmps8
  go_wp2_with fail
  refine (lock_free muLib ⟨r, 0, none⟩ _ c0' f0').mono ?_
  rintro e w' ⟨rfl, rfl⟩
  go_wp2_with fail
  refine leaves_cons (f := 29) (args := #[.pointer (some ⟨r, 0, none⟩)]) (by simp) (by simp [go_sem]) ?_
  refine (unlock_deferred muLib ⟨r, 0, none⟩ .returning _ (door_cell c0 _) (door_free f0 hlt _ _)).mono ?_
  rintro e u' w'' ⟨rfl, rfl, rfl⟩
  exact ⟨.agg #[.int .u64 a, .int .u64 b], by simp [results, Yba.results8, go_sem, door_new hlt], rfl, locked_back c0 _⟩

end Go.Proofs.Ybulkbsbo
