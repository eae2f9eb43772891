/-
  The walk over (*op).fetching (13), with an abstract world behind it. Own work.
-/
import Derived.Test.YbulkbsboPickC
import Derived.LaidEqlPtr
import Derived.Lib.Builder
namespace Go.Proofs.Ybulkbsbo
set_option linter.unusedVariables false
open Go.RowKit

/-- What fetching has laid: F the new op, Hb the box of the holders, Ob the box of the receiver. -/
structure Fetched (w w' : World) (O R F Hb Ob : Nat) (kind : ByteArray) (hv : Value) : Prop where
  c0 : w'.cell? ⟨F, 0, none⟩ = some (.pointer none)
  c1 : w'.cell? ⟨F, 1, none⟩ = some (.string kind)
  c2 : w'.cell? ⟨F, 2, none⟩ = some (.func (.func 31) #[] #[.pointer (some ⟨Hb, 0, none⟩)])
  c4 : w'.cell? ⟨F, 4, none⟩ = some (.func (.func 34) #[] #[.pointer (some ⟨Ob, 0, none⟩)])
  c5 : w'.cell? ⟨F, 5, none⟩ = some (.slice none 0 0)
  c7 : w'.cell? ⟨F, 7, none⟩ = some (.pointer (some ⟨R, 0, none⟩))
  blk : ∃ cs, w'.heap[F]? = some (.cells cs 63 (0, 0))
  hb : w'.cell? ⟨Hb, 0, none⟩ = some hv
  ob : w'.cell? ⟨Ob, 0, none⟩ = some (.pointer (some ⟨O, 0, none⟩))
  new : w.heap.size ≤ F
  below : Below w.heap.size w w'

theorem fetched_mk (w : World) (O R : Nat) (kind : ByteArray) (hv : Value) :
    Fetched w (((w.alloc (.cells #[.pointer (some ⟨O, 0, none⟩)] 54)).alloc (.cells #[hv] 45)).alloc
      (.cells #[.pointer none, .string kind, .func (.func 31) #[] #[.pointer (some ⟨w.heap.size + 1, 0, none⟩)], .nilIface, .func (.func 34) #[] #[.pointer (some ⟨w.heap.size, 0, none⟩)], .slice none 0 0, .nilFunc, .pointer (some ⟨R, 0, none⟩)] 63))
      O R (w.heap.size + 1 + 1) (w.heap.size + 1) w.heap.size kind hv where
  c0 := by go_simp
  c1 := by go_simp
  c2 := by go_simp
  c4 := by go_simp
  c5 := by go_simp
  c7 := by go_simp
  blk := ⟨_, by show (((w.heap.push _).push _).push _)[w.heap.size + 1 + 1]? = _; rw [Array.getElem?_push, if_pos (by simp)]⟩
  hb := by go_simp
  ob := by go_simp
  new := by omega
  below := (((Below.refl _ _).alloc (Nat.le_refl _) _).alloc (by simp) _).alloc (by simp; omega) _

/-- An op without a client at block O. -/
structure OpAt (w : World) (O R : Nat) (kind : ByteArray) (pk : Value) : Prop where
  c0 : w.cell? ⟨O, 0, none⟩ = some (.pointer none)
  c1 : w.cell? ⟨O, 1, none⟩ = some (.string kind)
  c2 : w.cell? ⟨O, 2, none⟩ = some pk
  c3 : w.cell? ⟨O, 3, none⟩ = some .nilIface
  c4 : w.cell? ⟨O, 4, none⟩ = some .nilFunc
  c5 : w.cell? ⟨O, 5, none⟩ = some (.slice none 0 0)
  c6 : w.cell? ⟨O, 6, none⟩ = some .nilFunc
  c7 : w.cell? ⟨O, 7, none⟩ = some (.pointer (some ⟨R, 0, none⟩))
  blk : ∃ cs, w.heap[O]? = some (.cells cs 63 (0, 0))

theorem OpAt.lt {w : World} {O R : Nat} {kind : ByteArray} {pk : Value} (h : OpAt w O R kind pk) : O < w.heap.size := cell_lt h.c0

theorem OpAt.kept {w w' : World} {O R : Nat} {kind : ByteArray} {pk : Value} (h : OpAt w O R kind pk) (hb : Below w.heap.size w w') : OpAt w' O R kind pk where
  c0 := cell_kept hb h.c0
  c1 := cell_kept hb h.c1
  c2 := cell_kept hb h.c2
  c3 := cell_kept hb h.c3
  c4 := cell_kept hb h.c4
  c5 := cell_kept hb h.c5
  c6 := cell_kept hb h.c6
  c7 := cell_kept hb h.c7
  blk := by
    obtain ⟨cs, hcs⟩ := h.blk
    exact ⟨cs, (hb.block O h.lt).trans hcs⟩

/-- The op that LawS3433BPick makes. -/
theorem opAt_made (w1 : World) (kind : ByteArray) : OpAt (((((w1.alloc (.map #[] 0)).alloc (.map #[] 0)).alloc (.map #[] 0)).alloc (.cells #[.map (some w1.heap.size), .map (some (w1.heap.size + 1)), .map (some (w1.heap.size + 1 + 1)), .int .i64 0, .bool false] 53)).alloc (.cells #[.pointer none, .string kind, .nilFunc, .nilIface, .nilFunc, .slice none 0 0, .nilFunc, .pointer (some ⟨w1.heap.size + 1 + 1 + 1, 0, none⟩)] 63)) (w1.heap.size + 1 + 1 + 1 + 1) (w1.heap.size + 1 + 1 + 1) kind .nilFunc where
  c0 := by go_simp
  c1 := by go_simp
  c2 := by go_simp
  c3 := by go_simp
  c4 := by go_simp
  c5 := by go_simp
  c6 := by go_simp
  c7 := by go_simp
  blk := ⟨_, by show (((((w1.heap.push _).push _).push _).push _).push _)[w1.heap.size + 1 + 1 + 1 + 1]? = _; rw [Array.getElem?_push, if_pos (by simp)]⟩

theorem made_below (w1 : World) (kind : ByteArray) : Below w1.heap.size w1 (((((w1.alloc (.map #[] 0)).alloc (.map #[] 0)).alloc (.map #[] 0)).alloc (.cells #[.map (some w1.heap.size), .map (some (w1.heap.size + 1)), .map (some (w1.heap.size + 1 + 1)), .int .i64 0, .bool false] 53)).alloc (.cells #[.pointer none, .string kind, .nilFunc, .nilIface, .nilFunc, .slice none 0 0, .nilFunc, .pointer (some ⟨w1.heap.size + 1 + 1 + 1, 0, none⟩)] 63)) :=
  (((((Below.refl _ _).alloc (Nat.le_refl _) _).alloc (by simp) _).alloc (by simp; omega) _).alloc (by simp; omega) _).alloc (by simp; omega) _

set_option maxHeartbeats 400000 in
theorem fetch_nil (O R : Nat) (kind : ByteArray) (a : Option Addr) (l c : Nat) (w : World)
    (h : OpAt w O R kind .nilFunc) :
    Calls Yba.prog 13 #[.pointer (some ⟨O, 0, none⟩), .slice a l c] w fun e w' => ∃ F : Nat, e = .returned (.pointer (some ⟨F, 0, none⟩)) ∧ ∃ Hb Ob : Nat, Fetched w w' O R F Hb Ob kind (.slice a l c) := by
  obtain ⟨h0, h1, h2, h3, h4, h5, h6, h7, _⟩ := h
  have hlt := cell_lt h0
  have hlt1 : O < w.heap.size + 1 := by simp at hlt; omega
  have hlt2 : O < w.heap.size := hlt
  have hmf : ∀ (fn : Fn) (first cap : Array Value) (w : World), (Instr.makeFunc fn first cap).run Yba.prog w = .ok (.func fn first cap) w := fun _ _ _ _ => rfl
  go_enter Yba.func13, Yba.ntmps13
  go_wp2
  go_ret
  exact ⟨_, rfl, _, _, fetched_mk w O R kind (.slice a l c)⟩

set_option maxHeartbeats 400000 in
theorem fetch_func (O R : Nat) (kind : ByteArray) (f : Fn) (fs fc : Array Value) (a : Option Addr) (l c : Nat) (w : World)
    (h : OpAt w O R kind (.func f fs fc)) :
    Calls Yba.prog 13 #[.pointer (some ⟨O, 0, none⟩), .slice a l c] w fun e w' => ∃ F : Nat, e = .returned (.pointer (some ⟨F, 0, none⟩)) ∧ ∃ Hb Ob : Nat, Fetched w w' O R F Hb Ob kind (.slice a l c) := by
  obtain ⟨h0, h1, h2, h3, h4, h5, h6, h7, _⟩ := h
  have hlt := cell_lt h0
  have hlt1 : O < w.heap.size + 1 := by simp at hlt; omega
  have hlt2 : O < w.heap.size := hlt
  have hmf : ∀ (fn : Fn) (first cap : Array Value) (w : World), (Instr.makeFunc fn first cap).run Yba.prog w = .ok (.func fn first cap) w := fun _ _ _ _ => rfl
  go_enter Yba.func13, Yba.ntmps13
  go_wp2
  go_ret
  exact ⟨_, rfl, _, _, fetched_mk w O R kind (.slice a l c)⟩

end Go.Proofs.Ybulkbsbo
