/-
  Parts for the walk over LawS3433BWait (6). Own work.
-/
import Derived.Test.YbulkbsboWaitD
namespace Go.Proofs.Ybulkbsbo
set_option linter.unusedVariables false
open Go.RowKit Go.Maps

theorem index_plain (b o len cap k : Nat) (hk : k < len) (w' : World) : (Instr.indexAt 45 (.slice (some ⟨b, o, none⟩) len cap) (.int .i64 (k : Int))).run Yba.prog w' = .ok (.pointer (some ⟨b, o + k, none⟩)) w' := by
  go_simp

theorem index_at {w : World} {a : Option Addr} {len : Nat} {zs : Nat → Int} (h : IntsAt w a len zs) {k : Nat} (hk : k < len) (cap : Nat) :
    ∃ b o, (∀ w', (Instr.indexAt 45 (.slice a len cap) (.int .i64 (k : Int))).run Yba.prog w' = .ok (.pointer (some ⟨b, o + k, none⟩)) w') ∧ w.cell? ⟨b, o + k, none⟩ = some (.int .i64 (zs k)) := by
  obtain ⟨b, o, rfl, hc⟩ := h (by omega)
  exact ⟨b, o, index_plain b o len cap k hk, hc k hk⟩

/-- The state of the two loops that fill the maps: k1 failed nodes noted, k2 slow ones. -/
structure Laid (w wr : World) (C M2 M3 R : Nat) (a0 : Option Addr) (l0 c0 k1 k2 : Nat) (z1 z2 : Nat → Int) : Prop where
  hC : wr.cell? ⟨C, 0, none⟩ = some (.slice a0 l0 c0)
  r1 : wr.cell? ⟨R, 1, none⟩ = some (.map (some M2))
  r2 : wr.cell? ⟨R, 2, none⟩ = some (.map (some M3))
  m2 : ∃ D, wr.ownsMap Yba.prog 3 errElem M2 k1 D ∧ ∀ x, Maps.has D (.int .i64 x) = inB k1 z1 x
  m3 : ∃ D, wr.ownsMap Yba.prog 3 (plainElem (H := Unit) Yba.prog 4) M3 k2 D ∧ ∀ x, D.atKey (.int .i64 x) (.lit (.bool false)) = .lit (.bool (inB k2 z2 x))
  n1 : C ≠ M2
  n2 : C ≠ M3
  n3 : R ≠ M2
  n4 : R ≠ M3
  n5 : M2 ≠ M3
  b2 : w.heap.size ≤ M2
  b3 : w.heap.size ≤ M3
  below : Below w.heap.size w wr

theorem grown_cell {w w' : World} {m b o : Nat} {v : Value} (hg : w.grownBy w' (some m)) (hne : b ≠ m) (h : w.cell? ⟨b, o, none⟩ = some v) : w'.cell? ⟨b, o, none⟩ = some v := by
  have hlt : b < w.heap.size := cell_lt h
  have hb := hg.block b hlt (fun e => hne (by injection e))
  rw [World.cell?_of_block (w := w) (a := ⟨b, o, none⟩) hb]
  exact h

theorem Laid.step1 {w wr w1 : World} {C M2 M3 R : Nat} {a0 : Option Addr} {l0 c0 k1 k2 : Nat} {z1 z2 : Nat → Int} (h : Laid w wr C M2 M3 R a0 l0 c0 k1 k2 z1 z2) {D d : DataW Unit} (hD : ∀ x, Maps.has D (.int .i64 x) = inB k1 z1 x)
    (hw : wr.ownsMap Yba.prog 3 errElem M2 k1 D) (ho : w1.ownsMap Yba.prog 3 errElem M2 (k1 + 1) (D.put (.int .i64 (z1 k1)) d)) (hg : wr.grownBy w1 (some M2)) : Laid w w1 C M2 M3 R a0 l0 c0 (k1 + 1) k2 z1 z2 where
  hC := grown_cell hg h.n1 h.hC
  r1 := grown_cell hg h.n3 h.r1
  r2 := grown_cell hg h.n3 h.r2
  m2 := ⟨_, ho, fun x => by
    rw [inB_succ]
    by_cases e : z1 k1 = x
    · subst e
      rw [has_put_same (k := .int .i64 (z1 k1)) hw.isMap trivial]
      simp
    · rw [has_put_other (by intro c; injection c with c1 c2; exact e c2.symm), hD]
      simp [e]⟩
  m3 := by
    obtain ⟨D3, h3, hh3⟩ := h.m3
    exact ⟨D3, h3.kept hg (fun e => h.n5 (by injection e with e1; exact e1.symm)), hh3⟩
  n1 := h.n1
  n2 := h.n2
  n3 := h.n3
  n4 := h.n4
  n5 := h.n5
  b2 := h.b2
  b3 := h.b3
  below := h.below.grown hg h.below.size (fun k hk => by cases hk; exact h.b2)

theorem Laid.step2 {w wr w1 : World} {C M2 M3 R : Nat} {a0 : Option Addr} {l0 c0 k1 k2 : Nat} {z1 z2 : Nat → Int} (h : Laid w wr C M2 M3 R a0 l0 c0 k1 k2 z1 z2) {D : DataW Unit} (hD : ∀ x, D.atKey (.int .i64 x) (.lit (.bool false)) = .lit (.bool (inB k2 z2 x)))
    (hw : wr.ownsMap Yba.prog 3 (plainElem (H := Unit) Yba.prog 4) M3 k2 D) (ho : w1.ownsMap Yba.prog 3 (plainElem (H := Unit) Yba.prog 4) M3 (k2 + 1) (D.put (.int .i64 (z2 k2)) (.lit (.bool true)))) (hg : wr.grownBy w1 (some M3)) : Laid w w1 C M2 M3 R a0 l0 c0 k1 (k2 + 1) z1 z2 where
  hC := grown_cell hg h.n2 h.hC
  r1 := grown_cell hg h.n4 h.r1
  r2 := grown_cell hg h.n4 h.r2
  m3 := ⟨_, ho, fun x => by
    rw [inB_succ]
    by_cases e : z2 k2 = x
    · subst e
      rw [atKey_put_same (k := .int .i64 (z2 k2)) hw.isMap trivial]
      simp
    · rw [atKey_put_other (by intro c; injection c with c1 c2; exact e c2.symm), hD]
      simp [e]⟩
  m2 := by
    obtain ⟨D3, h3, hh3⟩ := h.m2
    exact ⟨D3, h3.kept hg (fun e => h.n5 (by injection e)), hh3⟩
  n1 := h.n1
  n2 := h.n2
  n3 := h.n3
  n4 := h.n4
  n5 := h.n5
  b2 := h.b2
  b3 := h.b3
  below := h.below.grown hg h.below.size (fun k hk => by cases hk; exact h.b3)

theorem new_any (s : ByteArray) (w : World) : Calls Yba.prog 17 #[.string s] w fun e w' => e = .returned (.iface 108 (.pointer (some ⟨w.heap.size, 0, none⟩))) ∧ w' = w.alloc (.cells #[.string s] 110) := by
  go_enter Yba.func17, Yba.ntmps17
  go_wp2
  go_ret
  exact ⟨rfl, rfl⟩

theorem laid_made (w : World) (a0 : Option Addr) (l0 c0 : Nat) (z1 z2 : Nat → Int) :
    Laid w ((((((w.alloc (.cells #[.slice a0 l0 c0] 45)).alloc (.cells #[.string ⟨#[100, 111, 119, 110]⟩] 110)).alloc (.map #[] 0)).alloc (.map #[] 0)).alloc (.map #[] 0)).alloc (.cells #[.map (some (w.heap.size + 1 + 1)), .map (some (w.heap.size + 1 + 1 + 1)), .map (some (w.heap.size + 1 + 1 + 1 + 1)), .int .i64 0, .bool false] 53))
      w.heap.size (w.heap.size + 1 + 1 + 1) (w.heap.size + 1 + 1 + 1 + 1) (w.heap.size + 1 + 1 + 1 + 1 + 1) a0 l0 c0 0 0 z1 z2 where
  hC := by go_simp
  r1 := by go_simp
  r2 := by go_simp
  m2 := by
    have h := World.ownsMap_made (((w.alloc (.cells #[.slice a0 l0 c0] 45)).alloc (.cells #[.string ⟨#[100, 111, 119, 110]⟩] 110)).alloc (.map #[] 0)) Yba.prog 3 errElem
    refine ⟨.map [], ?_, fun x => rfl⟩
    have h2 := (h.alloc (.map #[] 0)).alloc (.cells #[.map (some (w.heap.size + 1 + 1)), .map (some (w.heap.size + 1 + 1 + 1)), .map (some (w.heap.size + 1 + 1 + 1 + 1)), .int .i64 0, .bool false] 53)
    simpa using h2
  m3 := by
    have h := World.ownsMap_made ((((w.alloc (.cells #[.slice a0 l0 c0] 45)).alloc (.cells #[.string ⟨#[100, 111, 119, 110]⟩] 110)).alloc (.map #[] 0)).alloc (.map #[] 0)) Yba.prog 3 (plainElem (H := Unit) Yba.prog 4)
    refine ⟨.map [], ?_, fun x => rfl⟩
    have h2 := h.alloc (.cells #[.map (some (w.heap.size + 1 + 1)), .map (some (w.heap.size + 1 + 1 + 1)), .map (some (w.heap.size + 1 + 1 + 1 + 1)), .int .i64 0, .bool false] 53)
    simpa using h2
  n1 := by omega
  n2 := by omega
  n3 := by omega
  n4 := by omega
  n5 := by omega
  b2 := by omega
  b3 := by omega
  below := ((((((Below.refl _ _).alloc (Nat.le_refl _) _).alloc (by simp) _).alloc (by simp; omega) _).alloc (by simp; omega) _).alloc (by simp; omega) _).alloc (by simp; omega) _

theorem opAt_wait (wr : World) (C R : Nat) : OpAt ((wr.alloc (.cells #[.int .i64 0] 3)).alloc (.cells #[.pointer none, .string ⟨#[]⟩, .func (.func 18) #[] #[.pointer (some ⟨wr.heap.size, 0, none⟩), .pointer (some ⟨C, 0, none⟩)], .nilIface, .nilFunc, .slice none 0 0, .nilFunc, .pointer (some ⟨R, 0, none⟩)] 63)) (wr.heap.size + 1) R ⟨#[]⟩ (.func (.func 18) #[] #[.pointer (some ⟨wr.heap.size, 0, none⟩), .pointer (some ⟨C, 0, none⟩)]) where
  c0 := by go_simp
  c1 := by go_simp
  c2 := by go_simp
  c3 := by go_simp
  c4 := by go_simp
  c5 := by go_simp
  c6 := by go_simp
  c7 := by go_simp
  blk := ⟨_, by show ((wr.heap.push _).push _)[wr.heap.size + 1]? = _; rw [Array.getElem?_push, if_pos (by simp)]⟩

theorem wait_below (wr : World) (C R : Nat) : Below wr.heap.size wr ((wr.alloc (.cells #[.int .i64 0] 3)).alloc (.cells #[.pointer none, .string ⟨#[]⟩, .func (.func 18) #[] #[.pointer (some ⟨wr.heap.size, 0, none⟩), .pointer (some ⟨C, 0, none⟩)], .nilIface, .nilFunc, .slice none 0 0, .nilFunc, .pointer (some ⟨R, 0, none⟩)] 63)) := ((Below.refl _ _).alloc (Nat.le_refl _) _).alloc (by simp) _

theorem Ready.kept {w w' : World} {O R M2 M3 C Cv : Nat} {a : Option Addr} {len cap : Nat} {zs : Nat → Int} {fl sl : Int → Bool} (h : Ready w O R M2 M3 C Cv a len cap zs fl sl) (hb : Below w.heap.size w w') : Ready w' O R M2 M3 C Cv a len cap zs fl sl where
  hv := cell_kept hb h.hv
  hz := (hb.frozen (cell_lt h.hv)).trans h.hz
  hC := cell_kept hb h.hC
  hO := cell_kept hb h.hO
  hP := cell_kept hb h.hP
  hr := h.hr.kept hb
  hi := fun hp => by
    obtain ⟨b, o, e, hlt, hc⟩ := h.hi hp
    exact ⟨b, o, e, hlt, fun i hi => cell_kept hb (hc i hi)⟩
  hm := h.hm
  wf := h.wf
  nC := h.nC
  nO := h.nO
  nR := h.nR
  n2 := h.n2
  n3 := h.n3

theorem map_kept {w w' : World} {R : Value → Option (DataW Unit × List MemPlace)} {b n : Nat} {D : DataW Unit} (h : w.ownsMap Yba.prog 3 R b n D) (hb : Below w.heap.size w w') : w'.ownsMap Yba.prog 3 R b n D := by
  obtain ⟨es, clock, h1, h2⟩ := h
  have hlt := World.ownsMap.lt ⟨es, clock, h1, h2⟩
  exact ⟨es, clock, (hb.block _ hlt).trans h1, h2⟩

theorem ready_mk {w wr : World} {C M2 M3 R : Nat} {a0 : Option Addr} {l0 c0 l1 l2 : Nat} {z0 z1 z2 : Nat → Int} (h : Laid w wr C M2 M3 R a0 l0 c0 l1 l2 z1 z2) (i0 : IntsAt w a0 l0 z0) (hm : l0 ≤ 1024) (wf : ∀ i, i < l0 → (Lit.int .i64 (z0 i)).wf = true) :
    Ready ((wr.alloc (.cells #[.int .i64 0] 3)).alloc (.cells #[.pointer none, .string ⟨#[]⟩, .func (.func 18) #[] #[.pointer (some ⟨wr.heap.size, 0, none⟩), .pointer (some ⟨C, 0, none⟩)], .nilIface, .nilFunc, .slice none 0 0, .nilFunc, .pointer (some ⟨R, 0, none⟩)] 63)) (wr.heap.size + 1) R M2 M3 C wr.heap.size a0 l0 c0 z0 (inB l1 z1) (inB l2 z2) where
  hv := by go_simp
  hz := by go_simp
  hC := cell_kept (wait_below wr C R) h.hC
  hO := (opAt_wait wr C R).c7
  hP := (opAt_wait wr C R).c2
  hr := { r1 := cell_kept (wait_below wr C R) h.r1
          r2 := cell_kept (wait_below wr C R) h.r2
          m2 := by
            obtain ⟨D, ho, hh⟩ := h.m2
            exact ⟨_, D, map_kept ho (wait_below wr C R), hh⟩
          m3 := by
            obtain ⟨D, ho, hh⟩ := h.m3
            exact ⟨_, D, map_kept ho (wait_below wr C R), hh⟩ }
  hi := fun hp => by
    obtain ⟨b, o, e, hc⟩ := i0 hp
    have hlt : b < w.heap.size := cell_lt (hc 0 hp)
    exact ⟨b, o, e, Nat.lt_of_lt_of_le hlt h.below.size, fun i hi => cell_kept (wait_below wr C R) (cell_kept h.below (hc i hi))⟩
  hm := hm
  wf := wf
  nC := Nat.ne_of_lt (cell_lt h.hC)
  nO := by omega
  nR := Nat.ne_of_lt (cell_lt h.r1)
  n2 := by
    obtain ⟨D, ho, _⟩ := h.m2
    exact Nat.ne_of_lt ho.lt
  n3 := by
    obtain ⟨D, ho, _⟩ := h.m3
    exact Nat.ne_of_lt ho.lt

end Go.Proofs.Ybulkbsbo
