/-
  The walk over LawS3433ANoteDrop (4). Own work.
-/
import Derived.Test.YbulkbsboMarkC
namespace Go.Proofs.Ybulkbsbo
set_option linter.unusedVariables false
open Go.RowKit Go.Maps Go.MuLone Go.WideMaps

theorem ver_neq_same (a b : Int) (w : World) : (binOp .neq 38 (.agg #[.int .u64 a, .int .u64 b]) (.agg #[.int .u64 a, .int .u64 b])).run Yba.prog w = .ok (.bool false) w := by
  go_simp
theorem ver_eql_same (a b : Int) (w : World) : (binOp .eql 38 (.agg #[.int .u64 a, .int .u64 b]) (.agg #[.int .u64 a, .int .u64 b])).run Yba.prog w = .ok (.bool true) w := by
  go_simp

theorem kept {w w' : World} (hb : Below w.heap.size w w') {p : Addr} {v : Value} (h : w.cell? p = some v) : w'.cell? p = some v := (hb.cell (below_lt h)).trans h

theorem lit_ne {a b : ByteArray} (h : a ≠ b) : Lit.string a.data.toList ≠ Lit.string b.data.toList := fun e => h (by
  injection e with e1
  obtain ⟨⟨l⟩⟩ := a
  obtain ⟨⟨m⟩⟩ := b
  simp at e1
  rw [e1])

/-- The receiver at block r, its map at block bm, reading as D; the local version at block vb. -/
structure Noted (w : World) (r bm n vb : Nat) (D : DataW Unit) (c x : Int) : Prop where
  c0 : w.cell? ⟨r, 0, none⟩ = some (.int .i32 0)
  f0 : w.frozen? ⟨r, 0, none⟩ = false
  c2 : w.cell? ⟨r, 2, none⟩ = some (.map (some bm))
  ne : bm ≠ r
  nv : bm ≠ vb
  own : w.ownsMap Yba.prog 9 verElem bm n D
  v0 : w.cell? ⟨vb, 0, none⟩ = some (.int .u64 c)
  v1 : w.cell? ⟨vb, 1, none⟩ = some (.int .u64 x)

theorem own_kept {w w' : World} {b n : Nat} {D : DataW Unit} (h : w.ownsMap Yba.prog 9 verElem b n D) (hb : Below w.heap.size w w') : w'.ownsMap Yba.prog 9 verElem b n D := by
  obtain ⟨es, clock, h1, h2⟩ := h
  have hlt := World.ownsMap.lt ⟨es, clock, h1, h2⟩
  exact ⟨es, clock, (hb.block _ hlt).trans h1, h2⟩

theorem Noted.kept {w w' : World} {r bm n vb : Nat} {D : DataW Unit} {c x : Int} (h : Noted w r bm n vb D c x) (hb : Below w.heap.size w w') : Noted w' r bm n vb D c x where
  c0 := Ybulkbsbo.kept hb h.c0
  f0 := (hb.frozen (below_lt h.c0)).trans h.f0
  c2 := Ybulkbsbo.kept hb h.c2
  ne := h.ne
  nv := h.nv
  own := own_kept h.own hb
  v0 := Ybulkbsbo.kept hb h.v0
  v1 := Ybulkbsbo.kept hb h.v1

theorem Noted.drew {w : World} {r bm n vb : Nat} {D : DataW Unit} {c x : Int} (h : Noted w r bm n vb D c x) : Noted w.drew r bm n vb D c x := ⟨h.c0, h.f0, h.c2, h.ne, h.nv, h.own, h.v0, h.v1⟩

theorem newest_at {w : World} {r bm n vb : Nat} {D : DataW Unit} {c x : Int} (h : Noted w r bm n vb D c x) {s : ByteArray} (hs : s.size ≤ maxLen) {a b : Int} (hat : D.atKey (.string s.data.toList) (verD 0 0) = verD a b) :
    Calls Yba.prog 8 #[.pointer (some ⟨r, 0, none⟩), .string s] w fun e w' => e = .returned (.agg #[.int .u64 a, .int .u64 b]) ∧ Below w.heap.size w w' :=
  newest_map r bm n D a b s w hs h.c0 h.f0 h.c2 h.ne h.own hat

/-- What note leaves on the law's own receiver. -/
theorem noted_mk {w w1 : World} {bm : Nat} {s : ByteArray} {c x : Int} (hb : ((w.alloc (.cells #[.int .i32 0, .int .u32 0, .map none] 34)).alloc (.cells #[.int .u64 c, .int .u64 x] 38)).heap.size ≤ bm)
    (ho : w1.ownsMap Yba.prog 9 verElem bm 1 ((DataW.map []).put (.string s.data.toList) (verD c x))) (c0 : w1.cell? ⟨w.heap.size, 0, none⟩ = some (.int .i32 0)) (c2 : w1.cell? ⟨w.heap.size, 2, none⟩ = some (.map (some bm))) (f0 : w1.frozen? ⟨w.heap.size, 0, none⟩ = false)
    (hg : ((w.alloc (.cells #[.int .i32 0, .int .u32 0, .map none] 34)).alloc (.cells #[.int .u64 c, .int .u64 x] 38)).grownBy w1 (some w.heap.size)) :
    Noted w1 w.heap.size bm 1 (w.heap.size + 1) ((DataW.map []).put (.string s.data.toList) (verD c x)) c x ∧ Below w.heap.size w w1 := by
  have hsz : ((w.alloc (.cells #[.int .i32 0, .int .u32 0, .map none] 34)).alloc (.cells #[.int .u64 c, .int .u64 x] 38)).heap.size = w.heap.size + 1 + 1 := by simp
  rw [hsz] at hb
  refine ⟨⟨c0, f0, c2, by omega, by omega, ho, grown_at hg (by omega) (by go_simp), grown_at hg (by omega) (by go_simp)⟩, ?_⟩
  exact (((Below.refl _ _).alloc (Nat.le_refl _) _).alloc (by simp) _).grown hg (by simp; omega) (fun k hk => by cases hk; exact Nat.le_refl _)

theorem bstep {w w1 w2 : World} (h1 : Below w.heap.size w w1) (h2 : Below w1.heap.size w1 w2) : Below w.heap.size w w2 := h1.trans (h2.mono h1.size)

theorem Noted.dropped {w w' : World} {r bm n vb : Nat} {D D' : DataW Unit} {c x : Int} (h : Noted w r bm n vb D c x) (ho : w'.ownsMap Yba.prog 9 verElem bm n D') (hg : w.grownBy w' (some bm)) : Noted w' r bm n vb D' c x where
  c0 := grown_at hg (Ne.symm h.ne) h.c0
  f0 := (World.frozen?_of_block (w := w) (a := ⟨r, 0, none⟩) (hg.block r (below_lt h.c0) (fun e => h.ne (Option.some.inj e).symm))).trans h.f0
  c2 := grown_at hg (Ne.symm h.ne) h.c2
  ne := h.ne
  nv := h.nv
  own := ho
  v0 := grown_at hg (Ne.symm h.nv) h.v0
  v1 := grown_at hg (Ne.symm h.nv) h.v1

theorem drop_at {w : World} {r bm n vb : Nat} {D : DataW Unit} {c x : Int} (h : Noted w r bm n vb D c x) {s : ByteArray} (hs : s.size ≤ maxLen) :
    Calls Yba.prog 11 #[.pointer (some ⟨r, 0, none⟩), .string s] w fun e w' => e = .returned (.tuple #[]) ∧ Noted w' r bm n vb (D.del (.string s.data.toList)) c x ∧ w.grownBy w' (some bm) :=
  (drop_map r bm n D s w hs h.c0 h.f0 h.c2 h.ne h.own).mono fun e w' ⟨he, ho, hg⟩ => ⟨he, h.dropped ho hg, hg⟩

theorem bytes_ne {a b : ByteArray} (h : a ≠ b) : (a.toList == b.toList) = false := by
  rw [beq_eq_false_iff_ne, ByteArray.toList_eq, ByteArray.toList_eq]
  exact fun e => h (Go.WideShapes.bytes_inj e)

set_option maxHeartbeats 1600000 in
set_option maxRecDepth 100000 in
theorem drop_other_ne (k other : ByteArray) (c x : Int) (w : World) (hk : k.size ≤ maxLen) (ho : other.size ≤ maxLen) (hne : other ≠ k) :
    Calls Yba.prog 4 #[.string k, .string other, .int .u64 c, .int .u64 x, .bool true] w fun e w' => e = .returned (.bool true) ∧ Below w.heap.size w w' := by
  have b1 := bytes_ne hne
  have hat2 : ((DataW.map [] : DataW Unit).put (.string k.data.toList) (verD c x)).atKey (.string other.data.toList) (verD 0 0) = verD 0 0 := (atKey_put_other (lit_ne hne) _ _).trans rfl
  have hat : ((DataW.map [] : DataW Unit).put (.string k.data.toList) (verD c x)).atKey (.string k.data.toList) (verD 0 0) = verD c x := atKey_put_same (k := .string k.data.toList) ⟨[], rfl⟩ trivial _ _
  have hks := ver_neq_same
  have hke := ver_eql_same
  go_enter Yba.func4, Yba.ntmps4
  go_wp2_with fail
  refine (note_fresh w.heap.size k c x _ hk (by go_simp) (by go_simp) (by go_simp) (by go_simp)).mono ?_
  rintro e w1 ⟨rfl, bm, _, hbm, hown, c0, c2, f0, hg⟩
  obtain ⟨hN, hB⟩ := noted_mk hbm hown c0 c2 f0 hg
  have hbB : w.heap.size ≤ bm := by simp at hbm; omega
  clear hbm hown c0 c2 f0 hg
  go_wp2_with fail
  have v0 := hN.v0
  have v1 := hN.v1
  go_region_held3 (fun w' => w'.cell? ⟨w.heap.size + 1, 0, none⟩ = some (.int .u64 c) ∧ w'.cell? ⟨w.heap.size + 1, 1, none⟩ = some (.int .u64 x)) (first | exact ⟨v0, v1⟩ | exact ⟨kept hb1 v0, kept hb1 v1⟩) ((go_at_call 8; refine (newest_at hN.drew hk hat).mono ?_; rintro e w2 ⟨rfl, hb1⟩))
  have hN2 := hN.drew.kept hb1
  have hB2 := bstep hB.drew hb1
  clear hN hB v0 v1 hb1
  go_wp2_with fail
  refine (newest_at hN2 ho hat2).mono ?_
  rintro e w3 ⟨rfl, hb3⟩
  have hN3 := hN2.kept hb3
  have hB3 := bstep hB2 hb3
  clear hN2 hB2 hb3
  go_wp2_with fail
  refine (drop_at hN3 ho).mono ?_
  rintro e w4 ⟨rfl, hN4, hg4⟩
  have hB4 : Below w.heap.size w w4 := hB3.grown hg4 hB3.size (fun q hq => by cases hq; exact hbB)
  clear hN3 hB3 hg4
  have hat4 := (atKey_del_other (D := (DataW.map [] : DataW Unit).put (.string k.data.toList) (verD c x)) (lit_ne (Ne.symm hne)) (verD 0 0)).trans hat
  have v0 := hN4.v0
  have v1 := hN4.v1
  go_wp2_with fail
  go_region_held3 (fun w' => w'.cell? ⟨w.heap.size + 1, 0, none⟩ = some (.int .u64 c) ∧ w'.cell? ⟨w.heap.size + 1, 1, none⟩ = some (.int .u64 x)) (first | exact ⟨v0, v1⟩ | exact ⟨kept hb5 v0, kept hb5 v1⟩) ((go_at_call 8; refine (newest_at hN4.drew hk hat4).mono ?_; rintro e w5 ⟨rfl, hb5⟩))
  go_wp2
  go_ret
  exact ⟨by simp, bstep hB4.drew hb5⟩

set_option maxHeartbeats 1600000 in
set_option maxRecDepth 100000 in
theorem keep_other_ne (k other : ByteArray) (c x : Int) (w : World) (hk : k.size ≤ maxLen) (ho : other.size ≤ maxLen) (hne : other ≠ k) :
    Calls Yba.prog 4 #[.string k, .string other, .int .u64 c, .int .u64 x, .bool false] w fun e w' => e = .returned (.bool true) ∧ Below w.heap.size w w' := by
  have b1 := bytes_ne hne
  have hat2 : ((DataW.map [] : DataW Unit).put (.string k.data.toList) (verD c x)).atKey (.string other.data.toList) (verD 0 0) = verD 0 0 := (atKey_put_other (lit_ne hne) _ _).trans rfl
  have hat : ((DataW.map [] : DataW Unit).put (.string k.data.toList) (verD c x)).atKey (.string k.data.toList) (verD 0 0) = verD c x := atKey_put_same (k := .string k.data.toList) ⟨[], rfl⟩ trivial _ _
  have hks := ver_neq_same
  have hke := ver_eql_same
  go_enter Yba.func4, Yba.ntmps4
  go_wp2_with fail
  refine (note_fresh w.heap.size k c x _ hk (by go_simp) (by go_simp) (by go_simp) (by go_simp)).mono ?_
  rintro e w1 ⟨rfl, bm, _, hbm, hown, c0, c2, f0, hg⟩
  obtain ⟨hN, hB⟩ := noted_mk hbm hown c0 c2 f0 hg
  have hbB : w.heap.size ≤ bm := by simp at hbm; omega
  clear hbm hown c0 c2 f0 hg
  go_wp2_with fail
  have v0 := hN.v0
  have v1 := hN.v1
  go_region_held3 (fun w' => w'.cell? ⟨w.heap.size + 1, 0, none⟩ = some (.int .u64 c) ∧ w'.cell? ⟨w.heap.size + 1, 1, none⟩ = some (.int .u64 x)) (first | exact ⟨v0, v1⟩ | exact ⟨kept hb1 v0, kept hb1 v1⟩) ((go_at_call 8; refine (newest_at hN.drew hk hat).mono ?_; rintro e w2 ⟨rfl, hb1⟩))
  have hN2 := hN.drew.kept hb1
  have hB2 := bstep hB.drew hb1
  clear hN hB v0 v1 hb1
  go_wp2_with fail
  refine (newest_at hN2 ho hat2).mono ?_
  rintro e w3 ⟨rfl, hb3⟩
  have hN3 := hN2.kept hb3
  have hB3 := bstep hB2 hb3
  clear hN2 hB2 hb3
  go_wp2
  go_ret
  exact ⟨rfl, hB3⟩

set_option maxHeartbeats 1600000 in
set_option maxRecDepth 100000 in
theorem drop_same (k : ByteArray) (c x : Int) (w : World) (hk : k.size ≤ maxLen) :
    Calls Yba.prog 4 #[.string k, .string k, .int .u64 c, .int .u64 x, .bool true] w fun e w' => e = .returned (.bool true) ∧ Below w.heap.size w w' := by
  have hat : ((DataW.map [] : DataW Unit).put (.string k.data.toList) (verD c x)).atKey (.string k.data.toList) (verD 0 0) = verD c x := atKey_put_same (k := .string k.data.toList) ⟨[], rfl⟩ trivial _ _
  have hks := ver_neq_same
  have hke := ver_eql_same
  go_enter Yba.func4, Yba.ntmps4
  go_wp2_with fail
  refine (note_fresh w.heap.size k c x _ hk (by go_simp) (by go_simp) (by go_simp) (by go_simp)).mono ?_
  rintro e w1 ⟨rfl, bm, _, hbm, hown, c0, c2, f0, hg⟩
  obtain ⟨hN, hB⟩ := noted_mk hbm hown c0 c2 f0 hg
  have hbB : w.heap.size ≤ bm := by simp at hbm; omega
  clear hbm hown c0 c2 f0 hg
  go_wp2_with fail
  have v0 := hN.v0
  have v1 := hN.v1
  go_region_held3 (fun w' => w'.cell? ⟨w.heap.size + 1, 0, none⟩ = some (.int .u64 c) ∧ w'.cell? ⟨w.heap.size + 1, 1, none⟩ = some (.int .u64 x)) (first | exact ⟨v0, v1⟩ | exact ⟨kept hb1 v0, kept hb1 v1⟩) ((go_at_call 8; refine (newest_at hN.drew hk hat).mono ?_; rintro e w2 ⟨rfl, hb1⟩))
  have hN2 := hN.drew.kept hb1
  have hB2 := bstep hB.drew hb1
  clear hN hB v0 v1 hb1
  go_wp2_with fail
  refine (drop_at hN2 hk).mono ?_
  rintro e w4 ⟨rfl, hN4, hg4⟩
  have hB4 : Below w.heap.size w w4 := hB2.grown hg4 hB2.size (fun q hq => by cases hq; exact hbB)
  clear hN2 hB2 hg4
  go_wp2_with fail
  refine (newest_at (a := 0) (b := 0) hN4 hk (atKey_del_same _)).mono ?_
  rintro e w5 ⟨rfl, hb5⟩
  go_wp2
  go_ret
  exact ⟨by simp, bstep hB4 hb5⟩

set_option maxHeartbeats 1600000 in
set_option maxRecDepth 100000 in
theorem keep_same (k : ByteArray) (c x : Int) (w : World) (hk : k.size ≤ maxLen) :
    Calls Yba.prog 4 #[.string k, .string k, .int .u64 c, .int .u64 x, .bool false] w fun e w' => e = .returned (.bool true) ∧ Below w.heap.size w w' := by
  have hat : ((DataW.map [] : DataW Unit).put (.string k.data.toList) (verD c x)).atKey (.string k.data.toList) (verD 0 0) = verD c x := atKey_put_same (k := .string k.data.toList) ⟨[], rfl⟩ trivial _ _
  have hks := ver_neq_same
  have hke := ver_eql_same
  go_enter Yba.func4, Yba.ntmps4
  go_wp2_with fail
  refine (note_fresh w.heap.size k c x _ hk (by go_simp) (by go_simp) (by go_simp) (by go_simp)).mono ?_
  rintro e w1 ⟨rfl, bm, _, hbm, hown, c0, c2, f0, hg⟩
  obtain ⟨hN, hB⟩ := noted_mk hbm hown c0 c2 f0 hg
  have hbB : w.heap.size ≤ bm := by simp at hbm; omega
  clear hbm hown c0 c2 f0 hg
  go_wp2_with fail
  have v0 := hN.v0
  have v1 := hN.v1
  go_region_held3 (fun w' => w'.cell? ⟨w.heap.size + 1, 0, none⟩ = some (.int .u64 c) ∧ w'.cell? ⟨w.heap.size + 1, 1, none⟩ = some (.int .u64 x)) (first | exact ⟨v0, v1⟩ | exact ⟨kept hb1 v0, kept hb1 v1⟩) ((go_at_call 8; refine (newest_at hN.drew hk hat).mono ?_; rintro e w2 ⟨rfl, hb1⟩))
  have hN2 := hN.drew.kept hb1
  have hB2 := bstep hB.drew hb1
  clear hN hB v0 v1 hb1
  go_wp2
  go_ret
  exact ⟨rfl, hB2⟩

end Go.Proofs.Ybulkbsbo
