/-
  The walk over LawS3433ALookup (3): a map. Own work.
-/
import Derived.Test.YbulkbsboLookB
namespace Go.Proofs.Ybulkbsbo
set_option linter.unusedVariables false
open Go.RowKit Go.Maps Go.MuLone Go.WideMaps

/-- A receiver at block r, its map at block bm reading as D. -/
structure Held (w : World) (r bm n : Nat) (D : DataW Unit) : Prop where
  c0 : w.cell? ⟨r, 0, none⟩ = some (.int .i32 0)
  f0 : w.frozen? ⟨r, 0, none⟩ = false
  c2 : w.cell? ⟨r, 2, none⟩ = some (.map (some bm))
  ne : bm ≠ r
  own : w.ownsMap Yba.prog 9 verElem bm n D

theorem Held.kept {w w' : World} {r bm n : Nat} {D : DataW Unit} (h : Held w r bm n D) (hb : Below w.heap.size w w') : Held w' r bm n D :=
  ⟨Ybulkbsbo.kept hb h.c0, (hb.frozen (below_lt h.c0)).trans h.f0, Ybulkbsbo.kept hb h.c2, h.ne, own_kept h.own hb⟩
theorem Held.drew {w : World} {r bm n : Nat} {D : DataW Unit} (h : Held w r bm n D) : Held w.drew r bm n D := ⟨h.c0, h.f0, h.c2, h.ne, h.own⟩
theorem Held.turned {w w' : World} {r bm n n' : Nat} {D D' : DataW Unit} (h : Held w r bm n D) (ho : w'.ownsMap Yba.prog 9 verElem bm n' D') (hg : w.grownBy w' (some bm)) : Held w' r bm n' D' :=
  ⟨grown_at hg (Ne.symm h.ne) h.c0, (World.frozen?_of_block (w := w) (a := ⟨r, 0, none⟩) (hg.block r (below_lt h.c0) (fun e => h.ne (Option.some.inj e).symm))).trans h.f0, grown_at hg (Ne.symm h.ne) h.c2, h.ne, ho⟩
theorem newest_held {w : World} {r bm n : Nat} {D : DataW Unit} (h : Held w r bm n D) {s : ByteArray} (hs : s.size ≤ maxLen) {a b : Int} (hat : D.atKey (.string s.data.toList) (verD 0 0) = verD a b) :
    Calls Yba.prog 8 #[.pointer (some ⟨r, 0, none⟩), .string s] w fun e w' => e = .returned (.agg #[.int .u64 a, .int .u64 b]) ∧ Below w.heap.size w w' :=
  newest_map r bm n D a b s w hs h.c0 h.f0 h.c2 h.ne h.own hat
theorem held_made (w : World) : Held ((w.alloc (.cells #[.int .i32 0, .int .u32 0, .map (some (w.heap.size + 1))] 34)).alloc (.map #[] 0)) w.heap.size (w.heap.size + 1) 0 (.map []) where
  c0 := by go_simp
  f0 := by go_simp
  c2 := by go_simp
  ne := by omega
  own := by
    have h := World.ownsMap_made (w.alloc (.cells #[.int .i32 0, .int .u32 0, .map (some (w.heap.size + 1))] 34)) Yba.prog 9 verElem
    simpa using h

/-- The map reads as the last pairs of the first k. -/
def Reads (D : DataW Unit) (ks : Nat → ByteArray) (cs ws : Nat → Int) (k : Nat) : Prop := ∀ s : ByteArray, D.atKey (.string s.data.toList) (verD 0 0) = verD (wantP ks cs ws k s).1 (wantP ks cs ws k s).2
theorem reads_start (ks : Nat → ByteArray) (cs ws : Nat → Int) : Reads (.map []) ks cs ws 0 := fun s => rfl
theorem reads_step {D : DataW Unit} {ks : Nat → ByteArray} {cs ws : Nat → Int} {k : Nat} (h : Reads D ks cs ws k) (hD : IsMap D) : Reads (D.put (.string (ks k).data.toList) (verD (cs k) (ws k))) ks cs ws (k + 1) := fun s => by
  rw [wantP]
  by_cases e : ks k = s
  · subst e
    rw [if_pos rfl, atKey_put_same (k := .string (ks k).data.toList) hD trivial]
  · rw [if_neg e, atKey_put_other (lit_ne (Ne.symm e)), h s]
theorem reads_at {D : DataW Unit} {ks : Nat → ByteArray} {cs ws : Nat → Int} {k : Nat} (h : Reads D ks cs ws k) {s : ByteArray} {a b : Int} (hw : wantP ks cs ws k s = (a, b)) : D.atKey (.string s.data.toList) (verD 0 0) = verD a b := by
  rw [h s, hw]

set_option maxHeartbeats 1600000 in
set_option maxRecDepth 100000 in
theorem look_map_lt (a0 a1 : Option Addr) (l0 c0 l1 c1 : Nat) (ks : Nat → ByteArray) (cs ws : Nat → Int) (q : ByteArray) (w : World) (h0 : l0 ≤ 1024) (h1 : l1 ≤ 1024) (hlt : l1 < l0) (hq : q.size ≤ maxLen) (hk : KeysAt w a0 l0 ks) (hv : ValsAt w a1 l1 cs ws) (hks : ∀ i, i < l0 → (ks i).size ≤ maxLen) :
    Calls Yba.prog 3 #[.slice a0 l0 c0, .slice a1 l1 c1, .string q, .bool false] w fun e w' => e = .returned (.bool true) ∧ Below w.heap.size w w' := by
  have d0 : decide (1024 < (l0 : Int)) = false := by simp; omega
  have d1 : decide (1024 < (l1 : Int)) = false := by simp; omega
  have d2 : decide ((l1 : Int) < (l0 : Int)) = true := by simp; omega
  have hsame := ver_neq_same
  have hmm := @run_makeMap Yba.prog
  go_enter Yba.func3, Yba.ntmps3
  go_wp2_with fail
  go_loopw [11] (fun i wr => ∃ k : Nat, k ≤ l1 ∧ i = .int .i64 k ∧ Below w.heap.size w wr ∧ ∃ D, Held wr w.heap.size (w.heap.size + 1) k D ∧ Reads D ks cs ws k) (fun i _ => l1 - (intOf i).toNat)
  case atStart => exact ⟨0, Nat.zero_le _, rfl, ((Below.refl _ _).alloc (Nat.le_refl _) _).alloc (by simp) _, _, held_made w, reads_start ks cs ws⟩
  case round =>
    obtain ⟨k, hkn, rfl, hBk, D, hH, hR⟩ := hrel
    by_cases hkl : k < l1
    · obtain ⟨b, o, hix, hc⟩ := key_at (hk.kept hBk) (show k < l0 by omega) c0
      obtain ⟨b', o', hix', hc0, hc1⟩ := val_at (hv.kept hBk) (show k < l1 by omega) c1
      have c2 := hH.c2
      obtain ⟨w1, hup, hown1, hg1⟩ := hH.drew.own.update key9 Yba.underlying32 (by unfold maxLen; omega) (keyOf_string_mk Yba.underlying9 (hks k (by omega))) (verElem_mk (cs k) (ws k))
      have hH1 := hH.drew.turned hown1 hg1
      have hR1 := reads_step hR hH.own.isMap
      have hB1 : Below w.heap.size w w1 := hBk.drew.grown hg1 hBk.size (fun j hj => by cases hj; omega)
      clear hown1 hg1 hH hR hBk
      go_wp2_with fail
      go_region
      go_wp2
      go_roundw
      case rel => exact ⟨k + 1, by omega, by go_num, hB1, _, hH1, hR1⟩
      case measure => simp [intOf]; omega
    · obtain rfl : l1 = k := by omega
      have hlen := hH.own.len Yba.underlying32 3
      have c2 := hH.c2
      obtain ⟨⟨a, b⟩, hw⟩ : ∃ v, wantP ks cs ws l1 q = v := ⟨_, rfl⟩
      have Hw : Hid (wantP ks cs ws l1 q = (a, b)) := hw
      clear hw hkn hkl
      go_wp2_with fail
      refine (newest_held hH hq (reads_at hR Hw.out)).mono ?_
      rintro e w1 ⟨rfl, hb1⟩
      have hH1 := hH.kept hb1
      have hB1 := bstep hBk hb1
      clear hlen c2 hb1 hH hBk
      go_wp2_with fail
      refine (want_any a0 a1 l0 c0 l1 c1 l1 ks cs ws q _ h0 h1 (by omega) (by omega) (hk.kept hB1) (hv.kept hB1) a b Hw.out).mono ?_
      rintro e w2 ⟨rfl, hb2⟩
      have hH2 := hH1.kept hb2
      have hB2 := bstep hB1 hb2
      clear hb2 hH1 hB1 Hw
      go_wp2_with fail
      go_loopw [13] (fun i wr => ∃ k : Nat, k ≤ l1 ∧ i = .int .i64 k ∧ Below w2.heap.size w2 wr) (fun i _ => l1 - (intOf i).toNat)
      case atStart => exact ⟨0, Nat.zero_le _, rfl, Below.refl _ _⟩
      case round =>
        obtain ⟨k, hkn, rfl, hbk⟩ := hrel
        have hHk := hH2.kept hbk
        have hBk := bstep hB2 hbk
        by_cases hkl : k < l1
        · obtain ⟨b', o, hix, hc⟩ := key_at (hk.kept hBk) (show k < l0 by omega) c0
          have hsz := hks k (by omega)
          obtain ⟨⟨x, y⟩, hw⟩ : ∃ v, wantP ks cs ws l1 (ks k) = v := ⟨_, rfl⟩
          have Hw : Hid (wantP ks cs ws l1 (ks k) = (x, y)) := hw
          clear hw
          go_wp2_with fail
          go_region_held3 (fun w' => w'.cell? ⟨b', o + k, none⟩ = some (.string (ks k))) (first | exact hc | exact kept hb3 hc | exact kept hb4 (kept hb3 hc)) ((first | (go_at_call 8; refine (newest_held hHk.drew hsz (reads_at hR Hw.out)).mono ?_; rintro e w3 ⟨rfl, hb3⟩) | (go_at_call 9; refine (want_any a0 a1 l0 c0 l1 c1 l1 ks cs ws (ks k) _ h0 h1 (by omega) (by omega) (hk.kept (bstep hBk.drew hb3)) (hv.kept (bstep hBk.drew hb3)) x y Hw.out).mono ?_; rintro e w4 ⟨rfl, hb4⟩)))
          have hbk2 := bstep (bstep hbk.drew hb3) hb4
          clear hc hix hHk hBk
          go_wp2
          go_roundw
          case rel => exact ⟨k + 1, by omega, by go_num, hbk2⟩
          case measure => simp [intOf]; omega
        · have c2 := hHk.c2
          have hlen := hHk.own.len Yba.underlying32 3
          go_wp2
          go_ret
          exact ⟨rfl, hBk⟩

set_option maxHeartbeats 1600000 in
set_option maxRecDepth 100000 in
theorem look_map_ge (a0 a1 : Option Addr) (l0 c0 l1 c1 : Nat) (ks : Nat → ByteArray) (cs ws : Nat → Int) (q : ByteArray) (w : World) (h0 : l0 ≤ 1024) (h1 : l1 ≤ 1024) (hlt : ¬ l1 < l0) (hq : q.size ≤ maxLen) (hk : KeysAt w a0 l0 ks) (hv : ValsAt w a1 l1 cs ws) (hks : ∀ i, i < l0 → (ks i).size ≤ maxLen) :
    Calls Yba.prog 3 #[.slice a0 l0 c0, .slice a1 l1 c1, .string q, .bool false] w fun e w' => e = .returned (.bool true) ∧ Below w.heap.size w w' := by
  have d0 : decide (1024 < (l0 : Int)) = false := by simp; omega
  have d1 : decide (1024 < (l1 : Int)) = false := by simp; omega
  have d2 : decide ((l1 : Int) < (l0 : Int)) = false := by simp; omega
  have hsame := ver_neq_same
  have hmm := @run_makeMap Yba.prog
  go_enter Yba.func3, Yba.ntmps3
  go_wp2_with fail
  go_loopw [11] (fun i wr => ∃ k : Nat, k ≤ l0 ∧ i = .int .i64 k ∧ Below w.heap.size w wr ∧ ∃ D, Held wr w.heap.size (w.heap.size + 1) k D ∧ Reads D ks cs ws k) (fun i _ => l0 - (intOf i).toNat)
  case atStart => exact ⟨0, Nat.zero_le _, rfl, ((Below.refl _ _).alloc (Nat.le_refl _) _).alloc (by simp) _, _, held_made w, reads_start ks cs ws⟩
  case round =>
    obtain ⟨k, hkn, rfl, hBk, D, hH, hR⟩ := hrel
    by_cases hkl : k < l0
    · obtain ⟨b, o, hix, hc⟩ := key_at (hk.kept hBk) (show k < l0 by omega) c0
      obtain ⟨b', o', hix', hc0, hc1⟩ := val_at (hv.kept hBk) (show k < l1 by omega) c1
      have c2 := hH.c2
      obtain ⟨w1, hup, hown1, hg1⟩ := hH.drew.own.update key9 Yba.underlying32 (by unfold maxLen; omega) (keyOf_string_mk Yba.underlying9 (hks k (by omega))) (verElem_mk (cs k) (ws k))
      have hH1 := hH.drew.turned hown1 hg1
      have hR1 := reads_step hR hH.own.isMap
      have hB1 : Below w.heap.size w w1 := hBk.drew.grown hg1 hBk.size (fun j hj => by cases hj; omega)
      clear hown1 hg1 hH hR hBk
      go_wp2_with fail
      go_region
      go_wp2
      go_roundw
      case rel => exact ⟨k + 1, by omega, by go_num, hB1, _, hH1, hR1⟩
      case measure => simp [intOf]; omega
    · obtain rfl : l0 = k := by omega
      have hlen := hH.own.len Yba.underlying32 3
      have c2 := hH.c2
      obtain ⟨⟨a, b⟩, hw⟩ : ∃ v, wantP ks cs ws l0 q = v := ⟨_, rfl⟩
      have Hw : Hid (wantP ks cs ws l0 q = (a, b)) := hw
      clear hw hkn hkl
      go_wp2_with fail
      refine (newest_held hH hq (reads_at hR Hw.out)).mono ?_
      rintro e w1 ⟨rfl, hb1⟩
      have hH1 := hH.kept hb1
      have hB1 := bstep hBk hb1
      clear hlen c2 hb1 hH hBk
      go_wp2_with fail
      refine (want_any a0 a1 l0 c0 l1 c1 l0 ks cs ws q _ h0 h1 (by omega) (by omega) (hk.kept hB1) (hv.kept hB1) a b Hw.out).mono ?_
      rintro e w2 ⟨rfl, hb2⟩
      have hH2 := hH1.kept hb2
      have hB2 := bstep hB1 hb2
      clear hb2 hH1 hB1 Hw
      go_wp2_with fail
      go_loopw [13] (fun i wr => ∃ k : Nat, k ≤ l0 ∧ i = .int .i64 k ∧ Below w2.heap.size w2 wr) (fun i _ => l0 - (intOf i).toNat)
      case atStart => exact ⟨0, Nat.zero_le _, rfl, Below.refl _ _⟩
      case round =>
        obtain ⟨k, hkn, rfl, hbk⟩ := hrel
        have hHk := hH2.kept hbk
        have hBk := bstep hB2 hbk
        by_cases hkl : k < l0
        · obtain ⟨b', o, hix, hc⟩ := key_at (hk.kept hBk) (show k < l0 by omega) c0
          have hsz := hks k (by omega)
          obtain ⟨⟨x, y⟩, hw⟩ : ∃ v, wantP ks cs ws l0 (ks k) = v := ⟨_, rfl⟩
          have Hw : Hid (wantP ks cs ws l0 (ks k) = (x, y)) := hw
          clear hw
          go_wp2_with fail
          go_region_held3 (fun w' => w'.cell? ⟨b', o + k, none⟩ = some (.string (ks k))) (first | exact hc | exact kept hb3 hc | exact kept hb4 (kept hb3 hc)) ((first | (go_at_call 8; refine (newest_held hHk.drew hsz (reads_at hR Hw.out)).mono ?_; rintro e w3 ⟨rfl, hb3⟩) | (go_at_call 9; refine (want_any a0 a1 l0 c0 l1 c1 l0 ks cs ws (ks k) _ h0 h1 (by omega) (by omega) (hk.kept (bstep hBk.drew hb3)) (hv.kept (bstep hBk.drew hb3)) x y Hw.out).mono ?_; rintro e w4 ⟨rfl, hb4⟩)))
          have hbk2 := bstep (bstep hbk.drew hb3) hb4
          clear hc hix hHk hBk
          go_wp2
          go_roundw
          case rel => exact ⟨k + 1, by omega, by go_num, hbk2⟩
          case measure => simp [intOf]; omega
        · have c2 := hHk.c2
          have hlen := hHk.own.len Yba.underlying32 3
          go_wp2
          go_ret
          exact ⟨rfl, hBk⟩

end Go.Proofs.Ybulkbsbo
