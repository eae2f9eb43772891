/-
  The walk over LawS3433ALookup (3): no map. Own work.
-/
import Derived.Test.YbulkbsboLookA
namespace Go.Proofs.Ybulkbsbo
set_option linter.unusedVariables false
open Go.RowKit Go.Maps Go.MuLone Go.WideMaps

set_option maxRecDepth 100000 in
theorem look_big (a0 a1 : Option Addr) (l0 c0 l1 c1 : Nat) (q : ByteArray) (nm : Bool) (w : World) (h : 1024 < l0 ∨ 1024 < l1) :
    Calls Yba.prog 3 #[.slice a0 l0 c0, .slice a1 l1 c1, .string q, .bool nm] w fun e w' => e = .returned (.bool true) ∧ Below w.heap.size w w' := by
  by_cases h1 : 1024 < l0
  · go_enter Yba.func3, Yba.ntmps3
    go_wp2
    go_ret
    exact ⟨rfl, Below.refl _ _⟩
  · have h2 : 1024 < l1 := by omega
    go_enter Yba.func3, Yba.ntmps3
    go_wp2
    go_ret
    exact ⟨rfl, Below.refl _ _⟩

/-- A receiver at block r without a map. -/
structure Bare (w : World) (r : Nat) : Prop where
  c0 : w.cell? ⟨r, 0, none⟩ = some (.int .i32 0)
  f0 : w.frozen? ⟨r, 0, none⟩ = false
  c2 : w.cell? ⟨r, 2, none⟩ = some (.map none)

theorem Bare.kept {w w' : World} {r : Nat} (h : Bare w r) (hb : Below w.heap.size w w') : Bare w' r :=
  ⟨Ybulkbsbo.kept hb h.c0, (hb.frozen (below_lt h.c0)).trans h.f0, Ybulkbsbo.kept hb h.c2⟩
theorem Bare.drew {w : World} {r : Nat} (h : Bare w r) : Bare w.drew r := ⟨h.c0, h.f0, h.c2⟩
theorem bare_made (w : World) : Bare (w.alloc (.cells #[.int .i32 0, .int .u32 0, .map none] 34)) w.heap.size := ⟨by go_simp, by go_simp, by go_simp⟩
theorem newest_bare {w : World} {r : Nat} (h : Bare w r) {s : ByteArray} (hs : s.size ≤ maxLen) :
    Calls Yba.prog 8 #[.pointer (some ⟨r, 0, none⟩), .string s] w fun e w' => e = .returned (.agg #[.int .u64 0, .int .u64 0]) ∧ Below w.heap.size w w' := newest_nil r s w hs h.c0 h.f0 h.c2

set_option maxHeartbeats 1600000 in
set_option maxRecDepth 100000 in
theorem look_nil_lt (a0 a1 : Option Addr) (l0 c0 l1 c1 : Nat) (ks : Nat → ByteArray) (q : ByteArray) (w : World) (h0 : l0 ≤ 1024) (h1 : l1 ≤ 1024) (hlt : l1 < l0) (hq : q.size ≤ maxLen) (hk : KeysAt w a0 l0 ks) (hks : ∀ i, i < l0 → (ks i).size ≤ maxLen) :
    Calls Yba.prog 3 #[.slice a0 l0 c0, .slice a1 l1 c1, .string q, .bool true] w fun e w' => e = .returned (.bool true) ∧ Below w.heap.size w w' := by
  have d0 : decide (1024 < (l0 : Int)) = false := by simp; omega
  have d1 : decide (1024 < (l1 : Int)) = false := by simp; omega
  have d2 : decide ((l1 : Int) < (l0 : Int)) = true := by simp; omega
  have hsame := ver_neq_same
  have hnm : ∀ (w : World) (r : Option Nat), (binOp .neq 32 (.map r) (.map none)).run Yba.prog w = .ok (.bool (!r.isNone)) w := fun w r => run_neq_map_nil w _ _ _ r Yba.underlying32
  go_enter Yba.func3, Yba.ntmps3
  go_wp2_with fail
  refine (newest_bare (bare_made w) hq).mono ?_
  rintro e w1 ⟨rfl, hb1⟩
  have hH1 := (bare_made w).kept hb1
  have hB1 := bstep ((Below.refl w.heap.size w).alloc (Nat.le_refl _) _) hb1
  clear hb1
  go_wp2_with fail
  refine (want_nil a0 a1 l0 c0 l1 c1 l1 q _).mono ?_
  rintro e w2 ⟨rfl, hb2⟩
  have hH2 := hH1.kept hb2
  have hB2 := bstep hB1 hb2
  clear hb2 hH1 hB1
  go_wp2_with fail
  go_loopw [13] (fun i wr => ∃ k : Nat, k ≤ l1 ∧ i = .int .i64 k ∧ Below w2.heap.size w2 wr) (fun i _ => l1 - (intOf i).toNat)
  case atStart => exact ⟨0, Nat.zero_le _, rfl, Below.refl _ _⟩
  case round =>
    obtain ⟨k, hkn, rfl, hbk⟩ := hrel
    have hHk := hH2.kept hbk
    have hBk := bstep hB2 hbk
    by_cases hkl : k < l1
    · obtain ⟨b, o, hix, hc⟩ := key_at (hk.kept hBk) (show k < l0 by omega) c0
      have hsz := hks k (by omega)
      go_wp2_with fail
      go_region_held3 (fun w' => w'.cell? ⟨b, o + k, none⟩ = some (.string (ks k))) (first | exact hc | exact kept hb3 hc | exact kept hb4 (kept hb3 hc)) ((first | (go_at_call 8; refine (newest_bare hHk.drew hsz).mono ?_; rintro e w3 ⟨rfl, hb3⟩) | (go_at_call 9; refine (want_nil a0 a1 l0 c0 l1 c1 l1 (ks k) _).mono ?_; rintro e w4 ⟨rfl, hb4⟩)))
      have hbk2 := bstep (bstep hbk.drew hb3) hb4
      clear hc hix hHk hBk
      go_wp2
      go_roundw
      case rel => exact ⟨k + 1, by omega, by go_num, hbk2⟩
      case measure => simp [intOf]; omega
    · have c2 := hHk.c2
      go_wp2
      go_ret
      exact ⟨rfl, hBk⟩

set_option maxHeartbeats 1600000 in
set_option maxRecDepth 100000 in
theorem look_nil_ge (a0 a1 : Option Addr) (l0 c0 l1 c1 : Nat) (ks : Nat → ByteArray) (q : ByteArray) (w : World) (h0 : l0 ≤ 1024) (h1 : l1 ≤ 1024) (hlt : ¬ l1 < l0) (hq : q.size ≤ maxLen) (hk : KeysAt w a0 l0 ks) (hks : ∀ i, i < l0 → (ks i).size ≤ maxLen) :
    Calls Yba.prog 3 #[.slice a0 l0 c0, .slice a1 l1 c1, .string q, .bool true] w fun e w' => e = .returned (.bool true) ∧ Below w.heap.size w w' := by
  have d0 : decide (1024 < (l0 : Int)) = false := by simp; omega
  have d1 : decide (1024 < (l1 : Int)) = false := by simp; omega
  have d2 : decide ((l1 : Int) < (l0 : Int)) = false := by simp; omega
  have hsame := ver_neq_same
  have hnm : ∀ (w : World) (r : Option Nat), (binOp .neq 32 (.map r) (.map none)).run Yba.prog w = .ok (.bool (!r.isNone)) w := fun w r => run_neq_map_nil w _ _ _ r Yba.underlying32
  go_enter Yba.func3, Yba.ntmps3
  go_wp2_with fail
  refine (newest_bare (bare_made w) hq).mono ?_
  rintro e w1 ⟨rfl, hb1⟩
  have hH1 := (bare_made w).kept hb1
  have hB1 := bstep ((Below.refl w.heap.size w).alloc (Nat.le_refl _) _) hb1
  clear hb1
  go_wp2_with fail
  refine (want_nil a0 a1 l0 c0 l1 c1 l0 q _).mono ?_
  rintro e w2 ⟨rfl, hb2⟩
  have hH2 := hH1.kept hb2
  have hB2 := bstep hB1 hb2
  clear hb2 hH1 hB1
  go_wp2_with fail
  go_loopw [13] (fun i wr => ∃ k : Nat, k ≤ l0 ∧ i = .int .i64 k ∧ Below w2.heap.size w2 wr) (fun i _ => l0 - (intOf i).toNat)
  case atStart => exact ⟨0, Nat.zero_le _, rfl, Below.refl _ _⟩
  case round =>
    obtain ⟨k, hkn, rfl, hbk⟩ := hrel
    have hHk := hH2.kept hbk
    have hBk := bstep hB2 hbk
    by_cases hkl : k < l0
    · obtain ⟨b, o, hix, hc⟩ := key_at (hk.kept hBk) (show k < l0 by omega) c0
      have hsz := hks k (by omega)
      go_wp2_with fail
      go_region_held3 (fun w' => w'.cell? ⟨b, o + k, none⟩ = some (.string (ks k))) (first | exact hc | exact kept hb3 hc | exact kept hb4 (kept hb3 hc)) ((first | (go_at_call 8; refine (newest_bare hHk.drew hsz).mono ?_; rintro e w3 ⟨rfl, hb3⟩) | (go_at_call 9; refine (want_nil a0 a1 l0 c0 l1 c1 l0 (ks k) _).mono ?_; rintro e w4 ⟨rfl, hb4⟩)))
      have hbk2 := bstep (bstep hbk.drew hb3) hb4
      clear hc hix hHk hBk
      go_wp2
      go_roundw
      case rel => exact ⟨k + 1, by omega, by go_num, hbk2⟩
      case measure => simp [intOf]; omega
    · have c2 := hHk.c2
      go_wp2
      go_ret
      exact ⟨rfl, hBk⟩

end Go.Proofs.Ybulkbsbo
