/-
  The walk over LawS3433BWait (6). Own work.
-/
import Derived.Test.YbulkbsboWaitE
namespace Go.Proofs.Ybulkbsbo
set_option linter.unusedVariables false
open Go.RowKit Go.Maps

set_option maxRecDepth 100000 in
theorem wlaw_big (a0 a1 a2 : Option Addr) (l0 c0 l1 c1 l2 c2 : Nat) (w : World) (h : 1024 < l0 ∨ 1024 < l1 ∨ 1024 < l2) :
    Calls Yba.prog 6 #[.slice a0 l0 c0, .slice a1 l1 c1, .slice a2 l2 c2] w fun e w' => e = .returned (.bool true) ∧ Below w.heap.size w w' := by
  by_cases h1 : 1024 < l0
  · go_enter Yba.func6, Yba.ntmps6
    go_wp2
    go_ret
    exact ⟨rfl, (Below.refl _ _).alloc (Nat.le_refl _) _⟩
  by_cases h2 : 1024 < l1
  · go_enter Yba.func6, Yba.ntmps6
    go_wp2
    go_ret
    exact ⟨rfl, (Below.refl _ _).alloc (Nat.le_refl _) _⟩
  · have h3 : 1024 < l2 := by omega
    go_enter Yba.func6, Yba.ntmps6
    go_wp2
    go_ret
    exact ⟨rfl, (Below.refl _ _).alloc (Nat.le_refl _) _⟩

set_option maxHeartbeats 1600000 in
set_option maxRecDepth 100000 in
theorem wlaw_all (a0 a1 a2 : Option Addr) (l0 c0 l1 c1 l2 c2 : Nat) (z0 z1 z2 : Nat → Int) (w : World) (h0 : l0 ≤ 1024) (h1 : l1 ≤ 1024) (h2 : l2 ≤ 1024)
    (i0 : IntsAt w a0 l0 z0) (i1 : IntsAt w a1 l1 z1) (i2 : IntsAt w a2 l2 z2) (w0 : ∀ i, i < l0 → (Lit.int .i64 (z0 i)).wf = true) (w1 : ∀ i, i < l1 → (Lit.int .i64 (z1 i)).wf = true) (w2 : ∀ i, i < l2 → (Lit.int .i64 (z2 i)).wf = true)
    (hall : ∀ i, i < l0 → (inB l1 z1 (z0 i) || inB l2 z2 (z0 i)) = true) :
    Calls Yba.prog 6 #[.slice a0 l0 c0, .slice a1 l1 c1, .slice a2 l2 c2] w fun e w' => e = .returned (.bool true) ∧ Below w.heap.size w w' := by
  have hmf : ∀ (fn : Fn) (first cap : Array Value) (w : World), (Instr.makeFunc fn first cap).run Yba.prog w = .ok (.func fn first cap) w := fun _ _ _ _ => rfl
  have hmm := @run_makeMap Yba.prog
  have hno := fun (w' : World) (a : Option Addr) (l c : Nat) => run_neq_slice_nil_any (P := Yba.prog) w' 45 3 a l c 0 0 Yba.underlying45
  have d0 : decide (1024 < (l0 : Int)) = false := by simp; omega
  have d1 : decide (1024 < (l1 : Int)) = false := by simp; omega
  have d2 : decide (1024 < (l2 : Int)) = false := by simp; omega
  go_enter Yba.func6, Yba.ntmps6
  go_wp2_with (go_at_call 17; refine (new_any _ _).mono ?_; rintro e w' ⟨rfl, rfl⟩)
  go_loopw [41] (fun i wr => ∃ k : Nat, k ≤ l1 ∧ i = .int .i64 k ∧ Laid w wr w.heap.size (w.heap.size + 1 + 1 + 1) (w.heap.size + 1 + 1 + 1 + 1) (w.heap.size + 1 + 1 + 1 + 1 + 1) a0 l0 c0 k 0 z1 z2) (fun i _ => l1 - (intOf i).toNat)
  case atStart => exact ⟨0, Nat.zero_le _, rfl, laid_made w a0 l0 c0 z1 z2⟩
  case round =>
    obtain ⟨k, hk, rfl, hL⟩ := hrel
    by_cases hlt : k < l1
    · obtain ⟨b, o, hix, hc⟩ := index_at (i1.kept hL.below) hlt c1
      have hr1 := hL.r1
      obtain ⟨D, hown, hD⟩ := hL.m2
      have hkey := keyOf_int_mk Yba.underlying3 (w1 k hlt)
      go_wp2_with (at_mapUpdate; refine wpList_mapUpdate_own _ rfl _ _ _ 50 rfl 3 70 key3 Yba.underlying50 errElem (w.heap.size + 1 + 1 + 1) k D rfl hown (by unfold maxLen; omega) _ _ _ rfl rfl hkey (.lit (.bool true)) [] rfl ?_; intro wq hown1 hg1)
      have hL1 := hL.step1 hD hown hown1 hg1
      clear hown1 hg1 hL hown hD
      go_wp2
      go_roundw
      case rel => exact ⟨k + 1, by omega, by go_num, hL1⟩
      case measure => simp [intOf]; omega
    · obtain rfl : l1 = k := by omega
      clear hk hlt
      go_wp2_with fail
      obtain ⟨wx, rfl⟩ : ∃ wx : World, wx = wr := ⟨_, rfl⟩
      go_loopw [54] (fun i wr => ∃ k : Nat, k ≤ l2 ∧ i = .int .i64 k ∧ Laid w wr w.heap.size (w.heap.size + 1 + 1 + 1) (w.heap.size + 1 + 1 + 1 + 1) (w.heap.size + 1 + 1 + 1 + 1 + 1) a0 l0 c0 l1 k z1 z2) (fun i _ => l2 - (intOf i).toNat)
      case atStart => exact ⟨0, Nat.zero_le _, rfl, hL⟩
      case round =>
        obtain ⟨k, hk, rfl, hL2⟩ := hrel
        clear hL
        by_cases hlt : k < l2
        · obtain ⟨b, o, hix, hc⟩ := index_at (i2.kept hL2.below) hlt c2
          have hr2 := hL2.r2
          obtain ⟨D, hown, hD⟩ := hL2.m3
          have hkey := keyOf_int_mk Yba.underlying3 (w2 k hlt)
          go_wp2_with (at_mapUpdate; refine wpList_mapUpdate_own _ rfl _ _ _ 49 rfl 3 4 key3 Yba.underlying49 (plainElem (H := Unit) Yba.prog 4) (w.heap.size + 1 + 1 + 1 + 1) k D rfl hown (by unfold maxLen; omega) _ _ _ rfl rfl hkey (.lit (.bool true)) [] (plainElem_bool Yba.underlying4 true) ?_; intro wq hown1 hg1)
          have hL1 := hL2.step2 hD hown hown1 hg1
          clear hown1 hg1 hL2 hown hD
          go_wp2
          go_roundw
          case rel => exact ⟨k + 1, by omega, by go_num, hL1⟩
          case measure => simp [intOf]; omega
        · obtain rfl : l2 = k := by omega
          clear hk hlt
          go_wp2_with fail
          refine (fetch_func _ _ ⟨#[]⟩ _ _ _ none 0 0 _ (opAt_wait wr w.heap.size (w.heap.size + 1 + 1 + 1 + 1 + 1))).mono ?_
          rintro e w3 ⟨F, rfl, Hb, Ob, hf⟩
          have hB3 := below_step (below_step hL2.below (wait_below wr w.heap.size (w.heap.size + 1 + 1 + 1 + 1 + 1))) hf.below
          have hR3 := (ready_mk hL2 i0 h0 w0).kept hf.below
          have hCv : w.heap.size < wr.heap.size := cell_lt hL2.hC
          obtain ⟨d0', d1', d2', d4', d5', d7', _, dH, dO, _, _⟩ := hf
          clear hL2
          go_wp2_with fail
          refine (pick_zero Hb 0 none _ _ _ _ _ _ w3 dH).mono ?_
          rintro e w4 ⟨rfl, hb4⟩
          have hR4 := hR3.kept hb4
          have hB4 := below_step hB3 hb4
          have e4 := cell_kept hb4 d4'
          have eO := cell_kept hb4 dO
          have eV := hR4.hv
          clear hR3 hB3 d0' d1' d2' d4' d5' d7' dH dO
          go_wp2_with fail
          refine (wait_all Ob _ _ _ _ _ _ _ _ _ _ _ _ w4 eO hR4 hall).mono ?_
          rintro e w5 ⟨rfl, hc5, hb5⟩
          have hB5 : Below w.heap.size w w5 := hB4.trans (hb5.mono (Nat.le_of_lt hCv))
          have hC5 : w5.cell? ⟨w.heap.size, 0, none⟩ = some (.slice a0 l0 c0) := (hb5.cell (p := ⟨w.heap.size, 0, none⟩) hCv).trans hR4.hC
          have j0 := i0.kept hB5
          have j1 := i1.kept hB5
          have j2 := i2.kept hB5
          clear hR4 hB4 e4 eO eV hb5 i0 i1 i2
          go_wp2_with fail
          go_loop [17, 88] (fun v i => v = .bool true ∧ ∃ k : Nat, k ≤ l0 ∧ i = .int .i64 k) (fun _ i => l0 - (intOf i).toNat)
          case atStart => exact ⟨rfl, 0, Nat.zero_le _, rfl⟩
          case round =>
            obtain ⟨rfl, k, hk, rfl⟩ := hrel
            by_cases hlt : k < l0
            · obtain ⟨b, o, hix, hc⟩ := index_at j0 hlt c0
              have hlk := hall k hlt
              go_wp2_with fail
              refine (in_any a1 l1 c1 z1 (z0 k) _ h1 j1).mono ?_
              rintro e w6 ⟨rfl, rfl⟩
              cases hq : inB l1 z1 (z0 k) with
              | true =>
                clear hlk
                go_wp2_with fail
                go_round
                case rel => exact ⟨rfl, k + 1, by omega, by go_num⟩
                case measure => simp [intOf]; omega
              | false =>
                rw [hq, Bool.false_or] at hlk
                go_wp2_with fail
                refine (in_any a2 l2 c2 z2 (z0 k) _ h2 j2).mono ?_
                rintro e w7 ⟨rfl, rfl⟩
                rw [hlk]
                go_wp2_with fail
                go_round
                case rel => exact ⟨rfl, k + 1, by omega, by go_num⟩
                case measure => simp [intOf]; omega
            · go_wp2_with fail
              go_ret
              exact ⟨by simp, hB5⟩

end Go.Proofs.Ybulkbsbo
