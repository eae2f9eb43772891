/-
  The walk over LawS3432CBuilt (6). Own work.
-/
import Derived.Test.YbulkbsbaFmtWalkC
import Derived.Deep.OwnRows
namespace Go.Proofs.YbulkbsbaFmt
set_option linter.unusedVariables false
open Go.RowKit Go.Extern.Stop Go.Stop Go.Extern

theorem part_ok0 (b len cap : Nat) (off : Nat) (w : World) (h0 : 20 ≤ off) (h1 : off < len) (hl : len ≤ cap) (hm : len ≤ 140737488355328) (h2 : off ≤ 4294967295) :
    Calls Ybaf.prog 8 #[.slice (some ⟨b, 0, none⟩) len cap, .int .u32 off] w fun e w' => e = .returned (.tuple #[.slice (some ⟨b, off, none⟩) (len - off) (cap - off), .nilIface]) ∧ w' = w := by
  have h := part_ok b 0 len cap off w h0 h1 hl hm h2
  rw [Nat.zero_add] at h
  exact h

theorem suffix_any0 (b len cap : Nat) (off : Nat) (w : World) (h1 : off < len) (hl : len ≤ cap) (hm : len ≤ 140737488355328) (f : Nat → Int)
    (hc : ∀ i, i < len → w.cell? ⟨b, i, none⟩ = some (.int .u8 (f i))) :
    Calls Ybaf.prog 10 #[.slice (some ⟨b, 0, none⟩) len cap, .int .i64 off, .slice (some ⟨b, off, none⟩) (len - off) (cap - off)] w fun e w' => e = .returned (.bool true) ∧ Below w.heap.size w w' := by
  have h := suffix_any b 0 len cap off w h1 hl hm f (fun i hi => by rw [Nat.zero_add]; exact hc i hi)
  rw [Nat.zero_add] at h
  exact h

theorem part19 (a : Option Addr) (len cap : Nat) (w : World) (hm : len ≤ 140737488355328)  :
    Calls Ybaf.prog 8 #[.slice a len cap, .int .u32 19] w fun e w' => e = .returned (.tuple #[.slice none 0 0, .iface 42 (.pointer (some ⟨w.heap.size + 1, 0, none⟩))]) ∧ Below w.heap.size w w' := part_low a len cap 19 w (by omega) hm

theorem make_row (s : Nat) (hs : s ≤ 1000) (w : World) :
    (Instr.makeSlice 28 (.int .i64 (s : Int)) (.int .i64 (s : Int))).run Ybaf.prog w = .ok (.slice (some ⟨w.heap.size, 0, none⟩) s s) (w.alloc (.cells (madeCells #[.int .u8 0] s) 5)) :=
  run_make_row' (P := Ybaf.prog) 28 5 (.int .u8 0) 1 Ybaf.underlying28 (by kernel_rfl) rfl .i64 .i64 s (by omega) (by omega) w

theorem row_put {w : World} {b n : Nat} {f : Nat → Int} (h : w.rowIs b 5 n (fun x => .int .u8 (f x))) (q : Nat) (v : Int) : (w.setCell ⟨b, q, none⟩ (.int .u8 v)).rowIs b 5 n (fun x => .int .u8 (if x = q then v else f x)) :=
  (h.set q _).congr (fun i _ => by by_cases e : i = q <;> simp [e])

set_option maxHeartbeats 800000 in
theorem built_core (seed : Int) (n k m j : Nat) (w : World) (g0 : 0 ≤ seed) (g1 : seed ≤ 255) (hn : n ≤ 65535) (hk : k ≤ 65535) (hm : (n : Int) % 300 = (m : Int)) (hm2 : m < 300) (hj : (k : Int) % (21 + (m : Int) - 20) = (j : Int)) (hj2 : j ≤ m) :
    Calls Ybaf.prog 6 #[.int .u8 seed, .int .u16 n, .int .u16 k] w fun e w' => e = .returned (.bool true) ∧ Below w.heap.size w w' := by
  have hmk := fun w' => make_row (21 + m) (by omega) w'
  rw [show ((21 + m : Nat) : Int) = 21 + (m : Int) by omega] at hmk
  have hns := fun (w' : World) (a : Option Addr) (l c : Nat) => run_neq_slice_nil_any (P := Ybaf.prog) w' 28 5 a l c 0 0 Ybaf.underlying28
  go_enter Ybaf.func6, Ybaf.ntmps6
  go_wp2_with fail
  clear hmk
  go_loopw [9] (fun i wr => ∃ q : Nat, q ≤ 21 + m ∧ i = .int .i64 q ∧ (∃ f : Nat → Int, wr.rowIs w.heap.size 5 (21 + m) (fun x => .int .u8 (f x))) ∧ Below w.heap.size w wr) (fun i _ => 21 + m - (intOf i).toNat)
  case atStart => exact ⟨0, Nat.zero_le _, rfl, ⟨fun _ => 0, World.rowIs_made _ _ _ _⟩, (Below.refl _ _).alloc (Nat.le_refl _) _⟩
  case round =>
    obtain ⟨q, hq, rfl, ⟨f, hrow⟩, hb⟩ := hrel
    by_cases hlt : q < 21 + m
    · have c1 := hrow.cell hlt
      have c2 := hrow.frozen q
      go_wp2
      go_roundw
      case rel =>
        exact ⟨q + 1, by omega, by go_num, ⟨_, row_put hrow q _⟩, hb.setCell (Nat.le_refl _) _⟩
      case measure => simp [intOf]; omega
    · go_wp2_with fail
      rw [show (20 : Int) + (j : Int) = ((20 + j : Nat) : Int) by omega]
      refine (part_ok0 _ _ _ (20 + j) _ (by omega) (by omega) (by omega) (by omega) (by omega)).mono ?_
      rintro e w' ⟨rfl, rfl⟩
      go_wp2_with fail
      rw [show (20 : Int) + (j : Int) = ((20 + j : Nat) : Int) by omega]
      refine (suffix_any0 _ _ _ (20 + j) _ (by omega) (by omega) (by omega) f (fun i hi => hrow.cell hi)).mono ?_
      rintro e w1 ⟨rfl, hb1⟩
      clear hrow
      go_wp2_with fail
      refine (part19 _ _ _ _ (by omega)).mono ?_
      rintro e w2 ⟨rfl, hb2⟩
      go_wp2_with fail
      rw [show (21 : Int) + (m : Int) = ((21 + m : Nat) : Int) by omega]
      refine (part_high _ _ _ (21 + m) _ (by omega) (by omega) (by omega) (by omega)).mono ?_
      rintro e w3 ⟨rfl, hb3⟩
      go_wp2
      go_ret
      have s1 := hb.size
      have s2 := hb1.size
      have s3 := hb2.size
      exact ⟨rfl, ((hb.trans (hb1.mono (by omega))).trans (hb2.mono (by omega))).trans (hb3.mono (by omega))⟩

theorem built_any (seed n k : Int) (w : World) (g0 : 0 ≤ seed) (g1 : seed ≤ 255) (n0 : 0 ≤ n) (n1 : n ≤ 65535) (k0 : 0 ≤ k) (k1 : k ≤ 65535) :
    Calls Ybaf.prog 6 #[.int .u8 seed, .int .u16 n, .int .u16 k] w fun e w' => e = .returned (.bool true) ∧ Below w.heap.size w w' := by
  obtain ⟨n', rfl⟩ := Int.eq_ofNat_of_zero_le n0
  obtain ⟨k', rfl⟩ := Int.eq_ofNat_of_zero_le k0
  have hp : (0 : Int) < 21 + ((n' % 300 : Nat) : Int) - 20 := by omega
  have q1 := Int.emod_nonneg (k' : Int) (Int.ne_of_gt hp)
  have q2 := Int.emod_lt_of_pos (k' : Int) hp
  exact built_core seed n' k' (n' % 300) ((k' : Int) % (21 + ((n' % 300 : Nat) : Int) - 20)).toNat w g0 g1 (by omega) (by omega) (by omega) (by omega) (by rw [Int.toNat_of_nonneg q1]) (by omega)

end Go.Proofs.YbulkbsbaFmt
