/-
  The walk over LawS3433BPick (5): at least one holder that is not left out. Own work.
-/
import Derived.Test.YbulkbsboPickD
namespace Go.Proofs.Ybulkbsbo
set_option linter.unusedVariables false
open Go.RowKit

set_option maxHeartbeats 1600000 in
set_option maxRecDepth 100000 in
theorem law_some (a1 : Option Addr) (b o len cap ol ocap : Nat) (zs : Nat → Int) (bs : Nat → Bool) (kind : ByteArray) (w : World) (hlen : 0 < len) (hm : len ≤ 1024) (ho : ol ≤ 1024) (hz : ∀ i, i < len → w.cell? ⟨b, o + i, none⟩ = some (.int .i64 (zs i)))
    (hout : 0 < ol → ∃ b o, a1 = some ⟨b, o, none⟩ ∧ ∀ i, i < ol → w.cell? ⟨b, o + i, none⟩ = some (.bool (bs i))) (m : Nat) (hml : m < len) (hmf0 : leftB ol bs (zs m) = false) (hall : ∀ i, i < m → leftB ol bs (zs i) = true) :
    Calls Yba.prog 5 #[.slice (some ⟨b, o, none⟩) len cap, .slice a1 ol ocap, .string kind] w fun e w' => e = .returned (.bool true) ∧ Below w.heap.size w w' := by
  have hmf : ∀ (fn : Fn) (first cap : Array Value) (w : World), (Instr.makeFunc fn first cap).run Yba.prog w = .ok (.func fn first cap) w := fun _ _ _ _ => rfl
  have hmm := @run_makeMap Yba.prog
  have hno := fun (w' : World) (a : Option Addr) (l c : Nat) => run_neq_slice_nil_any (P := Yba.prog) w' 45 3 a l c 0 0 Yba.underlying45
  have heo := fun (w' : World) (a : Option Addr) (l c : Nat) => Lib.run_eql_slice_nil (P := Yba.prog) w' 45 3 a l c 0 0 Yba.underlying45
  have f1 := fun (w' : World) (f : Fn) (fs fc : Array Value) => run_eql_func_nil (P := Yba.prog) w' (t := 57) Yba.underlying57 f fs fc
  have f2 := fun (w' : World) (f : Fn) (fs fc : Array Value) => run_eql_func_nil (P := Yba.prog) w' (t := 60) Yba.underlying60 f fs fc
  have f3 := fun (w' : World) => run_neq_nilFunc (P := Yba.prog) w' (t := 57) Yba.underlying57
  have f4 := fun (w' : World) => run_neq_nilFunc (P := Yba.prog) w' (t := 60) Yba.underlying60
  have hps := fun (w' : World) (x : Addr) => Lib.run_neq_ptr_same (P := Yba.prog) w' (tp := 48) x Yba.underlying48 info53
  go_enter Yba.func5, Yba.ntmps5
  go_wp2_with fail
  have hb0 := (Below.refl w.heap.size w).alloc (Nat.le_refl _) (.cells #[.slice a1 ol ocap] 46)
  have hO0 : OutAt (w.alloc (.cells #[.slice a1 ol ocap] 46)) w.heap.size ol bs := out_mk hout
  refine (clone_some ⟨b, o, none⟩ len cap zs _ hm (fun i hi => cell_kept hb0 (by rw [Go.WideShapes.add_plain]; exact hz i hi))).mono ?_
  rintro e w1 ⟨g, hcap, rfl, hg, hb⟩
  go_wp2_with fail
  refine (fetch_nil _ _ kind (some ⟨g, 0, none⟩) len hcap _ (opAt_made w1 kind)).mono ?_
  rintro e w2 ⟨F, rfl, Hb, Ob, hf⟩
  have hB1 := below_step hb0 hb
  have hB5 := below_step hb (made_below w1 kind)
  have hB := below_step (below_step hB1 (made_below w1 kind)) hf.below
  have hO2 := (hO0.kept hB5).kept hf.below
  have hg2 : ∀ i, i < len → w2.cell? ⟨g, i, none⟩ = some (.int .i64 (zs i)) := fun i hi => cell_kept hf.below (cell_kept (made_below w1 kind) (hg i hi))
  have hpo := ptr_other hf (opAt_made w1 kind)
  obtain ⟨o0, o1, o2, o3, o4, o5, o6, o7, _⟩ := (opAt_made w1 kind).kept hf.below
  obtain ⟨d0, d1, d2, d4, d5, d7, _, dH, _, _, _⟩ := hf
  clear hb hB1 hB5 hO0 hb0 hg
  go_wp2_with fail
  refine (pick_some g 0 len hcap Hb w.heap.size ol bs zs _ _ _ w2 dH hlen hm (fun i hi => by rw [Nat.zero_add]; exact hg2 i hi) hO2 ho m hml hmf0 hall).mono ?_
  rintro e w3 ⟨K, rfl, hK, hb3⟩
  clear o0 o1 o2 o3 o4 o5 o6 o7 d0 d1 d2 d4 d5 d7 hpo dH
  have hB3 := below_step hB hb3
  have hO3 := hO2.kept hb3
  have hg3 : ∀ i, i < len → w3.cell? ⟨g, i, none⟩ = some (.int .i64 (zs i)) := fun i hi => cell_kept hb3 (hg2 i hi)
  clear hB hO2 hg2 hb3
  go_wp2_with fail
  go_loopw [14, 128] (fun v i wr => v = .slice none 0 0 ∧ ∃ k : Nat, k ≤ m ∧ i = .int .i64 k ∧ Below w3.heap.size w3 wr) (fun _ i _ => len - (intOf i).toNat)
  case atStart => exact ⟨rfl, 0, Nat.zero_le _, rfl, Below.refl _ _⟩
  case round =>
    obtain ⟨rfl, k, hk, rfl, hbk⟩ := hrel
    by_cases hlt : k < m
    · have c1 := cell_kept hbk (hg3 k (by omega))
      have hlk := hall k hlt
      go_wp2_with fail
      refine (left_any w.heap.size ol bs (zs k) _ (hO3.kept hbk) ho).mono ?_
      rintro e w4 ⟨rfl, hb4⟩
      go_wp2
      go_roundw
      case rel => exact ⟨rfl, k + 1, by omega, by go_num, below_step hbk hb4⟩
      case measure => simp [intOf]; omega
    · obtain rfl : k = m := by omega
      have c1 := cell_kept hbk (hg3 k hml)
      go_wp2_with fail
      refine (left_any w.heap.size ol bs (zs k) _ (hO3.kept hbk) ho).mono ?_
      rintro e w4 ⟨rfl, hb4⟩
      have hbk4 := below_step hbk hb4
      have hK4 := cell_kept hbk4 hK
      have hKlt := cell_lt hK4
      have hKlt' : K < w4.heap.size := hKlt
      go_wp2_with fail
      go_quiet (fail)
      go_wp2_with fail
      have hb5 : Below w3.heap.size w3 ((w4.alloc (.cells #[.int .i64 (zs k)] 3)).drewN nq) := below_drewN (hbk4.alloc hbk4.size _) nq
      have hBk := below_step hB3 hb5
      refine (equal_pos g 0 b o len hcap cap zs _ hm (fun i hi => by rw [Nat.zero_add]; exact cell_kept hb5 (hg3 i hi)) (fun i hi => cell_kept hBk (hz i hi))).mono ?_
      rintro e w5 ⟨rfl, hb6⟩
      go_wp2
      go_ret
      exact ⟨rfl, below_step hBk hb6⟩

end Go.Proofs.Ybulkbsbo
