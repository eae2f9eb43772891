/-
  The walk over LawS3432CAnyInput (5). Own work.
-/
import Derived.Test.YbulkbsbaFmtWalkC
namespace Go.Proofs.YbulkbsbaFmt
set_option linter.unusedVariables false
open Go.RowKit Go.Extern.Stop Go.Stop Go.Extern

theorem any_big (a : Option Addr) (len cap : Nat) (off : Nat) (w : World) (h1 : 65536 < len) :
    Calls Ybaf.prog 5 #[.slice a len cap, .int .u32 off] w fun e w' => e = .returned (.bool true) ∧ Below w.heap.size w w' := by
  go_enter Ybaf.func5, Ybaf.ntmps5
  go_wp2
  go_ret
  exact ⟨rfl, Below.refl _ _⟩

set_option maxHeartbeats 400000 in
theorem any_low (a : Option Addr) (len cap : Nat) (off : Nat) (w : World) (h1 : len ≤ 65536) (ho : off ≤ 4294967295) (h0 : off < 20) :
    Calls Ybaf.prog 5 #[.slice a len cap, .int .u32 off] w fun e w' => e = .returned (.bool true) ∧ Below w.heap.size w w' := by
  have hns := fun (w' : World) (a : Option Addr) (l c : Nat) => Lib.run_eql_slice_nil (P := Ybaf.prog) w' 28 5 a l c 0 0 Ybaf.underlying28
  go_enter Ybaf.func5, Ybaf.ntmps5
  go_wp2_with fail
  refine (part_low a len cap off _ h0 (by omega)).mono ?_
  rintro e w1 ⟨rfl, hb1⟩
  go_wp2_with fail
  refine (inside_low len off _ (by omega) ho h0).mono ?_
  rintro e w2 ⟨rfl, rfl⟩
  go_wp2
  go_ret
  exact ⟨rfl, hb1⟩

set_option maxHeartbeats 400000 in
theorem any_high (a : Option Addr) (len cap : Nat) (off : Nat) (w : World) (h1 : len ≤ 65536) (ho : off ≤ 4294967295) (h0 : 20 ≤ off) (h2 : len ≤ off) :
    Calls Ybaf.prog 5 #[.slice a len cap, .int .u32 off] w fun e w' => e = .returned (.bool true) ∧ Below w.heap.size w w' := by
  have hns := fun (w' : World) (a : Option Addr) (l c : Nat) => Lib.run_eql_slice_nil (P := Ybaf.prog) w' 28 5 a l c 0 0 Ybaf.underlying28
  go_enter Ybaf.func5, Ybaf.ntmps5
  go_wp2_with fail
  refine (part_high a len cap off _ h0 h2 (by omega) ho).mono ?_
  rintro e w1 ⟨rfl, hb1⟩
  go_wp2_with fail
  refine (inside_high len off _ (by omega) ho h0 h2).mono ?_
  rintro e w2 ⟨rfl, rfl⟩
  go_wp2
  go_ret
  exact ⟨rfl, hb1⟩

set_option maxHeartbeats 400000 in
theorem any_in (b o len cap : Nat) (off : Nat) (w : World) (h1 : len ≤ 65536) (ho : off ≤ 4294967295) (h0 : 20 ≤ off) (h2 : off < len) (hl : len ≤ cap) (f : Nat → Int)
    (hc : ∀ i, i < len → w.cell? ⟨b, o + i, none⟩ = some (.int .u8 (f i))) :
    Calls Ybaf.prog 5 #[.slice (some ⟨b, o, none⟩) len cap, .int .u32 off] w fun e w' => e = .returned (.bool true) ∧ Below w.heap.size w w' := by
  go_enter Ybaf.func5, Ybaf.ntmps5
  go_wp2_with fail
  refine (part_ok b o len cap off _ h0 h2 hl (by omega) ho).mono ?_
  rintro e w1 ⟨rfl, rfl⟩
  go_wp2_with fail
  refine (inside_yes len off _ (by omega) ho h0 h2).mono ?_
  rintro e w2 ⟨rfl, rfl⟩
  go_wp2_with fail
  refine (suffix_any b o len cap off _ h2 hl (by omega) f hc).mono ?_
  rintro e w3 ⟨rfl, hb1⟩
  go_wp2
  go_ret
  exact ⟨rfl, hb1⟩

end Go.Proofs.YbulkbsbaFmt
