/-
  The walks over checkACLSize (7), LawS3432AExact (3), LawS3432AEdge (4). Own work.
-/
import Derived.Test.YbulkbsbaFmtFacts
import Derived.WalkKit
namespace Go.Proofs.YbulkbsbaFmt
open Go.RowKit Go.Extern.Stop Go.Stop Go.Extern
attribute [local go_sem] call12 guardOk fmt0r op3d ptr42 elem42

theorem check_ok (n : Int) (w : World) (hn : n ≤ 65535) :
    Calls Ybaf.prog 7 #[.int .i64 n] w fun e w' => e = .returned .nilIface ∧ w' = w := by
  go_enter Ybaf.func7, Ybaf.ntmps7
  go_wp2
  go_ret
  exact ⟨rfl, rfl⟩

theorem check_bad (n : Int) (w : World) (hn : 65535 < n) :
    Calls Ybaf.prog 7 #[.int .i64 n] w fun e w' => e = .returned (.iface 42 (.pointer (some ⟨w.heap.size + 1, 0, none⟩))) ∧ Below w.heap.size w w' := by
  go_enter Ybaf.func7, Ybaf.ntmps7
  go_wp2
  go_ret
  exact ⟨rfl, (((Below.refl _ _).alloc (Nat.le_refl _) _).alloc (by simp) _).drew⟩

theorem exact_any (n : Int) (w : World) :
    Calls Ybaf.prog 3 #[.int .i64 n] w fun e w' => e = .returned (.bool true) ∧ Below w.heap.size w w' := by
  by_cases hn : n ≤ 65535
  · go_enter Ybaf.func3, Ybaf.ntmps3
    go_wp2_with (go_at_call 7; refine (check_ok _ _ hn).mono ?_; rintro e w' ⟨rfl, rfl⟩)
    go_ret
    exact ⟨rfl, Below.refl _ _⟩
  · have hn' : 65535 < n := by omega
    go_enter Ybaf.func3, Ybaf.ntmps3
    go_wp2_with (go_at_call 7; refine (check_bad _ _ hn').mono ?_; rintro e w' ⟨rfl, hb⟩)
    go_ret
    exact ⟨rfl, hb⟩

theorem edge_any (k : Int) (h0 : 0 ≤ k) (h1 : k ≤ 65535) (w : World) :
    Calls Ybaf.prog 4 #[.int .u16 k] w fun e w' => e = .returned (.bool true) ∧ Below w.heap.size w w' := by
  go_enter Ybaf.func4, Ybaf.ntmps4
  go_wp2_with fail
  refine (check_ok _ _ (by omega)).mono ?_
  rintro e w' ⟨rfl, rfl⟩
  go_wp2_with fail
  refine (check_bad _ _ (by omega)).mono ?_
  rintro e w' ⟨rfl, hb⟩
  go_wp2
  go_ret
  exact ⟨rfl, hb⟩

end Go.Proofs.YbulkbsbaFmt
