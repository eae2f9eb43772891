/-
  The walks over partAt (8), zzs3432cinside (9), zzs3432csuffix (10). Own work.
-/
import Derived.Test.YbulkbsbaFmtFacts
import Derived.WalkKit
import Derived.WalkSpells
import Derived.WalkSmall
import Derived.LaidEqlPtr
import Derived.Deep.QuietTactic
import Derived.BigQuiet
namespace Go.Proofs.YbulkbsbaFmt
set_option linter.unusedVariables false
open Go.RowKit Go.Extern.Stop Go.Stop Go.Extern
attribute [local go_sem] call12 guardOk fmt1r op3d op29x ptr42 elem42

theorem part_ok (b o len cap : Nat) (off : Nat) (w : World) (h0 : 20 ≤ off) (h1 : off < len) (hl : len ≤ cap) (hm : len ≤ 140737488355328) (h2 : off ≤ 4294967295) :
    Calls Ybaf.prog 8 #[.slice (some ⟨b, o, none⟩) len cap, .int .u32 off] w fun e w' => e = .returned (.tuple #[.slice (some ⟨b, o + off, none⟩) (len - off) (cap - off), .nilIface]) ∧ w' = w := by
  go_enter Ybaf.func8, Ybaf.ntmps8
  go_wp2
  go_ret2
  exact ⟨rfl, rfl⟩

theorem part_low (a : Option Addr) (len cap : Nat) (off : Nat) (w : World) (h0 : off < 20) (hm : len ≤ 140737488355328)  :
    Calls Ybaf.prog 8 #[.slice a len cap, .int .u32 off] w fun e w' => e = .returned (.tuple #[.slice none 0 0, .iface 42 (.pointer (some ⟨w.heap.size + 1, 0, none⟩))]) ∧ Below w.heap.size w w' := by
  go_enter Ybaf.func8, Ybaf.ntmps8
  go_wp2
  go_ret2
  exact ⟨rfl, (((Below.refl _ _).alloc (Nat.le_refl _) _).alloc (by simp) _).drew⟩

theorem part_high (a : Option Addr) (len cap : Nat) (off : Nat) (w : World) (h0 : 20 ≤ off) (h1 : len ≤ off) (hm : len ≤ 140737488355328) (h2 : off ≤ 4294967295) :
    Calls Ybaf.prog 8 #[.slice a len cap, .int .u32 off] w fun e w' => e = .returned (.tuple #[.slice none 0 0, .iface 42 (.pointer (some ⟨w.heap.size + 1, 0, none⟩))]) ∧ Below w.heap.size w w' := by
  go_enter Ybaf.func8, Ybaf.ntmps8
  go_wp2
  go_ret2
  exact ⟨rfl, (((Below.refl _ _).alloc (Nat.le_refl _) _).alloc (by simp) _).drew⟩

theorem inside_yes (n off : Nat) (w : World) (hn : n ≤ 140737488355328) (ho : off ≤ 4294967295) (h0 : 20 ≤ off) (h1 : off < n) :
    Calls Ybaf.prog 9 #[.int .i64 n, .int .u32 off] w fun e w' => e = .returned (.bool true) ∧ w' = w := by
  go_enter Ybaf.func9, Ybaf.ntmps9
  go_wp2
  go_ret
  exact ⟨by simp, rfl⟩

theorem inside_low (n off : Nat) (w : World) (hn : n ≤ 140737488355328) (ho : off ≤ 4294967295) (h0 : off < 20) :
    Calls Ybaf.prog 9 #[.int .i64 n, .int .u32 off] w fun e w' => e = .returned (.bool false) ∧ w' = w := by
  go_enter Ybaf.func9, Ybaf.ntmps9
  go_wp2
  go_ret
  exact ⟨by simp, rfl⟩

theorem inside_high (n off : Nat) (w : World) (hn : n ≤ 140737488355328) (ho : off ≤ 4294967295) (h0 : 20 ≤ off) (h1 : n ≤ off) :
    Calls Ybaf.prog 9 #[.int .i64 n, .int .u32 off] w fun e w' => e = .returned (.bool false) ∧ w' = w := by
  go_enter Ybaf.func9, Ybaf.ntmps9
  go_wp2
  go_ret
  exact ⟨by simp; omega, rfl⟩

set_option maxHeartbeats 400000 in
theorem suffix_any (b o len cap : Nat) (off : Nat) (w : World) (h1 : off < len) (hl : len ≤ cap) (hm : len ≤ 140737488355328) (f : Nat → Int)
    (hc : ∀ i, i < len → w.cell? ⟨b, o + i, none⟩ = some (.int .u8 (f i))) :
    Calls Ybaf.prog 10 #[.slice (some ⟨b, o, none⟩) len cap, .int .i64 off, .slice (some ⟨b, o + off, none⟩) (len - off) (cap - off)] w fun e w' => e = .returned (.bool true) ∧ Below w.heap.size w w' := by
  have hne : ((len - off : Nat) : Int) = (len : Int) - (off : Int) := by omega
  go_enter Ybaf.func10, Ybaf.ntmps10
  go_wp2
  go_loopw [7] (fun i wr => ∃ k : Nat, k ≤ len - off ∧ i = .int .i64 k ∧ Below w.heap.size w wr) (fun i _ => len - off - (intOf i).toNat)
  case atStart => exact ⟨0, Nat.zero_le _, rfl, Below.refl _ _⟩
  case round =>
    obtain ⟨k, hk, rfl, hb⟩ := hrel
    have hlt0 : b < w.heap.size := by
      have h := hc 0 (by omega)
      rcases Nat.lt_or_ge b w.heap.size with h' | h'
      · exact h'
      · simp [World.cell?, Array.getElem?_eq_none h'] at h
    by_cases hlt : k < len - off
    · have c1 : wr.cell? ⟨b, o + off + k, none⟩ = some (.int .u8 (f (off + k))) := by
        rw [hb.cell (by exact hlt0), Nat.add_assoc]; exact hc (off + k) (by omega)
      have c2 : wr.cell? ⟨b, o + (off + k), none⟩ = some (.int .u8 (f (off + k))) := by
        rw [hb.cell (by exact hlt0)]; exact hc (off + k) (by omega)
      have i1 : (off : Int) + (k : Int) < (len : Int) := by omega
      go_wp2_with fail
      go_quiet (fail)
      go_wp2
      go_roundw
      case rel => exact ⟨k + 1, by omega, by go_num, below_drewN hb _⟩
      case measure => simp [intOf]; omega
    · have hpe := fun (w' : World) (a : Addr) => run_eql_ptr_same (P := Ybaf.prog) (w := w') (tp := 38) a Ybaf.underlying38 info5
      go_wp2_with fail
      go_quiet (fail)
      go_wp2
      go_ret
      exact ⟨by simp, below_drewN hb _⟩

end Go.Proofs.YbulkbsbaFmt
