/-
  Walks under LawS3433BWait: zzs3433bin (21), hasFailed (41), avoids (36). Own work.
-/
import Derived.Test.YbulkbsboFetch
import Derived.Maps.Own
import Derived.Maps.OwnOps
import Derived.Maps.OwnSet
namespace Go.Proofs.Ybulkbsbo
set_option linter.unusedVariables false
open Go.RowKit Go.Maps

/-- Is p among the first len numbers? -/
def inB (len : Nat) (zs : Nat → Int) (p : Int) : Bool := (List.range len).any fun i => decide (zs i = p)

theorem inB_zero (zs : Nat → Int) (p : Int) : inB 0 zs p = false := rfl
theorem inB_succ (k : Nat) (zs : Nat → Int) (p : Int) : inB (k + 1) zs p = (inB k zs p || decide (zs k = p)) := by
  simp [inB, List.range_succ, List.any_append]
theorem inB_true {len : Nat} {zs : Nat → Int} {p : Int} {m : Nat} (hm : m < len) (h : zs m = p) : inB len zs p = true := by
  simp only [inB, List.any_eq_true, decide_eq_true_eq]
  exact ⟨m, List.mem_range.2 hm, h⟩
theorem inB_false {len : Nat} {zs : Nat → Int} {p : Int} (h : ∀ i, i < len → zs i ≠ p) : inB len zs p = false := by
  rw [Bool.eq_false_iff]
  intro hc
  simp only [inB, List.any_eq_true, decide_eq_true_eq] at hc
  obtain ⟨i, hi, e⟩ := hc
  exact h i (List.mem_range.1 hi) e

theorem first_eq (len : Nat) (zs : Nat → Int) (p : Int) : (∀ i, i < len → zs i ≠ p) ∨ ∃ m, m < len ∧ zs m = p ∧ ∀ i, i < m → zs i ≠ p := by
  induction len with
  | zero => exact .inl fun i hi => absurd hi (by omega)
  | succ n ih =>
    rcases ih with h | ⟨m, hm, hq, ha⟩
    · by_cases hn : zs n = p
      · exact .inr ⟨n, by omega, hn, h⟩
      · refine .inl fun i hi => ?_
        rcases Nat.lt_or_ge i n with h' | h'
        · exact h i h'
        · obtain rfl : i = n := by omega
          exact hn
    · exact .inr ⟨m, by omega, hq, ha⟩

theorem in_zero (a : Option Addr) (cap : Nat) (p : Int) (w : World) :
    Calls Yba.prog 21 #[.slice a 0 cap, .int .i64 p] w fun e w' => e = .returned (.bool false) ∧ w' = w := by
  go_enter Yba.func21, Yba.ntmps21
  go_wp2
  refine wp_loop_rounds 1 ?_
  rw [rounds_succ]
  go_wp2
  go_ret
  exact ⟨rfl, rfl⟩

theorem in_none (b o len cap : Nat) (zs : Nat → Int) (p : Int) (w : World) (hm : len ≤ 1024) (hz : ∀ i, i < len → w.cell? ⟨b, o + i, none⟩ = some (.int .i64 (zs i))) (hne : ∀ i, i < len → zs i ≠ p) :
    Calls Yba.prog 21 #[.slice (some ⟨b, o, none⟩) len cap, .int .i64 p] w fun e w' => e = .returned (.bool false) ∧ w' = w := by
  go_enter Yba.func21, Yba.ntmps21
  go_wp2
  go_loop [9] (fun i => ∃ k : Nat, k ≤ len ∧ i = .int .i64 k) (fun i => len - (intOf i).toNat)
  case atStart => exact ⟨0, Nat.zero_le _, rfl⟩
  case round =>
    obtain ⟨k, hk, rfl⟩ := hrel
    by_cases hlt : k < len
    · have c1 := hz k hlt
      have hb : (zs k == p) = false := beq_eq_false_iff_ne.2 (hne k hlt)
      go_wp2
      go_round
      case rel => exact ⟨k + 1, by omega, by go_num⟩
      case measure => simp [intOf]; omega
    · go_wp2
      go_ret
      exact ⟨rfl, rfl⟩

theorem in_some (b o len cap : Nat) (zs : Nat → Int) (p : Int) (w : World) (hm : len ≤ 1024) (hz : ∀ i, i < len → w.cell? ⟨b, o + i, none⟩ = some (.int .i64 (zs i))) (m : Nat) (hml : m < len) (he : zs m = p) (hne : ∀ i, i < m → zs i ≠ p) :
    Calls Yba.prog 21 #[.slice (some ⟨b, o, none⟩) len cap, .int .i64 p] w fun e w' => e = .returned (.bool true) ∧ w' = w := by
  have he' : (zs m == p) = true := beq_iff_eq.2 he
  clear he
  go_enter Yba.func21, Yba.ntmps21
  go_wp2
  go_loop [9] (fun i => ∃ k : Nat, k ≤ m ∧ i = .int .i64 k) (fun i => len - (intOf i).toNat)
  case atStart => exact ⟨0, Nat.zero_le _, rfl⟩
  case round =>
    obtain ⟨k, hk, rfl⟩ := hrel
    by_cases hlt : k < m
    · have c1 := hz k (by omega)
      have hb : (zs k == p) = false := beq_eq_false_iff_ne.2 (hne k hlt)
      go_wp2
      go_round
      case rel => exact ⟨k + 1, by omega, by go_num⟩
      case measure => simp [intOf]; omega
    · obtain rfl : k = m := by omega
      have c1 := hz k hml
      go_wp2
      go_ret
      exact ⟨rfl, rfl⟩

theorem in_any (a : Option Addr) (len cap : Nat) (zs : Nat → Int) (p : Int) (w : World) (hm : len ≤ 1024) (hz : IntsAt w a len zs) :
    Calls Yba.prog 21 #[.slice a len cap, .int .i64 p] w fun e w' => e = .returned (.bool (inB len zs p)) ∧ w' = w := by
  by_cases h0 : len = 0
  · subst h0
    exact in_zero a cap p w
  · obtain ⟨b, o, rfl, hc⟩ := hz (by omega)
    rcases first_eq len zs p with h | ⟨m, hml, he, hne⟩
    · rw [inB_false h]
      exact in_none b o len cap zs p w hm hc h
    · rw [inB_true hml he]
      exact in_some b o len cap zs p w hm hc m hml he hne

end Go.Proofs.Ybulkbsbo
