/-
  Walks under LawS3433BPick: slices.Clone (12), slices.Equal (16). Own work.
-/
import Derived.Test.YbulkbsboPickB
namespace Go.Proofs.Ybulkbsbo
set_option linter.unusedVariables false
open Go.RowKit

def news (len : Nat) (zs : Nat → Int) : List Value := (List.range len).map fun i => .int .i64 (zs i)
theorem news_length (len : Nat) (zs : Nat → Int) : (news len zs).length = len * 1 := by simp [news]
theorem news_get {len : Nat} {zs : Nat → Int} {j : Nat} {u : Value} (h : (news len zs)[j]? = some u) : j < len ∧ u = .int .i64 (zs j) := by
  unfold news at h
  rw [List.getElem?_map] at h
  rcases Nat.lt_or_ge j len with hj | hj
  · rw [List.getElem?_range hj] at h
    exact ⟨hj, by simpa using h.symm⟩
  · rw [List.getElem?_eq_none (by simpa using hj)] at h
    simp at h
theorem news_at {len : Nat} {zs : Nat → Int} {w : World} {x : Addr} (hz : ∀ i, i < len → w.cell? (x.add i) = some (.int .i64 (zs i))) {j : Nat} {u : Value} (h : (news len zs)[j]? = some u) : w.cell? (x.add j) = some u := by
  obtain ⟨hj, rfl⟩ := news_get h
  exact hz j hj
theorem news_one (len : Nat) (zs : Nat → Int) : ∀ u ∈ news len zs, u.oneCell' = true := by
  intro u hu
  simp [news] at hu
  obtain ⟨i, _, rfl⟩ := hu
  rfl
theorem info3 : (Yba.prog.info? 3).map (fun i => (i.zero, i.size, i.bytes)) = some (some (.int .i64 0), 1, 8) := by kernel_rfl

theorem clone_end {w w1 : World} {len : Nat} {zs : Nat → Int} {v' : Value} (hown : w1.ownsRow w.heap.size 3 1 v' (0 + len) ([] ++ news len zs)) (hgrow : (w.alloc (.cells #[] 3)).grownBy w1 (some w.heap.size)) (hn : v' ≠ .slice none 0 0) :
    ∃ g cap', v' = .slice (some ⟨g, 0, none⟩) len cap' ∧ (∀ i, i < len → w1.cell? ⟨g, i, none⟩ = some (.int .i64 (zs i))) ∧ Below w.heap.size w w1 := by
  obtain ⟨_, h | ⟨g, cap', cur, hv, hg, hh, hle, hcm, hsz, hcur⟩⟩ := hown
  · exact absurd h.1 hn
  · rw [Nat.zero_add] at hv hle hcur
    refine ⟨g, cap', hv, fun i hi => ?_, ((Below.refl _ w).alloc (Nat.le_refl _) _).grown hgrow (by simp) (fun k hk => by cases hk; exact Nat.le_refl _)⟩
    have e1 : (cur.toList.take (len * 1))[i]? = some (.int .i64 (zs i)) := by
      rw [hcur]
      simp [news, hi]
    have e2 : cur[i]? = some (.int .i64 (zs i)) := by
      rw [List.getElem?_take] at e1
      simpa [hi] using e1
    simp [World.cell?, hh, e2]

theorem clone_nil (w : World) : Calls Yba.prog 12 #[.slice none 0 0] w fun e w' => e = .returned (.slice none 0 0) ∧ w' = w := by
  have hns := fun (w' : World) (a : Option Addr) (l c : Nat) => Lib.run_eql_slice_nil (P := Yba.prog) w' 45 3 a l c 0 0 Yba.underlying45
  go_enter Yba.func12, Yba.ntmps12
  go_wp2
  go_ret
  exact ⟨rfl, rfl⟩

theorem clone_some (x : Addr) (len cap : Nat) (zs : Nat → Int) (w : World) (hm : len ≤ 1024) (hz : ∀ i, i < len → w.cell? (x.add i) = some (.int .i64 (zs i))) :
    Calls Yba.prog 12 #[.slice (some x) len cap] w fun e w' => ∃ g cap', e = .returned (.slice (some ⟨g, 0, none⟩) len cap') ∧ (∀ i, i < len → w'.cell? ⟨g, i, none⟩ = some (.int .i64 (zs i))) ∧ Below w.heap.size w w' := by
  have hns := fun (w' : World) (a : Option Addr) (l c : Nat) => Lib.run_eql_slice_nil (P := Yba.prog) w' 45 3 a l c 0 0 Yba.underlying45
  obtain ⟨i0, hi, hz0, hz1, hz2⟩ := info_parts info3
  have hb0 := fun (o : Obj) => (Below.refl w.heap.size w).alloc (Nat.le_refl _) o
  have hown : (w.alloc (.cells #[] 3)).ownsRow w.heap.size 3 1 (.slice (some ⟨w.heap.size, 0, none⟩) 0 0) 0 [] :=
    ⟨rfl, .inr ⟨w.heap.size, 0, #[], rfl, Nat.le_refl _, by show (w.heap.push _)[w.heap.size]? = _; simp, Nat.le_refl _, Nat.zero_le _, rfl, rfl⟩⟩
  go_enter Yba.func12, Yba.ntmps12
  go_wp2_with (at_builtin; refine wpList_append_own _ rfl _ _ 45 rfl w.heap.size 3 i0 (.int .i64 0) 1 8 Yba.underlying45 hi hz0 hz1 hz2 rfl (by decide) _ 0 [] rfl hown x len cap (news len zs) rfl (news_length len zs) (fun j u hj => cell_kept (hb0 _) (news_at hz hj)) (news_one len zs) (by unfold maxLen; omega) (by omega) (by simp) ?_; intro v' w1 hown1 hgrow hnil)
  have hend := clone_end (hown1) (show (w.alloc (.cells #[] 3)).grownBy w1 (some w.heap.size) from hgrow) (fun e => by have h := (hnil.1 e).1; cases h)
  clear hown1 hgrow hnil
  obtain ⟨g, cap', hv, hc, hb⟩ := hend
  rw [hv]
  go_ret
  exact ⟨g, cap', rfl, hc, hb⟩

theorem equal_zero (a a' : Option Addr) (cap cap' : Nat) (w : World) :
    Calls Yba.prog 16 #[.slice a 0 cap, .slice a' 0 cap'] w fun e w' => e = .returned (.bool true) ∧ Below w.heap.size w w' := by
  go_enter Yba.func16, Yba.ntmps16
  go_wp2
  refine wp_loop_rounds 1 ?_
  rw [rounds_succ]
  go_wp2
  go_ret
  exact ⟨rfl, Below.refl _ _⟩

set_option maxHeartbeats 400000 in
theorem equal_pos (b o b' o' len cap cap' : Nat) (zs : Nat → Int) (w : World) (hm : len ≤ 1024) (hz : ∀ i, i < len → w.cell? ⟨b, o + i, none⟩ = some (.int .i64 (zs i))) (hz' : ∀ i, i < len → w.cell? ⟨b', o' + i, none⟩ = some (.int .i64 (zs i))) :
    Calls Yba.prog 16 #[.slice (some ⟨b, o, none⟩) len cap, .slice (some ⟨b', o', none⟩) len cap'] w fun e w' => e = .returned (.bool true) ∧ Below w.heap.size w w' := by
  go_enter Yba.func16, Yba.ntmps16
  go_wp2
  go_loopw [13] (fun i wr => ∃ k : Nat, k ≤ len ∧ i = .int .i64 k ∧ Below w.heap.size w wr) (fun i _ => len - (intOf i).toNat)
  case atStart => exact ⟨0, Nat.zero_le _, rfl, Below.refl _ _⟩
  case round =>
    obtain ⟨k, hk, rfl, hb⟩ := hrel
    by_cases hlt : k < len
    · have c1 := cell_kept hb (hz k hlt)
      have c2 := cell_kept hb (hz' k hlt)
      go_wp2_with fail
      go_quiet (fail)
      go_wp2
      go_roundw
      case rel => exact ⟨k + 1, by omega, by go_num, below_drewN hb _⟩
      case measure => simp [intOf]; omega
    · go_wp2
      go_ret
      exact ⟨rfl, hb⟩

end Go.Proofs.Ybulkbsbo
