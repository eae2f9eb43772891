/-
  Walks under LawS3433BPick: the closure left (14), the closure over it (33), slices.IndexFunc (32), the fetching op's picker (31). Own work.
-/
import Derived.Test.YbulkbsboRows
import Derived.WalkKit
import Derived.WalkSpells
import Derived.WalkSmall
import Derived.Deep.QuietTactic
import Derived.BigQuiet
namespace Go.Proofs.Ybulkbsbo
set_option linter.unusedVariables false
open Go.RowKit

theorem left_empty (B : Nat) (a : Option Addr) (cap : Nat) (pos : Int) (w : World) (h : w.cell? ⟨B, 0, none⟩ = some (.slice a 0 cap)) :
    Calls Yba.prog 14 #[.int .i64 pos, .pointer (some ⟨B, 0, none⟩)] w fun e w' => e = .returned (.bool false) ∧ Below w.heap.size w w' := by
  go_enter Yba.func14, Yba.ntmps14
  go_wp2
  go_ret
  exact ⟨rfl, Below.refl _ _⟩

theorem left_core (B b o len cap : Nat) (pos p : Int) (w : World) (h : w.cell? ⟨B, 0, none⟩ = some (.slice (some ⟨b, o, none⟩) len cap)) (hl : 0 < len) (hm : len ≤ 1024) (bs : Nat → Bool)
    (hc : ∀ i, i < len → w.cell? ⟨b, o + i, none⟩ = some (.bool (bs i))) (j : Nat) (hj : j < len) (hp : IntKind.u64.wrap pos = p) (hp0 : 0 ≤ p) (hw : IntKind.u64.wrap (len : Int) = (len : Int)) (hjj : p % (len : Int) = (j : Int)) :
    Calls Yba.prog 14 #[.int .i64 pos, .pointer (some ⟨B, 0, none⟩)] w fun e w' => e = .returned (.bool (bs j)) ∧ Below w.heap.size w w' := by
  have hne : ((len : Int) == 0) = false := by simp; omega
  have hne2 : ¬ (len : Int) = 0 := by omega
  have hcj := hc j hj
  go_enter Yba.func14, Yba.ntmps14
  go_wp2
  go_quiet (fail)
  go_wp2
  go_ret
  exact ⟨rfl, below_drewN (Below.refl _ _) _⟩

/-- What the closure left answers, as a plain function. -/
def leftB (len : Nat) (bs : Nat → Bool) (pos : Int) : Bool := if len = 0 then false else bs ((IntKind.u64.wrap pos) % (len : Int)).toNat

/-- Block B is the box of the slice out. -/
def OutAt (w : World) (B len : Nat) (bs : Nat → Bool) : Prop :=
  ∃ a cap, w.cell? ⟨B, 0, none⟩ = some (.slice a len cap) ∧ (0 < len → ∃ b o, a = some ⟨b, o, none⟩ ∧ ∀ i, i < len → w.cell? ⟨b, o + i, none⟩ = some (.bool (bs i)))

/-- The first len cells behind a are the numbers zs. -/
def IntsAt (w : World) (a : Option Addr) (len : Nat) (zs : Nat → Int) : Prop :=
  0 < len → ∃ b o, a = some ⟨b, o, none⟩ ∧ ∀ i, i < len → w.cell? ⟨b, o + i, none⟩ = some (.int .i64 (zs i))

theorem cell_lt {w : World} {p : Addr} {v : Value} (h : w.cell? p = some v) : p.block < w.heap.size := by
  rcases Nat.lt_or_ge p.block w.heap.size with h' | h'
  · exact h'
  · simp [World.cell?, Array.getElem?_eq_none h'] at h

theorem cell_kept {w w' : World} (hb : Below w.heap.size w w') {p : Addr} {v : Value} (h : w.cell? p = some v) : w'.cell? p = some v :=
  (hb.cell (cell_lt h)).trans h

theorem IntsAt.kept {w w' : World} {a : Option Addr} {len : Nat} {zs : Nat → Int} (h : IntsAt w a len zs) (hb : Below w.heap.size w w') : IntsAt w' a len zs := fun hp => by
  obtain ⟨b, o, e, hc⟩ := h hp
  exact ⟨b, o, e, fun i hi => cell_kept hb (hc i hi)⟩

theorem OutAt.kept {w w' : World} {B len : Nat} {bs : Nat → Bool} (h : OutAt w B len bs) (hb : Below w.heap.size w w') : OutAt w' B len bs := by
  obtain ⟨a, cap, h1, h2⟩ := h
  exact ⟨a, cap, cell_kept hb h1, fun hp => by
    obtain ⟨b, o, e, hc⟩ := h2 hp
    exact ⟨b, o, e, fun i hi => cell_kept hb (hc i hi)⟩⟩

/-- One step on the whole world behind another. -/
theorem below_step {w w1 w2 : World} (h1 : Below w.heap.size w w1) (h2 : Below w1.heap.size w1 w2) : Below w.heap.size w w2 := h1.trans (h2.mono h1.size)

theorem left_any (B len : Nat) (bs : Nat → Bool) (pos : Int) (w : World) (h : OutAt w B len bs) (hm : len ≤ 1024) :
    Calls Yba.prog 14 #[.int .i64 pos, .pointer (some ⟨B, 0, none⟩)] w fun e w' => e = .returned (.bool (leftB len bs pos)) ∧ Below w.heap.size w w' := by
  obtain ⟨a, cap, h1, h2⟩ := h
  by_cases hl : len = 0
  · subst hl
    have e : leftB 0 bs pos = false := by simp [leftB]
    rw [e]
    exact left_empty B a cap pos w h1
  · obtain ⟨b, o, rfl, hc⟩ := h2 (by omega)
    have hp0 : 0 ≤ IntKind.u64.wrap pos := wrap_u64_nonneg pos
    have q1 := Int.emod_nonneg (IntKind.u64.wrap pos) (b := (len : Int)) (by omega)
    have q2 := Int.emod_lt_of_pos (IntKind.u64.wrap pos) (b := (len : Int)) (by omega)
    have e : leftB len bs pos = bs ((IntKind.u64.wrap pos) % (len : Int)).toNat := by simp [leftB, hl]
    rw [e]
    exact left_core B b o len cap pos (IntKind.u64.wrap pos) w h1 (by omega) hm bs hc _ (by omega) rfl hp0 (by rw [IntKind.wrap_u64]; omega) (by omega)

theorem not_left (L B len : Nat) (bs : Nat → Bool) (pos : Int) (w : World) (hL : w.cell? ⟨L, 0, none⟩ = some (.func (.func 14) #[] #[.pointer (some ⟨B, 0, none⟩)])) (h : OutAt w B len bs) (hm : len ≤ 1024) :
    Calls Yba.prog 33 #[.int .i64 pos, .pointer (some ⟨L, 0, none⟩)] w fun e w' => e = .returned (.bool (!leftB len bs pos)) ∧ Below w.heap.size w w' := by
  have hnot : ∀ (x : Bool) (w : World), (Op.unary .not (.bool x)).run Yba.prog w = .ok (.bool (!x)) w := fun _ _ => rfl
  go_enter Yba.func33, Yba.ntmps33
  go_wp2_with fail
  refine (left_any B len bs pos _ h hm).mono ?_
  rintro e w1 ⟨rfl, hb⟩
  go_wp2
  go_ret
  exact ⟨rfl, hb⟩

theorem idx_zero (a : Option Addr) (cap L : Nat) (w : World) (fv : Value) :
    Calls Yba.prog 32 #[.slice a 0 cap, fv] w fun e w' => e = .returned (.int .i64 (-1)) ∧ Below w.heap.size w w' := by
  go_enter Yba.func32, Yba.ntmps32
  go_wp2
  refine wp_loop_rounds 1 ?_
  rw [rounds_succ]
  go_wp2
  go_ret
  exact ⟨rfl, Below.refl _ _⟩

set_option maxHeartbeats 400000 in
theorem idx_none (b o len cap L B ol : Nat) (bs : Nat → Bool) (zs : Nat → Int) (w : World) (hlen : 0 < len) (hm : len ≤ 1024) (hz : ∀ i, i < len → w.cell? ⟨b, o + i, none⟩ = some (.int .i64 (zs i)))
    (hL : w.cell? ⟨L, 0, none⟩ = some (.func (.func 14) #[] #[.pointer (some ⟨B, 0, none⟩)])) (h : OutAt w B ol bs) (hom : ol ≤ 1024) (hall : ∀ i, i < len → leftB ol bs (zs i) = true) :
    Calls Yba.prog 32 #[.slice (some ⟨b, o, none⟩) len cap, .func (.func 33) #[] #[.pointer (some ⟨L, 0, none⟩)]] w fun e w' => e = .returned (.int .i64 (-1)) ∧ Below w.heap.size w w' := by
  go_enter Yba.func32, Yba.ntmps32
  go_wp2
  go_loopw [8] (fun i wr => ∃ k : Nat, k ≤ len ∧ i = .int .i64 k ∧ Below w.heap.size w wr) (fun i _ => len - (intOf i).toNat)
  case atStart => exact ⟨0, Nat.zero_le _, rfl, Below.refl _ _⟩
  case round =>
    obtain ⟨k, hk, rfl, hb⟩ := hrel
    by_cases hlt : k < len
    · have hc := cell_kept hb (hz k hlt)
      have hlk := hall k hlt
      go_wp2_with fail
      refine (not_left L B ol bs (zs k) _ (cell_kept hb hL) (h.kept hb) hom).mono ?_
      rintro e w1 ⟨rfl, hb1⟩
      go_wp2
      go_roundw
      case rel => exact ⟨k + 1, by omega, by go_num, below_step hb hb1⟩
      case measure => simp [intOf]; omega
    · go_wp2
      go_ret
      exact ⟨rfl, hb⟩

set_option maxHeartbeats 400000 in
theorem idx_some (b o len cap L B ol : Nat) (bs : Nat → Bool) (zs : Nat → Int) (w : World) (hlen : 0 < len) (hm : len ≤ 1024) (hz : ∀ i, i < len → w.cell? ⟨b, o + i, none⟩ = some (.int .i64 (zs i)))
    (hL : w.cell? ⟨L, 0, none⟩ = some (.func (.func 14) #[] #[.pointer (some ⟨B, 0, none⟩)])) (h : OutAt w B ol bs) (hom : ol ≤ 1024) (m : Nat) (hml : m < len) (hmf : leftB ol bs (zs m) = false) (hall : ∀ i, i < m → leftB ol bs (zs i) = true) :
    Calls Yba.prog 32 #[.slice (some ⟨b, o, none⟩) len cap, .func (.func 33) #[] #[.pointer (some ⟨L, 0, none⟩)]] w fun e w' => e = .returned (.int .i64 m) ∧ Below w.heap.size w w' := by
  go_enter Yba.func32, Yba.ntmps32
  go_wp2
  go_loopw [8] (fun i wr => ∃ k : Nat, k ≤ m ∧ i = .int .i64 k ∧ Below w.heap.size w wr) (fun i _ => len - (intOf i).toNat)
  case atStart => exact ⟨0, Nat.zero_le _, rfl, Below.refl _ _⟩
  case round =>
    obtain ⟨k, hk, rfl, hb⟩ := hrel
    by_cases hlt : k < m
    · have hc := cell_kept hb (hz k (by omega))
      have hlk := hall k hlt
      go_wp2_with fail
      refine (not_left L B ol bs (zs k) _ (cell_kept hb hL) (h.kept hb) hom).mono ?_
      rintro e w1 ⟨rfl, hb1⟩
      go_wp2
      go_roundw
      case rel => exact ⟨k + 1, by omega, by go_num, below_step hb hb1⟩
      case measure => simp [intOf]; omega
    · obtain rfl : k = m := by omega
      have hc := cell_kept hb (hz k hml)
      go_wp2_with fail
      refine (not_left L B ol bs (zs k) _ (cell_kept hb hL) (h.kept hb) hom).mono ?_
      rintro e w1 ⟨rfl, hb1⟩
      go_wp2
      go_ret
      exact ⟨rfl, below_step hb hb1⟩

end Go.Proofs.Ybulkbsbo
