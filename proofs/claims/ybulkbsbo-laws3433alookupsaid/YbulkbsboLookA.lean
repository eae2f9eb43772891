/-
  Walks over zzs3433awant (9). Own work.
-/
import Derived.Test.YbulkbsboMarkD
namespace Go.Proofs.Ybulkbsbo
set_option linter.unusedVariables false
open Go.RowKit Go.Maps Go.MuLone Go.WideMaps

def KeysAt (w : World) (a : Option Addr) (len : Nat) (ks : Nat → ByteArray) : Prop :=
  0 < len → ∃ b o, a = some ⟨b, o, none⟩ ∧ ∀ i, i < len → w.cell? ⟨b, o + i, none⟩ = some (.string (ks i))
def ValsAt (w : World) (a : Option Addr) (len : Nat) (cs ws : Nat → Int) : Prop :=
  0 < len → ∃ b o, a = some ⟨b, o, none⟩ ∧ ∀ i, i < len → w.cell? ⟨b, o + i * 2, none⟩ = some (.int .u64 (cs i)) ∧ w.cell? ⟨b, o + i * 2 + 1, none⟩ = some (.int .u64 (ws i))

theorem KeysAt.kept {w w' : World} {a : Option Addr} {len : Nat} {ks : Nat → ByteArray} (h : KeysAt w a len ks) (hb : Below w.heap.size w w') : KeysAt w' a len ks := fun hp => by
  obtain ⟨b, o, e, hc⟩ := h hp
  exact ⟨b, o, e, fun i hi => Ybulkbsbo.kept hb (hc i hi)⟩
theorem ValsAt.kept {w w' : World} {a : Option Addr} {len : Nat} {cs ws : Nat → Int} (h : ValsAt w a len cs ws) (hb : Below w.heap.size w w') : ValsAt w' a len cs ws := fun hp => by
  obtain ⟨b, o, e, hc⟩ := h hp
  exact ⟨b, o, e, fun i hi => ⟨Ybulkbsbo.kept hb (hc i hi).1, Ybulkbsbo.kept hb (hc i hi).2⟩⟩

theorem key_plain (b o len cap k : Nat) (hk : k < len) (w' : World) : (Instr.indexAt 22 (.slice (some ⟨b, o, none⟩) len cap) (.int .i64 (k : Int))).run Yba.prog w' = .ok (.pointer (some ⟨b, o + k, none⟩)) w' := by
  go_simp
theorem val_plain (b o len cap k : Nat) (hk : k < len) (w' : World) : (Instr.indexAt 23 (.slice (some ⟨b, o, none⟩) len cap) (.int .i64 (k : Int))).run Yba.prog w' = .ok (.pointer (some ⟨b, o + k * 2, none⟩)) w' := by
  go_simp

theorem key_at {w : World} {a : Option Addr} {len : Nat} {ks : Nat → ByteArray} (h : KeysAt w a len ks) {k : Nat} (hk : k < len) (cap : Nat) :
    ∃ b o, (∀ w', (Instr.indexAt 22 (.slice a len cap) (.int .i64 (k : Int))).run Yba.prog w' = .ok (.pointer (some ⟨b, o + k, none⟩)) w') ∧ w.cell? ⟨b, o + k, none⟩ = some (.string (ks k)) := by
  obtain ⟨b, o, rfl, hc⟩ := h (by omega)
  exact ⟨b, o, key_plain b o len cap k hk, hc k hk⟩
theorem val_at {w : World} {a : Option Addr} {len : Nat} {cs ws : Nat → Int} (h : ValsAt w a len cs ws) {k : Nat} (hk : k < len) (cap : Nat) :
    ∃ b o, (∀ w', (Instr.indexAt 23 (.slice a len cap) (.int .i64 (k : Int))).run Yba.prog w' = .ok (.pointer (some ⟨b, o + k * 2, none⟩)) w') ∧ w.cell? ⟨b, o + k * 2, none⟩ = some (.int .u64 (cs k)) ∧ w.cell? ⟨b, o + k * 2 + 1, none⟩ = some (.int .u64 (ws k)) := by
  obtain ⟨b, o, rfl, hc⟩ := h (by omega)
  exact ⟨b, o, val_plain b o len cap k hk, hc k hk⟩

/-- The last pair given for s among the first n. -/
def wantP (ks : Nat → ByteArray) (cs ws : Nat → Int) : Nat → ByteArray → Int × Int
  | 0, _ => (0, 0)
  | n + 1, s => if ks n = s then (cs n, ws n) else wantP ks cs ws n s

theorem wantP_none {ks : Nat → ByteArray} {cs ws : Nat → Int} {n : Nat} {s : ByteArray} (h : ∀ i, i < n → ks i ≠ s) : wantP ks cs ws n s = (0, 0) := by
  induction n with
  | zero => rfl
  | succ n ih => rw [wantP, if_neg (h n (by omega)), ih fun i hi => h i (by omega)]
theorem wantP_some {ks : Nat → ByteArray} {cs ws : Nat → Int} {n m : Nat} {s : ByteArray} (hm : m < n) (he : ks m = s) (h : ∀ j, m < j → j < n → ks j ≠ s) : wantP ks cs ws n s = (cs m, ws m) := by
  induction n with
  | zero => omega
  | succ n ih =>
    rw [wantP]
    rcases Nat.lt_or_ge m n with h' | h'
    · rw [if_neg (h n h' (by omega)), ih h' fun j a b => h j a (by omega)]
    · obtain rfl : m = n := by omega
      rw [if_pos he]
theorem last_eq (ks : Nat → ByteArray) (n : Nat) (s : ByteArray) : (∀ i, i < n → ks i ≠ s) ∨ ∃ m, m < n ∧ ks m = s ∧ ∀ j, m < j → j < n → ks j ≠ s := by
  induction n with
  | zero => exact .inl fun i hi => absurd hi (by omega)
  | succ n ih =>
    by_cases hn : ks n = s
    · exact .inr ⟨n, by omega, hn, fun j a b => by omega⟩
    · rcases ih with h | ⟨m, hm, he, ha⟩
      · refine .inl fun i hi => ?_
        rcases Nat.lt_or_ge i n with h' | h'
        · exact h i h'
        · obtain rfl : i = n := by omega
          exact hn
      · refine .inr ⟨m, by omega, he, fun j a b => ?_⟩
        rcases Nat.lt_or_ge j n with h' | h'
        · exact ha j a h'
        · obtain rfl : j = n := by omega
          exact hn

theorem bytes_eq {a b : ByteArray} (h : a = b) : (a.toList == b.toList) = true := by rw [h]; simp

theorem want_nil (a0 a1 : Option Addr) (l0 c0 l1 c1 n : Nat) (s : ByteArray) (w : World) :
    Calls Yba.prog 9 #[.slice a0 l0 c0, .slice a1 l1 c1, .int .i64 (n : Int), .bool true, .string s] w fun e w' => e = .returned (.agg #[.int .u64 0, .int .u64 0]) ∧ Below w.heap.size w w' := by
  go_enter Yba.func9, Yba.ntmps9
  go_wp2
  exact bodyPost_ret (v := .agg #[.int .u64 0, .int .u64 0]) (by simp [results, Yba.results9, go_sem]) rfl ⟨rfl, (Below.refl _ _).alloc (Nat.le_refl _) _⟩

set_option maxHeartbeats 400000 in
theorem want_none (a0 a1 : Option Addr) (l0 c0 l1 c1 n : Nat) (ks : Nat → ByteArray) (s : ByteArray) (w : World) (h0 : l0 ≤ 1024) (hn : n ≤ l0) (hk : KeysAt w a0 l0 ks) (hne : ∀ i, i < n → ks i ≠ s) :
    Calls Yba.prog 9 #[.slice a0 l0 c0, .slice a1 l1 c1, .int .i64 (n : Int), .bool false, .string s] w fun e w' => e = .returned (.agg #[.int .u64 0, .int .u64 0]) ∧ Below w.heap.size w w' := by
  have hb0 := (Below.refl w.heap.size w).alloc (Nat.le_refl _) (.cells #[.int .u64 0, .int .u64 0] 38)
  have hk0 := hk.kept hb0
  go_enter Yba.func9, Yba.ntmps9
  go_wp2
  go_loop [11] (fun i => ∃ m : Nat, m ≤ n ∧ i = .int .i64 ((m : Int) - 1)) (fun i => (intOf i + 1).toNat)
  case atStart => exact ⟨n, Nat.le_refl _, rfl⟩
  case round =>
    obtain ⟨m, hm, rfl⟩ := hrel
    by_cases hlt : 0 < m
    · obtain ⟨k, rfl⟩ : ∃ k, m = k + 1 := ⟨m - 1, by omega⟩
      have ek : (((k + 1 : Nat) : Int) - 1) = (k : Int) := by omega
      obtain ⟨b, o, hix, hc⟩ := key_at hk0 (show k < l0 by omega) c0
      have hb := bytes_ne (hne k (by omega))
      go_wp2
      go_round
      case rel => exact ⟨k, by omega, rfl⟩
      case measure => simp [intOf]
    · obtain rfl : m = 0 := by omega
      go_wp2
      exact bodyPost_ret (v := .agg #[.int .u64 0, .int .u64 0]) (by simp [results, Yba.results9, go_sem]) rfl ⟨rfl, hb0⟩

set_option maxHeartbeats 400000 in
theorem want_some (a0 a1 : Option Addr) (l0 c0 l1 c1 n : Nat) (ks : Nat → ByteArray) (cs ws : Nat → Int) (s : ByteArray) (w : World) (h0 : l0 ≤ 1024) (h1 : l1 ≤ 1024) (hn : n ≤ l0) (hn1 : n ≤ l1) (hk : KeysAt w a0 l0 ks) (hv : ValsAt w a1 l1 cs ws) (p : Nat) (hp : p < n) (he : ks p = s) (hne : ∀ j, p < j → j < n → ks j ≠ s) :
    Calls Yba.prog 9 #[.slice a0 l0 c0, .slice a1 l1 c1, .int .i64 (n : Int), .bool false, .string s] w fun e w' => e = .returned (.agg #[.int .u64 (cs p), .int .u64 (ws p)]) ∧ Below w.heap.size w w' := by
  have hb0 := (Below.refl w.heap.size w).alloc (Nat.le_refl _) (.cells #[.int .u64 0, .int .u64 0] 38)
  have hk0 := hk.kept hb0
  have hv0 := hv.kept hb0
  have heb := bytes_eq he
  clear he
  go_enter Yba.func9, Yba.ntmps9
  go_wp2
  go_loop [11] (fun i => ∃ m : Nat, p < m ∧ m ≤ n ∧ i = .int .i64 ((m : Int) - 1)) (fun i => (intOf i + 1).toNat)
  case atStart => exact ⟨n, hp, Nat.le_refl _, rfl⟩
  case round =>
    obtain ⟨m, hpm, hm, rfl⟩ := hrel
    obtain ⟨k, rfl⟩ : ∃ k, m = k + 1 := ⟨m - 1, by omega⟩
    have ek : (((k + 1 : Nat) : Int) - 1) = (k : Int) := by omega
    obtain ⟨b, o, hix, hc⟩ := key_at hk0 (show k < l0 by omega) c0
    by_cases hlt : p < k
    · have hb := bytes_ne (hne k hlt (by omega))
      go_wp2
      go_round
      case rel => exact ⟨k, hlt, by omega, rfl⟩
      case measure => simp [intOf]
    · obtain rfl : p = k := by omega
      obtain ⟨b', o', hix', hc0, hc1⟩ := val_at hv0 (show p < l1 by omega) c1
      go_wp2_with fail
      go_region
      go_wp2
      exact bodyPost_ret (v := .agg #[.int .u64 (cs p), .int .u64 (ws p)]) (by simp [results, Yba.results9, go_sem]) rfl ⟨rfl, ((Below.refl _ _).alloc (Nat.le_refl _) _).drew⟩

theorem want_any (a0 a1 : Option Addr) (l0 c0 l1 c1 n : Nat) (ks : Nat → ByteArray) (cs ws : Nat → Int) (s : ByteArray) (w : World) (h0 : l0 ≤ 1024) (h1 : l1 ≤ 1024) (hn : n ≤ l0) (hn1 : n ≤ l1) (hk : KeysAt w a0 l0 ks) (hv : ValsAt w a1 l1 cs ws)
    (a b : Int) (hw : wantP ks cs ws n s = (a, b)) :
    Calls Yba.prog 9 #[.slice a0 l0 c0, .slice a1 l1 c1, .int .i64 (n : Int), .bool false, .string s] w fun e w' => e = .returned (.agg #[.int .u64 a, .int .u64 b]) ∧ Below w.heap.size w w' := by
  rcases last_eq ks n s with h | ⟨p, hp, he, hne⟩
  · rw [wantP_none h] at hw
    cases hw
    exact want_none a0 a1 l0 c0 l1 c1 n ks s w h0 hn hk h
  · rw [wantP_some hp he hne] at hw
    cases hw
    exact want_some a0 a1 l0 c0 l1 c1 n ks cs ws s w h0 h1 hn hn1 hk hv p hp he hne

end Go.Proofs.Ybulkbsbo
