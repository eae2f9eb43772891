/-
  Laws on nil function values; the walk over LawS3433BPick (5). Own work.
-/
import Derived.Test.YbulkbsboFetch
import Derived.LaidEqlPtr
import Derived.Lib.Builder
namespace Go.Proofs.Ybulkbsbo
set_option linter.unusedVariables false
open Go.RowKit

section
variable {P : Program} (w : World) {t : TypeId} {ps rs : Array TypeId} {vd : Bool}
theorem run_eql_func_nil (h : P.underlying t = some (.func ps rs vd)) (f : Fn) (fs fc : Array Value) : (binOp .eql t (.func f fs fc) .nilFunc).run P w = .ok (.bool false) w := by
  have e : ∀ d : Nat, (Op.equalIn (d + 1) t (.func f fs fc) .nilFunc).run P w = .ok false w := fun d => by simp [Op.equalIn, run_underlying h]
  simp only [binOp]
  simp [Op.equal, Op.maxDepth, e 9999]
theorem run_neq_nilFunc (h : P.underlying t = some (.func ps rs vd)) : (binOp .neq t .nilFunc .nilFunc).run P w = .ok (.bool false) w := by
  have e : ∀ d : Nat, (Op.equalIn (d + 1) t .nilFunc .nilFunc).run P w = .ok true w := fun d => by simp [Op.equalIn, run_underlying h]
  simp only [binOp]
  simp [Op.equal, Op.maxDepth, e 9999]
end

theorem info53 : Yba.prog.info? 53 = some Yba.t53 := by kernel_rfl
theorem info63 : Yba.prog.info? 63 = some Yba.t63 := by kernel_rfl
theorem size63 : Yba.t63.size ≠ 0 := by decide

theorem ptr_other {w w2 : World} {O R F Hb Ob : Nat} {kind : ByteArray} {hv pk : Value} (hf : Fetched w w2 O R F Hb Ob kind hv) (ho : OpAt w O R kind pk) :
    (binOp .eql 54 (.pointer (some ⟨F, 0, none⟩)) (.pointer (some ⟨O, 0, none⟩))).run Yba.prog w2 = .ok (.bool false) w2 := by
  obtain ⟨cs, h1⟩ := hf.blk
  obtain ⟨cs', h2⟩ := (ho.kept hf.below).blk
  have h3 := ho.lt
  have h4 := hf.new
  exact run_eql_ptr_other w2 Yba.underlying54 info63 size63 (by intro e; injection e with e1; omega) h1 h2

theorem clone_zero (a : Option Addr) (cap : Nat) (w : World) (h : a = none → cap = 0) :
    Calls Yba.prog 12 #[.slice a 0 cap] w fun e w' => ∃ ha hcap, e = .returned (.slice ha 0 hcap) ∧ Below w.heap.size w w' := by
  cases a with
  | none =>
    obtain rfl := h rfl
    refine (clone_nil w).mono ?_
    rintro e w' ⟨rfl, rfl⟩
    exact ⟨_, _, rfl, Below.refl _ _⟩
  | some x =>
    refine (clone_some x 0 cap (fun _ => 0) w (by omega) (fun i hi => absurd hi (by omega))).mono ?_
    rintro e w' ⟨g, cap', rfl, _, hb⟩
    exact ⟨_, _, rfl, hb⟩

set_option maxRecDepth 100000 in
theorem law_big (a a1 : Option Addr) (len cap ol ocap : Nat) (kind : ByteArray) (w : World) (h : 1024 < len ∨ 1024 < ol) :
    Calls Yba.prog 5 #[.slice a len cap, .slice a1 ol ocap, .string kind] w fun e w' => e = .returned (.bool true) ∧ Below w.heap.size w w' := by
  by_cases h1 : 1024 < len
  · go_enter Yba.func5, Yba.ntmps5
    go_wp2
    go_ret
    exact ⟨rfl, (Below.refl _ _).alloc (Nat.le_refl _) _⟩
  · have h2 : 1024 < ol := by omega
    go_enter Yba.func5, Yba.ntmps5
    go_wp2
    go_ret
    exact ⟨rfl, (Below.refl _ _).alloc (Nat.le_refl _) _⟩

theorem out_mk {w : World} {a1 : Option Addr} {ol ocap : Nat} {bs : Nat → Bool} (hout : 0 < ol → ∃ b o, a1 = some ⟨b, o, none⟩ ∧ ∀ i, i < ol → w.cell? ⟨b, o + i, none⟩ = some (.bool (bs i))) :
    OutAt (w.alloc (.cells #[.slice a1 ol ocap] 46)) w.heap.size ol bs :=
  ⟨a1, ocap, by simp, fun hp => by
    obtain ⟨b, o, e, hc⟩ := hout hp
    exact ⟨b, o, e, fun i hi => cell_kept ((Below.refl _ _).alloc (Nat.le_refl _) _) (hc i hi)⟩⟩

set_option maxHeartbeats 1600000 in
set_option maxRecDepth 100000 in
theorem law_zero (a a1 : Option Addr) (cap ol ocap : Nat) (kind : ByteArray) (w : World) (ha : a = none → cap = 0) (ho : ol ≤ 1024) :
    Calls Yba.prog 5 #[.slice a 0 cap, .slice a1 ol ocap, .string kind] w fun e w' => e = .returned (.bool true) ∧ Below w.heap.size w w' := by
  have hmf : ∀ (fn : Fn) (first cap : Array Value) (w : World), (Instr.makeFunc fn first cap).run Yba.prog w = .ok (.func fn first cap) w := fun _ _ _ _ => rfl
  have hmm := @run_makeMap Yba.prog
  have hno := fun (w' : World) (a : Option Addr) (l c : Nat) => run_neq_slice_nil_any (P := Yba.prog) w' 45 3 a l c 0 0 Yba.underlying45
  have heo := fun (w' : World) (a : Option Addr) (l c : Nat) => Lib.run_eql_slice_nil (P := Yba.prog) w' 45 3 a l c 0 0 Yba.underlying45
  have f1 := fun (w' : World) (f : Fn) (fs fc : Array Value) => run_eql_func_nil (P := Yba.prog) w' (t := 57) Yba.underlying57 f fs fc
  have f2 := fun (w' : World) (f : Fn) (fs fc : Array Value) => run_eql_func_nil (P := Yba.prog) w' (t := 60) Yba.underlying60 f fs fc
  have f3 := fun (w' : World) => run_neq_nilFunc (P := Yba.prog) w' (t := 57) Yba.underlying57
  have f4 := fun (w' : World) => run_neq_nilFunc (P := Yba.prog) w' (t := 60) Yba.underlying60
  have hps := fun (w' : World) (x : Addr) => Lib.run_neq_ptr_same (P := Yba.prog) w' (tp := 48) x Yba.underlying48 info53
  go_enter Yba.func5, Yba.ntmps5
  go_wp2_with fail
  refine (clone_zero a cap _ ha).mono ?_
  rintro e w1 ⟨h', hcap, rfl, hb⟩
  go_wp2_with fail
  refine (fetch_nil _ _ kind h' 0 hcap _ (opAt_made w1 kind)).mono ?_
  rintro e w2 ⟨F, rfl, Hb, Ob, hf⟩
  have hB := below_step (below_step (below_step ((Below.refl w.heap.size w).alloc (Nat.le_refl _) _) hb) (made_below w1 kind)) hf.below
  have hpo := ptr_other hf (opAt_made w1 kind)
  obtain ⟨o0, o1, o2, o3, o4, o5, o6, o7, _⟩ := (opAt_made w1 kind).kept hf.below
  obtain ⟨d0, d1, d2, d4, d5, d7, _, dH, _, _, _⟩ := hf
  clear hb
  go_wp2_with fail
  refine (pick_zero Hb hcap h' _ _ _ _ _ _ w2 dH).mono ?_
  rintro e w3 ⟨rfl, hb3⟩
  clear o0 o1 o2 o3 o4 o5 o6 o7 d0 d1 d2 d4 d5 d7 hpo dH
  go_wp2_with fail
  refine wp_loop_rounds 1 ?_
  rw [rounds_succ]
  go_wp2_with fail
  go_quiet (fail)
  go_wp2_with fail
  refine (equal_zero h' a hcap cap _).mono ?_
  rintro e w4 ⟨rfl, hb4⟩
  go_wp2
  go_ret
  exact ⟨rfl, below_step (below_drewN (below_step hB hb3) _) hb4⟩

end Go.Proofs.Ybulkbsbo
