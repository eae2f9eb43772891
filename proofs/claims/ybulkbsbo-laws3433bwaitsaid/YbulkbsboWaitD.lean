/-
  Walks under LawS3433BWait: quorum (35), the fetching op's waitOnSlow (34). Own work.
-/
import Derived.Test.YbulkbsboWaitC
namespace Go.Proofs.Ybulkbsbo
set_option linter.unusedVariables false
open Go.RowKit Go.Maps

theorem own_all (O R M2 M3 C Cv len cap : Nat) (a : Option Addr) (zs : Nat → Int) (fl sl : Int → Bool) (g : Fn) (gs gc : Array Value) (w : World) (h : Ready w O R M2 M3 C Cv a len cap zs fl sl)
    (hall : ∀ i, i < len → (fl (zs i) || sl (zs i)) = true) :
    Calls Yba.prog 18 #[.func (.func 36) #[.pointer (some ⟨O, 0, none⟩)] #[], .func g gs gc, .pointer (some ⟨Cv, 0, none⟩), .pointer (some ⟨C, 0, none⟩)] w
      fun e w' => e = .returned (.slice none 0 0) ∧ w'.cell? ⟨Cv, 0, none⟩ = some (.int .i64 1) ∧ Below Cv w w' := by
  by_cases h0 : len = 0
  · subst h0
    exact own_zero O R M2 M3 C Cv cap a zs fl sl g gs gc w h
  · obtain ⟨b, o, rfl, _⟩ := h.hi (by omega)
    exact own_none O R M2 M3 C Cv len cap b o zs fl sl g gs gc w h (by omega) hall

theorem own_one (O R M2 M3 C Cv len cap : Nat) (a : Option Addr) (zs : Nat → Int) (fl sl : Int → Bool) (g : Fn) (gs gc : Array Value) (w : World) (h : Ready w O R M2 M3 C Cv a len cap zs fl sl)
    (m : Nat) (hml : m < len) (hmf : (fl (zs m) || sl (zs m)) = false) (hall : ∀ i, i < m → (fl (zs i) || sl (zs i)) = true) :
    Calls Yba.prog 18 #[.func (.func 36) #[.pointer (some ⟨O, 0, none⟩)] #[], .func g gs gc, .pointer (some ⟨Cv, 0, none⟩), .pointer (some ⟨C, 0, none⟩)] w
      fun e w' => (∃ x, e = .returned (.slice (some x) 1 1)) ∧ w'.cell? ⟨Cv, 0, none⟩ = some (.int .i64 1) ∧ Below Cv w w' := by
  obtain ⟨b, o, rfl, _⟩ := h.hi (by omega)
  exact own_some O R M2 M3 C Cv len cap b o zs fl sl g gs gc w h (by omega) m hml hmf hall

theorem quorum_all (O R M2 M3 C Cv len cap : Nat) (a : Option Addr) (zs : Nat → Int) (fl sl : Int → Bool) (w : World) (h : Ready w O R M2 M3 C Cv a len cap zs fl sl)
    (hall : ∀ i, i < len → (fl (zs i) || sl (zs i)) = true) :
    Calls Yba.prog 35 #[.pointer (some ⟨O, 0, none⟩), .func (.func 36) #[.pointer (some ⟨O, 0, none⟩)] #[]] w
      fun e w' => e = .returned (.slice none 0 0) ∧ w'.cell? ⟨Cv, 0, none⟩ = some (.int .i64 1) ∧ Below Cv w w' := by
  have hmf : ∀ (fn : Fn) (first cap : Array Value) (w : World), (Instr.makeFunc fn first cap).run Yba.prog w = .ok (.func fn first cap) w := fun _ _ _ _ => rfl
  have hP := h.hP
  go_enter Yba.func35, Yba.ntmps35
  go_wp2_with fail
  refine (own_all O R M2 M3 C Cv len cap a zs fl sl _ _ _ w h hall).mono ?_
  rintro e w' ⟨rfl, hc, hb⟩
  go_wp2
  go_ret
  exact ⟨rfl, hc, hb⟩

theorem quorum_one (O R M2 M3 C Cv len cap : Nat) (a : Option Addr) (zs : Nat → Int) (fl sl : Int → Bool) (w : World) (h : Ready w O R M2 M3 C Cv a len cap zs fl sl)
    (m : Nat) (hml : m < len) (hmf0 : (fl (zs m) || sl (zs m)) = false) (hall : ∀ i, i < m → (fl (zs i) || sl (zs i)) = true) :
    Calls Yba.prog 35 #[.pointer (some ⟨O, 0, none⟩), .func (.func 36) #[.pointer (some ⟨O, 0, none⟩)] #[]] w
      fun e w' => (∃ x, e = .returned (.slice (some x) 1 1)) ∧ w'.cell? ⟨Cv, 0, none⟩ = some (.int .i64 1) ∧ Below Cv w w' := by
  have hmf : ∀ (fn : Fn) (first cap : Array Value) (w : World), (Instr.makeFunc fn first cap).run Yba.prog w = .ok (.func fn first cap) w := fun _ _ _ _ => rfl
  have hP := h.hP
  go_enter Yba.func35, Yba.ntmps35
  go_wp2_with fail
  refine (own_one O R M2 M3 C Cv len cap a zs fl sl _ _ _ w h m hml hmf0 hall).mono ?_
  rintro e w' ⟨⟨x, rfl⟩, hc, hb⟩
  go_wp2
  go_ret
  exact ⟨⟨x, rfl⟩, hc, hb⟩

theorem wait_all (Ob O R M2 M3 C Cv len cap : Nat) (a : Option Addr) (zs : Nat → Int) (fl sl : Int → Bool) (w : World) (hOb : w.cell? ⟨Ob, 0, none⟩ = some (.pointer (some ⟨O, 0, none⟩))) (h : Ready w O R M2 M3 C Cv a len cap zs fl sl)
    (hall : ∀ i, i < len → (fl (zs i) || sl (zs i)) = true) :
    Calls Yba.prog 34 #[.pointer (some ⟨Ob, 0, none⟩)] w
      fun e w' => e = .returned (.bool true) ∧ w'.cell? ⟨Cv, 0, none⟩ = some (.int .i64 1) ∧ Below Cv w w' := by
  have hmf : ∀ (fn : Fn) (first cap : Array Value) (w : World), (Instr.makeFunc fn first cap).run Yba.prog w = .ok (.func fn first cap) w := fun _ _ _ _ => rfl
  have heo := fun (w' : World) (a : Option Addr) (l c : Nat) => Lib.run_eql_slice_nil (P := Yba.prog) w' 45 3 a l c 0 0 Yba.underlying45
  go_enter Yba.func34, Yba.ntmps34
  go_wp2_with fail
  refine (quorum_all O R M2 M3 C Cv len cap a zs fl sl w h hall).mono ?_
  rintro e w' ⟨rfl, hc, hb⟩
  go_wp2
  go_ret
  exact ⟨rfl, hc, hb⟩

theorem wait_one (Ob O R M2 M3 C Cv len cap : Nat) (a : Option Addr) (zs : Nat → Int) (fl sl : Int → Bool) (w : World) (hOb : w.cell? ⟨Ob, 0, none⟩ = some (.pointer (some ⟨O, 0, none⟩))) (h : Ready w O R M2 M3 C Cv a len cap zs fl sl)
    (m : Nat) (hml : m < len) (hmf0 : (fl (zs m) || sl (zs m)) = false) (hall : ∀ i, i < m → (fl (zs i) || sl (zs i)) = true) :
    Calls Yba.prog 34 #[.pointer (some ⟨Ob, 0, none⟩)] w
      fun e w' => e = .returned (.bool false) ∧ w'.cell? ⟨Cv, 0, none⟩ = some (.int .i64 1) ∧ Below Cv w w' := by
  have hmf : ∀ (fn : Fn) (first cap : Array Value) (w : World), (Instr.makeFunc fn first cap).run Yba.prog w = .ok (.func fn first cap) w := fun _ _ _ _ => rfl
  have heo := fun (w' : World) (a : Option Addr) (l c : Nat) => Lib.run_eql_slice_nil (P := Yba.prog) w' 45 3 a l c 0 0 Yba.underlying45
  go_enter Yba.func34, Yba.ntmps34
  go_wp2_with fail
  refine (quorum_one O R M2 M3 C Cv len cap a zs fl sl w h m hml hmf0 hall).mono ?_
  rintro e w' ⟨⟨x, rfl⟩, hc, hb⟩
  go_wp2
  go_ret
  exact ⟨rfl, hc, hb⟩

end Go.Proofs.Ybulkbsbo
