/-
  LawS3433BPick: the row. Own work.
-/
import Derived.Test.YbulkbsboPickE
import Derived.Test.YbulkbsboPickF
import Derived.ProofKit
import Derived.Carry
import Derived.OpenShut
import Derived.ShutString
import Derived.ChangeOld
import Derived.Deep.Grids
namespace Go.Proofs.Ybulkbsbo
open Go.ChangeShapes Go.WideShapes Go.ChangeAt Go.RowKit Go.Deep
open Go.ChangeMaps (open_string shut_string)

theorem own : ownKnob Yba.prog.godebug = none := by kernel_rfl
theorem laidOut : laidOutB Yba.prog = true := by kernel_rfl

theorem first_of (len : Nat) (q : Nat → Bool) : (∀ i, i < len → q i = true) ∨ ∃ m, m < len ∧ q m = false ∧ ∀ i, i < m → q i = true := by
  induction len with
  | zero => exact .inl fun i hi => absurd hi (by omega)
  | succ n ih =>
    rcases ih with h | ⟨m, hm, hq, ha⟩
    · cases hn : q n with
      | true =>
        refine .inl fun i hi => ?_
        rcases Nat.lt_or_ge i n with h' | h'
        · exact h i h'
        · obtain rfl : i = n := by omega
          exact hn
      | false => exact .inr ⟨n, by omega, hn, h⟩
    · exact .inr ⟨m, by omega, hq, ha⟩

theorem pick_law (a a1 : Option Addr) (len cap ol ocap : Nat) (kind : ByteArray) (w : World) (ha : a = none → len = 0 ∧ cap = 0) (zs : Nat → Int) (bs : Nat → Bool)
    (hin : 0 < len → ∃ b o, a = some ⟨b, o, none⟩ ∧ ∀ i, i < len → w.cell? ⟨b, o + i, none⟩ = some (.int .i64 (zs i)))
    (hout : 0 < ol → ∃ b o, a1 = some ⟨b, o, none⟩ ∧ ∀ i, i < ol → w.cell? ⟨b, o + i, none⟩ = some (.bool (bs i))) :
    Calls Yba.prog 5 #[.slice a len cap, .slice a1 ol ocap, .string kind] w fun e w' => e = .returned (.bool true) ∧ Below w.heap.size w w' := by
  by_cases h1 : 1024 < len ∨ 1024 < ol
  · exact law_big a a1 len cap ol ocap kind w h1
  by_cases h2 : len = 0
  · subst h2
    exact law_zero a a1 cap ol ocap kind w (fun e => (ha e).2) (by omega)
  obtain ⟨b, o, rfl, hz⟩ := hin (by omega)
  rcases first_of len (fun i => leftB ol bs (zs i)) with hall | ⟨m, hm, hq, hall⟩
  · exact law_none a1 b o len cap ol ocap zs bs kind w (by omega) (by omega) (by omega) hz hout hall
  · exact law_some a1 b o len cap ol ocap zs bs kind w (by omega) (by omega) (by omega) hz hout m hm hq hall

set_option maxRecDepth 100000 in
theorem pick_lifted (os : Os) (started : os.Started) (H : Type) (enc : TypeId × Value → H) :
    ReturnsInHanded {} Yba.checked os 5 .any (Rows.lawS3433BPickSpec.pre6 enc Yba.prog Yba.f5 Rows.lawS3433BPickRow.domain false) (Rows.lawS3433BPickSpec.post enc Yba.prog Yba.f5 false true false false) := by
  refine returnsInHanded_of_change (C := Yba.checked) own started (by kernel_rfl) Yba.func5
    (ChangeSpec.witness6 (enc := enc) (C := Yba.checked) false ⟨#[], #[.slice none 0 0, .slice none 0 0, .string ByteArray.empty], []⟩ 8 (by kernel_rfl) (by kernel_rfl) (by kernel_rfl) (by kernel_rfl)) ?_
  intro W base args ds gs before hval0 hW _ _
  have hval : ∀ (j : Nat) t v, Yba.f5.params[j]? = some t → args[j]? = some v → Value.okWide Yba.prog W .any base t v := hval0
  have hW' := hW
  obtain ⟨p, q, hA0, hV, rfl, hfz, hnd⟩ := hW
  have hA : DataW.TrodAll enc Yba.prog W 0 (fun _ => true) true Yba.f5.params.toList args.toList ds p := hA0
  rw [Yba.params5] at hA hval
  obtain ⟨v0, v1, v2, d0, d1, d2, p0, p1, p2, rfl, rfl, rfl, h0, h1, h2⟩ := trodAll_three hA
  obtain ⟨rfl, rfl⟩ := trodVars_none hV
  obtain ⟨a0, len0, cap0, rfl⟩ := okWide_slice Yba.underlying45 (hval 0 45 v0 rfl rfl)
  obtain ⟨a1, len1, cap1, rfl⟩ := okWide_slice Yba.underlying46 (hval 1 46 v1 rfl rfl)
  obtain ⟨s2, rfl, rfl, rfl, w2⟩ := open_string Yba.underlying9 (hval 2 9 v2 rfl rfl) h2
  have k0 := h0
  have lt0 : ∀ x ∈ p0, x.block < W.heap.size := by obtain ⟨m, hm⟩ := k0; exact DataW.trod_lt m _ _ _ hm
  have k1 := h1
  have lt1 : ∀ x ∈ p1, x.block < W.heap.size := by obtain ⟨m, hm⟩ := k1; exact DataW.trod_lt m _ _ _ hm
  obtain ⟨zs, ha, hin⟩ : ∃ zs : Nat → Int, (a0 = none → len0 = 0 ∧ cap0 = 0) ∧ (0 < len0 → ∃ b o, a0 = some ⟨b, o, none⟩ ∧ ∀ i, i < len0 → W.cell? ⟨b, o + i, none⟩ = some (.int .i64 (zs i))) := by
    obtain ⟨fuel, hf⟩ := h0
    rcases open_ints Yba.underlying45 Yba.underlying3 (by kernel_rfl) hf with ⟨hcs, _⟩ | ⟨x, l, c, zs, hcs, _, hl, _, hz, _, hcell, _⟩
    · simp [Value.cells] at hcs
      obtain ⟨rfl, rfl, rfl⟩ := hcs
      exact ⟨fun _ => 0, fun _ => ⟨rfl, rfl⟩, fun h => absurd h (by omega)⟩
    · simp [Value.cells] at hcs
      obtain ⟨rfl, rfl, rfl⟩ := hcs
      have hz' : zs.length = cap0 := by simpa using hz
      refine ⟨fun i => zs.getD i 0, (fun h => by cases h), fun h => ?_⟩
      obtain ⟨b, o, rfl, hc⟩ := ints_at hcell (by omega)
      exact ⟨b, o, rfl, fun i hi => hc i (by omega)⟩
  obtain ⟨bs, hout⟩ : ∃ bs : Nat → Bool, (0 < len1 → ∃ b o, a1 = some ⟨b, o, none⟩ ∧ ∀ i, i < len1 → W.cell? ⟨b, o + i, none⟩ = some (.bool (bs i))) := by
    obtain ⟨fuel, hf⟩ := h1
    rcases open_bools Yba.underlying46 Yba.underlying4 (by kernel_rfl) hf with ⟨hcs, _⟩ | ⟨x, l, c, B, hcs, _, hl, _, _, hcell⟩
    · simp [Value.cells] at hcs
      obtain ⟨rfl, rfl, rfl⟩ := hcs
      exact ⟨fun _ => false, fun h => absurd h (by omega)⟩
    · simp [Value.cells] at hcs
      obtain ⟨rfl, rfl, rfl⟩ := hcs
      refine ⟨B, fun h => ?_⟩
      obtain ⟨b, o, spot⟩ := x
      have hspot : spot = none := by simpa [Addr.add] using World.cell?_spot (hcell 0 (by omega))
      subst hspot
      exact ⟨b, o, rfl, fun i hi => by rw [← add_plain]; exact hcell i (by omega)⟩
  clear hA0 hval0
  refine (pick_law a0 a1 len0 cap0 len1 cap1 s2 W ha zs bs hin hout).mono fun e W' ⟨he, bel⟩ => ?_
  subst he
  exact ⟨_, rfl, _, _, _, [], _, [], hW', trodAll_mk1 (shut_bool Yba.underlying4 _), trodAll_mk3 (Below.trod laidOut (by kernel_rfl) (of_decide_eq_true (by kernel_rfl)) k0 bel lt0) (Below.trod laidOut (by kernel_rfl) (of_decide_eq_true (by kernel_rfl)) k1 bel lt1) (shut_string Yba.underlying9 w2), rfl, bel.frame _, fun h => by cases h⟩

theorem pick_holds : Rows.LawS3433BPickSaid :=
  OpenClaim.holds_of_wide 5 Yba.f5 rfl rfl rfl rfl rfl rfl rfl ⟨rfl, rfl, rfl, rfl, rfl⟩ rfl rfl rfl rfl rfl (by kernel_rfl) Yba.func5 (by kernel_rfl)
    (of_decide_eq_true (by kernel_rfl)) (by unfold Func.isWrapper; first | (rw [if_pos (by decide +kernel)]; kernel_rfl) | (rw [if_neg (by decide +kernel)]; exact ⟨rfl, rfl⟩))
    (fun os started H enc _ => pick_lifted os started H enc)

end Go.Proofs.Ybulkbsbo
