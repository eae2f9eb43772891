/-
  LawS3433ALookup: the row. Own work.
-/
import Derived.Test.YbulkbsboLookC
import Derived.ProofKit
import Derived.Carry
import Derived.OpenShut
import Derived.ShutString
import Derived.ChangeOld
import Derived.SliceStrings
import Derived.Deep.SlicePairs
namespace Go.Proofs.Ybulkbsbo.look
open Go.ChangeShapes Go.WideShapes Go.ChangeAt Go.RowKit Go.Deep
open Go.ChangeMaps (open_string shut_string)
set_option linter.unusedVariables false

theorem own : ownKnob Yba.prog.godebug = none := by kernel_rfl
theorem laidOut : laidOutB Yba.prog = true := by kernel_rfl

theorem walk (a0 a1 : Option Addr) (l0 c0 l1 c1 : Nat) (ks : Nat → ByteArray) (cs ws : Nat → Int) (q : ByteArray) (nm : Bool) (w : World) (hq : q.size ≤ maxLen) (hk : KeysAt w a0 l0 ks) (hv : ValsAt w a1 l1 cs ws) (hks : ∀ i, i < l0 → (ks i).size ≤ maxLen) :
    Calls Yba.prog 3 #[.slice a0 l0 c0, .slice a1 l1 c1, .string q, .bool nm] w fun e w' => e = .returned (.bool true) ∧ Below w.heap.size w w' := by
  by_cases hbig : 1024 < l0 ∨ 1024 < l1
  · exact look_big a0 a1 l0 c0 l1 c1 q nm w hbig
  by_cases hlt : l1 < l0
  · cases nm with
    | true => exact look_nil_lt a0 a1 l0 c0 l1 c1 ks q w (by omega) (by omega) hlt hq hk hks
    | false => exact look_map_lt a0 a1 l0 c0 l1 c1 ks cs ws q w (by omega) (by omega) hlt hq hk hv hks
  · cases nm with
    | true => exact look_nil_ge a0 a1 l0 c0 l1 c1 ks q w (by omega) (by omega) hlt hq hk hks
    | false => exact look_map_ge a0 a1 l0 c0 l1 c1 ks cs ws q w (by omega) (by omega) hlt hq hk hv hks

theorem spot_none {w : World} {x : Addr} {v : Value} (h : w.cell? (x.add 0) = some v) : ∃ b o, x = ⟨b, o, none⟩ := by
  obtain ⟨b, o, spot⟩ := x
  have hspot : spot = none := by simpa [Addr.add] using World.cell?_spot h
  subst hspot
  exact ⟨b, o, rfl⟩

theorem keys_view {H : Type} {enc : TypeId × Value → H} {W : World} {a : Option Addr} {len cap : Nat} {d : DataW H} {p : List MemPlace} (h : DataW.Trod enc Yba.prog W 0 (fun _ => true) true 22 (.slice a len cap) d p) :
    ∃ ks : Nat → ByteArray, KeysAt W a len ks ∧ ∀ i, i < len → (ks i).size ≤ maxLen := by
  obtain ⟨fuel, hf⟩ := h
  rcases open_strings Yba.underlying22 Yba.underlying9 (by kernel_rfl) hf with ⟨hcs, _⟩ | ⟨x, l, c, ss, hcs, _, hl, _, hz, _, hcell, hws⟩
  · simp [Value.cells] at hcs
    obtain ⟨rfl, rfl, rfl⟩ := hcs
    exact ⟨fun _ => ByteArray.empty, fun h => absurd h (by omega), fun i hi => absurd hi (by omega)⟩
  · simp [Value.cells] at hcs
    obtain ⟨rfl, rfl, rfl⟩ := hcs
    have hz' : ss.length = cap := by simpa using hz
    refine ⟨fun i => ss.getD i ByteArray.empty, fun h => ?_, fun i hi => hws _ ?_⟩
    · obtain ⟨b, o, rfl⟩ := spot_none (hcell 0 (by omega))
      exact ⟨b, o, rfl, fun i hi => by rw [← add_plain]; exact hcell i (by omega)⟩
    · show ss.getD i ByteArray.empty ∈ ss
      rw [List.getD_eq_getElem?_getD, List.getElem?_eq_getElem (by omega)]
      exact List.getElem_mem _

theorem vals_view {H : Type} {enc : TypeId × Value → H} {W : World} {a : Option Addr} {len cap : Nat} {d : DataW H} {p : List MemPlace} (h : DataW.Trod enc Yba.prog W 0 (fun _ => true) true 23 (.slice a len cap) d p) :
    ∃ cs ws : Nat → Int, ValsAt W a len cs ws := by
  obtain ⟨fuel, hf⟩ := h
  rcases open_slice_pairs Yba.underlying23 Yba.underlying37 (by kernel_rfl) rfl rfl (by kernel_rfl) (by kernel_rfl) hf with ⟨hcs, _⟩ | ⟨x, l, c, m, n, V0, V1, D0, D1, P0, P1, hcs, _, hl, _, hz, _, hcell⟩
  · simp [Value.cells] at hcs
    obtain ⟨rfl, rfl, rfl⟩ := hcs
    exact ⟨fun _ => 0, fun _ => 0, fun h => absurd h (by omega)⟩
  · simp [Value.cells] at hcs
    obtain ⟨rfl, rfl, rfl⟩ := hcs
    have hz' : m = cap := by simpa using hz
    refine ⟨fun i => intOf (V0 i), fun i => intOf (V1 i), fun h => ?_⟩
    have h00 := (hcell 0 (by omega)).1
    rw [Nat.zero_mul] at h00
    obtain ⟨b, o, rfl⟩ := spot_none h00
    refine ⟨b, o, rfl, fun i hi => ?_⟩
    obtain ⟨h1, h2, h3, h4⟩ := hcell i (by omega)
    obtain ⟨x, e0, _, _⟩ := DataW.trod_int Yba.underlying35 h3
    obtain ⟨y, e1, _, _⟩ := DataW.trod_int Yba.underlying35 h4
    simp at e0 e1
    rw [add_plain] at h1 h2
    rw [e0] at h1
    rw [e1] at h2
    show W.cell? ⟨b, o + i * 2, none⟩ = some (.int .u64 (intOf (V0 i))) ∧ W.cell? ⟨b, o + i * 2 + 1, none⟩ = some (.int .u64 (intOf (V1 i)))
    rw [e0, e1]
    exact ⟨h1, h2⟩

set_option maxRecDepth 100000 in
theorem lifted (os : Os) (started : os.Started) (H : Type) (enc : TypeId × Value → H) :
    ReturnsInHanded {} Yba.checked os 3 .any (Rows.lawS3433ALookupSpec.pre6 enc Yba.prog Yba.f3 Rows.lawS3433ALookupRow.domain false) (Rows.lawS3433ALookupSpec.post enc Yba.prog Yba.f3 false true false false) := by
  refine returnsInHanded_of_change (C := Yba.checked) own started (by kernel_rfl) Yba.func3
    (ChangeSpec.witness6 (enc := enc) (C := Yba.checked) false ⟨#[], #[.slice none 0 0, .slice none 0 0, .string ByteArray.empty, .bool false], []⟩ 8 (by kernel_rfl) (by kernel_rfl) (by kernel_rfl) (by kernel_rfl)) ?_
  intro W base args ds gs before hval0 hW _ _
  have hval : ∀ (j : Nat) t v, Yba.f3.params[j]? = some t → args[j]? = some v → Value.okWide Yba.prog W .any base t v := hval0
  have hW' := hW
  obtain ⟨p, q, hA0, hV, rfl, hfz, hnd⟩ := hW
  have hA : DataW.TrodAll enc Yba.prog W 0 (fun _ => true) true Yba.f3.params.toList args.toList ds p := hA0
  rw [Yba.params3] at hA hval
  obtain ⟨v0, v1, v2, v3, d0, d1, d2, d3, p0, p1, p2, p3, rfl, rfl, rfl, h0, h1, h2, h3⟩ := trodAll_four hA
  obtain ⟨rfl, rfl⟩ := trodVars_none hV
  obtain ⟨a0, len0, cap0, rfl⟩ := okWide_slice Yba.underlying22 (hval 0 22 v0 rfl rfl)
  obtain ⟨a1, len1, cap1, rfl⟩ := okWide_slice Yba.underlying23 (hval 1 23 v1 rfl rfl)
  obtain ⟨s2, rfl, rfl, rfl, w2⟩ := open_string Yba.underlying9 (hval 2 9 v2 rfl rfl) h2
  obtain ⟨b3, rfl, rfl, rfl⟩ := open_bool Yba.underlying4 (hval 3 4 v3 rfl rfl) h3
  have lt0 : ∀ x ∈ p0, x.block < W.heap.size := by obtain ⟨m, hm⟩ := h0; exact DataW.trod_lt m _ _ _ hm
  have lt1 : ∀ x ∈ p1, x.block < W.heap.size := by obtain ⟨m, hm⟩ := h1; exact DataW.trod_lt m _ _ _ hm
  obtain ⟨ks, hk, hks⟩ := keys_view h0
  obtain ⟨cs, ws, hv⟩ := vals_view h1
  clear hA0 hval0
  refine (walk a0 a1 len0 cap0 len1 cap1 ks cs ws s2 b3 W w2 hk hv hks).mono fun e W' ⟨he, bel⟩ => ?_
  subst he
  exact ⟨_, rfl, _, _, _, [], _, [], hW', trodAll_mk1 (shut_bool Yba.underlying4 _), trodAll_mk4 (Below.trod laidOut (by kernel_rfl) (of_decide_eq_true (by kernel_rfl)) h0 bel lt0) (Below.trod laidOut (by kernel_rfl) (of_decide_eq_true (by kernel_rfl)) h1 bel lt1) (shut_string Yba.underlying9 w2) (shut_bool Yba.underlying4 _), rfl, bel.frame _, fun h => by cases h⟩

theorem over : Rows.lawS3433ALookupRow.holds Yba.pinned (OpenSpec.ofChange Rows.lawS3433ALookupSpec) :=
  OpenClaim.holds_of_wide 3 Yba.f3 rfl rfl rfl rfl rfl rfl rfl ⟨rfl, rfl, rfl, rfl, rfl⟩ rfl rfl rfl rfl rfl (by kernel_rfl) Yba.func3 (by kernel_rfl)
    (of_decide_eq_true (by kernel_rfl)) (by unfold Func.isWrapper; first | (rw [if_pos (by decide +kernel)]; kernel_rfl) | (rw [if_neg (by decide +kernel)]; exact ⟨rfl, rfl⟩))
    (fun os started H enc _ => lifted os started H enc)

end Go.Proofs.Ybulkbsbo.look

namespace Go.Proofs.Ybulkbsbo
theorem lookup_holds : Rows.LawS3433ALookupSaid := look.over
end Go.Proofs.Ybulkbsbo
