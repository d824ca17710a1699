/-
  'Rows.FnOwnDataKeepsEachEntryAndOwnsItsDataSaid' PROVED: the row out of its walk.
-/
import Derived.Test.Qxb6605551aRows
import Derived.Test.Qxb6605551aLaw
import Derived.Test.Qxb6605551aOpen
import Derived.WalkKit
import Derived.ProofKit
import Derived.OpenShut
import Derived.ShutString
import Derived.ChangeOld
import Derived.Below
namespace Go.Proofs.Qxb6605551a.fnOwnDataKeepsEachEntryAndOwnsItsData
open Go.ChangeShapes Go.WideShapes Go.ChangeAt Go.RowKit
open Go.ChangeMaps (open_string shut_string)

theorem own : ownKnob Try.prog.godebug = none := by kernel_rfl
theorem laidOut : laidOutB Try.prog = true := by kernel_rfl

set_option maxRecDepth 100000 in
theorem lifted (os : Os) (started : os.Started) (H : Type) (enc : TypeId × Value → H) :
    ReturnsInHanded {} Try.checked os 6 .any (Rows.fnOwnDataKeepsEachEntryAndOwnsItsDataSpec.pre6 enc Try.prog Try.f6 Rows.fnOwnDataKeepsEachEntryAndOwnsItsDataRow.domain false) (Rows.fnOwnDataKeepsEachEntryAndOwnsItsDataSpec.post enc Try.prog Try.f6 false true false false) := by
  refine returnsInHanded_of_change (C := Try.checked) own started (by kernel_rfl) Try.func6
    (ChangeSpec.witness6 (enc := enc) (C := Try.checked) false ⟨#[], #[.slice none 0 0, .slice none 0 0, .slice none 0 0, .slice none 0 0, .slice none 0 0], []⟩ 8 (by kernel_rfl) (by kernel_rfl) (by kernel_rfl) (by kernel_rfl)) ?_
  intro W base args ds gs before hval0 hW hcnd _
  have hval : ∀ (j : Nat) t v, Try.f6.params[j]? = some t → args[j]? = some v → Value.okWide Try.prog W .any base t v := hval0
  have hW' := hW
  obtain ⟨p, q, hA0, hV, rfl, hfz, hnd⟩ := hW
  have hA : DataW.TrodAll enc Try.prog W 0 (fun _ => true) true Try.f6.params.toList args.toList ds p := hA0
  rw [Try.params6] at hA hval
  obtain ⟨v0, vs0, d0, ds0, p0, q0, hargs, rfl, rfl, h0, r0⟩ := trodAll_cons hA
  obtain ⟨v1, vs1, d1, ds1, p1, q1, rfl, rfl, rfl, h1, r1⟩ := trodAll_cons r0
  obtain ⟨v2, vs2, d2, ds2, p2, q2, rfl, rfl, rfl, h2, r2⟩ := trodAll_cons r1
  obtain ⟨v3, vs3, d3, ds3, p3, q3, rfl, rfl, rfl, h3, r3⟩ := trodAll_cons r2
  obtain ⟨v4, vs4, d4, ds4, p4, q4, rfl, rfl, rfl, h4, r4⟩ := trodAll_cons r3
  obtain ⟨rfl, rfl, rfl⟩ := trodAll_nil r4
  obtain rfl : args = #[v0, v1, v2, v3, v4] := by cases args; simp_all
  obtain ⟨rfl, rfl⟩ := trodVars_none hV
  obtain ⟨a0, len0, cap0, rfl⟩ := okWide_slice Try.underlying22 (hval 0 22 v0 rfl rfl)
  have k0 := h0
  have lt0 : ∀ x ∈ p0, x.block < W.heap.size := by obtain ⟨m, hm⟩ := k0; exact DataW.trod_lt m _ _ _ hm
  obtain ⟨a1, len1, cap1, rfl⟩ := okWide_slice Try.underlying22 (hval 1 22 v1 rfl rfl)
  have k1 := h1
  have lt1 : ∀ x ∈ p1, x.block < W.heap.size := by obtain ⟨m, hm⟩ := k1; exact DataW.trod_lt m _ _ _ hm
  obtain ⟨a2, len2, cap2, rfl⟩ := okWide_slice Try.underlying38 (hval 2 38 v2 rfl rfl)
  have k2 := h2
  have lt2 : ∀ x ∈ p2, x.block < W.heap.size := by obtain ⟨m, hm⟩ := k2; exact DataW.trod_lt m _ _ _ hm
  obtain ⟨a3, len3, cap3, rfl⟩ := okWide_slice Try.underlying30 (hval 3 30 v3 rfl rfl)
  have k3 := h3
  have lt3 : ∀ x ∈ p3, x.block < W.heap.size := by obtain ⟨m, hm⟩ := k3; exact DataW.trod_lt m _ _ _ hm
  obtain ⟨a4, len4, cap4, rfl⟩ := okWide_slice Try.underlying39 (hval 4 39 v4 rfl rfl)
  have k4 := h4
  have lt4 : ∀ x ∈ p4, x.block < W.heap.size := by obtain ⟨m, hm⟩ := k4; exact DataW.trod_lt m _ _ _ hm
  obtain ⟨f0, hf0⟩ := h0
  obtain ⟨a0', len0', cap0', b0, o0, O, e0, A0, N0, V0, S0⟩ := openI64 (by simpa [Value.cells] using hf0)
  obtain ⟨rfl, rfl, rfl⟩ : a0' = a0 ∧ len0' = len0 ∧ cap0' = cap0 := by cases e0; exact ⟨rfl, rfl, rfl⟩
  obtain ⟨f1, hf1⟩ := h1
  obtain ⟨a1', len1', cap1', b1, o1, D, e1, A1, N1, V1, S1⟩ := openI64 (by simpa [Value.cells] using hf1)
  obtain ⟨rfl, rfl, rfl⟩ : a1' = a1 ∧ len1' = len1 ∧ cap1' = cap1 := by cases e1; exact ⟨rfl, rfl, rfl⟩
  obtain ⟨f2, hf2⟩ := h2
  obtain ⟨a2', len2', cap2', b2, o2, S, e2, A2, N2, V2, S2⟩ := openU64 (by simpa [Value.cells] using hf2)
  obtain ⟨rfl, rfl, rfl⟩ : a2' = a2 ∧ len2' = len2 ∧ cap2' = cap2 := by cases e2; exact ⟨rfl, rfl, rfl⟩
  obtain ⟨f3, hf3⟩ := h3
  obtain ⟨a3', len3', cap3', b3, o3, T, e3, A3, N3, V3, S3⟩ := openU8 (by simpa [Value.cells] using hf3)
  obtain ⟨rfl, rfl, rfl⟩ : a3' = a3 ∧ len3' = len3 ∧ cap3' = cap3 := by cases e3; exact ⟨rfl, rfl, rfl⟩
  obtain ⟨f4, hf4⟩ := h4
  obtain ⟨b4, o4, c, rfl, A4, N4, V4, S4, P4⟩ := openDD (by simpa [Value.cells] using hf4)
  clear hA0 hval0
  refine (law W _ b0 o0 _ _ O _ b1 o1 _ _ D _ b2 o2 _ _ S _ b3 o3 _ _ T _ b4 o4 _ c ⟨A0, N0, V0, S0, A1, N1, V1, S1, A2, N2, V2, S2, A3, N3, V3, S3, A4, N4, V4, S4, P4⟩).mono fun e W' ⟨he, bel⟩ => ?_
  subst he
  exact ⟨_, rfl, _, _, _, [], _, [], hW', trodAll_mk1 (shut_bool Try.underlying4 _), (trodAll_cons_mk (Below.trod laidOut (by kernel_rfl) (of_decide_eq_true (by kernel_rfl)) k0 bel lt0) (trodAll_cons_mk (Below.trod laidOut (by kernel_rfl) (of_decide_eq_true (by kernel_rfl)) k1 bel lt1) (trodAll_cons_mk (Below.trod laidOut (by kernel_rfl) (of_decide_eq_true (by kernel_rfl)) k2 bel lt2) (trodAll_cons_mk (Below.trod laidOut (by kernel_rfl) (of_decide_eq_true (by kernel_rfl)) k3 bel lt3) (trodAll_cons_mk (Below.trod laidOut (by kernel_rfl) (of_decide_eq_true (by kernel_rfl)) k4 bel lt4) trodAll_mk0))))), rfl, bel.frame _, fun h => by cases h⟩

theorem over : Rows.fnOwnDataKeepsEachEntryAndOwnsItsDataRow.holds Try.pinned (OpenSpec.ofChange Rows.fnOwnDataKeepsEachEntryAndOwnsItsDataSpec) :=
  OpenClaim.holds_of_wide 6 Try.f6 rfl rfl rfl rfl rfl rfl rfl ⟨rfl, rfl, rfl, rfl, rfl⟩ rfl rfl rfl rfl rfl (by kernel_rfl) Try.func6 (by kernel_rfl)
    (of_decide_eq_true (by kernel_rfl)) (by unfold Func.isWrapper; first | (rw [if_pos (by decide +kernel)]; kernel_rfl) | (rw [if_neg (by decide +kernel)]; exact ⟨rfl, rfl⟩))
    (fun os started H enc _ => lifted os started H enc)

/-- THE STATEMENT. -/
theorem proved : Rows.FnOwnDataKeepsEachEntryAndOwnsItsDataSaid := over
end Go.Proofs.Qxb6605551a.fnOwnDataKeepsEachEntryAndOwnsItsData
