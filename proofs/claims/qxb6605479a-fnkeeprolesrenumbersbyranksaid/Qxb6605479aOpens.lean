/-
  HOW THE ARGUMENTS ARE READ, further: a slice of strings, slices of pairs of integers.
-/
import Derived.Test.Qxb6605479aPairs
import Derived.Test.Qxb6605479aOpen
namespace Go.Proofs.Qxb6605479a
open Go.ChangeShapes Go.WideShapes Go.ChangeAt Go.RowKit Go.Deep

theorem cells9 : Try.prog.cellsOf 9 = 1 := by kernel_rfl
theorem cells67 : Try.prog.cellsOf 67 = 2 := by kernel_rfl
theorem cells50 : Try.prog.cellsOf 50 = 2 := by kernel_rfl

section
variable {H : Type} {enc : TypeId × Value → H} {w : World} {base : Nat} {spare : Nat → Bool} {held : Bool}

/-- A slice of strings. -/
theorem openStrs {a : Option Addr} {len cap fuel : Nat} {x : DataW H × List MemPlace} (h : DataW.trod enc Try.prog w base spare held fuel 51 [.slice a len cap] = some x) :
    ∃ b o S, (0 < len → a = some ⟨b, o, none⟩) ∧ (a = none → len = 0 ∧ cap = 0) ∧ Sv w b o len S ∧ len ≤ maxLen ∧ ∀ i, i < len → (S i).size ≤ maxLen := by
  rcases open_strs Try.underlying51 Try.underlying9 cells9 h with ⟨h0, _⟩ | ⟨ad, len', cap', m, S, h0, _, hl, hm, hmm, _, hx⟩
  · simp only [List.cons.injEq, Value.slice.injEq, and_true] at h0
    obtain ⟨rfl, rfl, rfl⟩ := h0
    exact ⟨0, 0, fun _ => ⟨#[]⟩, fun h => by omega, fun _ => ⟨rfl, rfl⟩, fun i hi => by omega, Nat.zero_le _, fun i hi => by omega⟩
  · simp only [List.cons.injEq, Value.slice.injEq, and_true] at h0
    obtain ⟨rfl, rfl, rfl⟩ := h0
    have hlm : len ≤ m := by rw [hmm]; split <;> omega
    refine ⟨ad.block, ad.off, S, fun hp => ?_, (fun h => by cases h), fun i hi => ?_, by omega, fun i hi => (hx i (by omega)).2⟩
    · rw [spot_of_add rfl (hx 0 (by omega)).1]
    · have := (hx i (by omega)).1
      rw [spot_of_add rfl (hx 0 (by omega)).1, add_plain] at this
      exact this

/-- A slice of user assignments. -/
theorem openUA {a : Option Addr} {len cap fuel : Nat} {x : DataW H × List MemPlace} (h : DataW.trod enc Try.prog w base spare held fuel 52 [.slice a len cap] = some x) :
    ∃ b o X Y, (0 < len → a = some ⟨b, o, none⟩) ∧ (a = none → len = 0 ∧ cap = 0) ∧ Pv w b o len X Y ∧ len ≤ maxLen := by
  rcases open_slice_pairs Try.underlying52 Try.underlying67 cells67 rfl rfl cells3 cells3 h with ⟨h0, _⟩ | ⟨ad, len', cap', m, n, V0, V1, D0, D1, P0, P1, h0, _, hl, hm, hmm, _, hx⟩
  · simp only [List.cons.injEq, Value.slice.injEq, and_true] at h0
    obtain ⟨rfl, rfl, rfl⟩ := h0
    exact ⟨0, 0, fun _ => 0, fun _ => 0, fun h => by omega, fun _ => ⟨rfl, rfl⟩, ⟨fun i hi => by omega, fun i hi => by omega⟩, Nat.zero_le _⟩
  · simp only [List.cons.injEq, Value.slice.injEq, and_true] at h0
    obtain ⟨rfl, rfl, rfl⟩ := h0
    have hlm : len ≤ m := by rw [hmm]; split <;> omega
    obtain ⟨q, hq⟩ := choose_lt (α := Int × Int) (n := len) (p := fun j q => w.cell? (ad.add (j * 2)) = some (.int .i64 q.1) ∧ w.cell? (ad.add (j * 2 + 1)) = some (.int .i64 q.2)) (fun j hj => by
      obtain ⟨h1, h2, h3, h4⟩ := hx j (by omega)
      obtain ⟨z, hz, _⟩ := DataW.trod_int Try.underlying3 h3
      obtain ⟨b, hb, _⟩ := DataW.trod_int Try.underlying3 h4
      simp only [List.cons.injEq, and_true] at hz hb
      exact ⟨(z, b), by rw [h1, hz], by rw [h2, hb]⟩)
    refine ⟨ad.block, ad.off, fun j => (q j).1, fun j => (q j).2, fun hp => ?_, (fun h => by cases h), ⟨fun j hj => ?_, fun j hj => ?_⟩, by omega⟩
    · rw [spot_of_add rfl (hq 0 hp).1]
    · have h1 := (hq j hj).1
      rw [spot_of_add rfl (hq 0 (by omega)).1, add_plain] at h1
      exact h1
    · have h1 := (hq j hj).2
      rw [spot_of_add rfl (hq 0 (by omega)).1, add_plain] at h1
      rw [Nat.add_assoc]
      exact h1

/-- A slice of rules on revoking. -/
theorem openCR {a : Option Addr} {len cap fuel : Nat} {x : DataW H × List MemPlace} (h : DataW.trod enc Try.prog w base spare held fuel 38 [.slice a len cap] = some x) :
    ∃ b o X Y, (0 < len → a = some ⟨b, o, none⟩) ∧ (a = none → len = 0 ∧ cap = 0) ∧ Pv w b o len X Y ∧ len ≤ maxLen := by
  rcases open_slice_pairs Try.underlying38 Try.underlying50 cells50 rfl rfl cells3 cells3 h with ⟨h0, _⟩ | ⟨ad, len', cap', m, n, V0, V1, D0, D1, P0, P1, h0, _, hl, hm, hmm, _, hx⟩
  · simp only [List.cons.injEq, Value.slice.injEq, and_true] at h0
    obtain ⟨rfl, rfl, rfl⟩ := h0
    exact ⟨0, 0, fun _ => 0, fun _ => 0, fun h => by omega, fun _ => ⟨rfl, rfl⟩, ⟨fun i hi => by omega, fun i hi => by omega⟩, Nat.zero_le _⟩
  · simp only [List.cons.injEq, Value.slice.injEq, and_true] at h0
    obtain ⟨rfl, rfl, rfl⟩ := h0
    have hlm : len ≤ m := by rw [hmm]; split <;> omega
    obtain ⟨q, hq⟩ := choose_lt (α := Int × Int) (n := len) (p := fun j q => w.cell? (ad.add (j * 2)) = some (.int .i64 q.1) ∧ w.cell? (ad.add (j * 2 + 1)) = some (.int .i64 q.2)) (fun j hj => by
      obtain ⟨h1, h2, h3, h4⟩ := hx j (by omega)
      obtain ⟨z, hz, _⟩ := DataW.trod_int Try.underlying3 h3
      obtain ⟨b, hb, _⟩ := DataW.trod_int Try.underlying3 h4
      simp only [List.cons.injEq, and_true] at hz hb
      exact ⟨(z, b), by rw [h1, hz], by rw [h2, hb]⟩)
    refine ⟨ad.block, ad.off, fun j => (q j).1, fun j => (q j).2, fun hp => ?_, (fun h => by cases h), ⟨fun j hj => ?_, fun j hj => ?_⟩, by omega⟩
    · rw [spot_of_add rfl (hq 0 hp).1]
    · have h1 := (hq j hj).1
      rw [spot_of_add rfl (hq 0 (by omega)).1, add_plain] at h1
      exact h1
    · have h1 := (hq j hj).2
      rw [spot_of_add rfl (hq 0 (by omega)).1, add_plain] at h1
      rw [Nat.add_assoc]
      exact h1
end
end Go.Proofs.Qxb6605479a
