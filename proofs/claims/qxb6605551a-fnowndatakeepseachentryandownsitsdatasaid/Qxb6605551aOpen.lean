/-
  HOW THE ARGUMENTS ARE READ: slices of numbers, a slice of slices of bytes, as the walks ask them.
-/
import Derived.Test.Qxb6605551aViews
import Derived.ProofKit
import Derived.Deep.Slices
import Derived.Deep.SlicePairs
import Derived.Deep.Strs
namespace Go.Proofs.Qxb6605551a
open Go.ChangeShapes Go.WideShapes Go.ChangeAt Go.RowKit Go.Deep

theorem cells2 : Try.prog.cellsOf 2 = 1 := by kernel_rfl
theorem cells28 : Try.prog.cellsOf 28 = 1 := by kernel_rfl
theorem cells5 : Try.prog.cellsOf 5 = 1 := by kernel_rfl
theorem cells30 : Try.prog.cellsOf 30 = 1 := by kernel_rfl

section
variable {H : Type} {enc : TypeId × Value → H} {w : World} {base : Nat} {spare : Nat → Bool} {held : Bool}

theorem addr_plain {a : Addr} {v : Value} (h : w.cell? a = some v) : a = ⟨a.block, a.off, none⟩ := by
  obtain ⟨b, off, spot⟩ := a
  have : spot = none := World.cell?_spot h
  subst this
  rfl

theorem spot_of_add {a : Addr} {i : Nat} {v : Value} (hi : i = 0) (h : w.cell? (a.add i) = some v) : a = ⟨a.block, a.off, none⟩ := by
  subst hi
  have e : a.add 0 = a := by unfold Addr.add; simp
  rw [e] at h
  exact addr_plain h

/-- A slice of numbers. -/
theorem openI64 {v : Value} {fuel : Nat} {x : DataW H × List MemPlace} (h : DataW.trod enc Try.prog w base spare held fuel 22 [v] = some x) :
    ∃ (a : Option Addr) (len cap b o : Nat) (F : Nat → Int), v = .slice a len cap ∧ (0 < len → a = some ⟨b, o, none⟩) ∧ (a = none → len = 0 ∧ cap = 0) ∧ Iv w .i64 b o len F ∧ len ≤ maxLen := by
  rcases open_slice1 Try.underlying22 cells2 h with ⟨h0, _⟩ | ⟨ad, len, cap, m, n, V, D, Pl, h0, _, hl, hm, hmm, _, hx⟩
  · simp only [List.cons.injEq, and_true] at h0
    subst h0
    exact ⟨none, 0, 0, 0, 0, fun _ => 0, rfl, fun h => by omega, fun _ => ⟨rfl, rfl⟩, fun i hi => by omega, Nat.zero_le _⟩
  · simp only [List.cons.injEq, and_true] at h0
    subst h0
    have hlm : len ≤ m := by rw [hmm]; split <;> omega
    obtain ⟨F, hF⟩ := choose_lt (α := Int) (n := len) (p := fun i z => w.cell? (ad.add i) = some (.int .i64 z)) (fun i hi => by
      obtain ⟨h1, h2⟩ := hx i (by omega)
      obtain ⟨z, hz, _⟩ := DataW.trod_int Try.underlying2 h2
      refine ⟨z, ?_⟩
      rw [h1]
      simp only [List.cons.injEq, and_true] at hz
      rw [hz])
    refine ⟨some ad, len, cap, ad.block, ad.off, F, rfl, fun hp => ?_, (fun h => by cases h), fun i hi => ?_, by omega⟩
    · have := hF 0 hp
      rw [spot_of_add rfl this]
    · have := hF i hi
      rw [spot_of_add rfl (hF 0 (by omega)), add_plain] at this
      exact this

/-- A slice of numbers. -/
theorem openU64 {v : Value} {fuel : Nat} {x : DataW H × List MemPlace} (h : DataW.trod enc Try.prog w base spare held fuel 38 [v] = some x) :
    ∃ (a : Option Addr) (len cap b o : Nat) (F : Nat → Int), v = .slice a len cap ∧ (0 < len → a = some ⟨b, o, none⟩) ∧ (a = none → len = 0 ∧ cap = 0) ∧ Iv w .u64 b o len F ∧ len ≤ maxLen := by
  rcases open_slice1 Try.underlying38 cells28 h with ⟨h0, _⟩ | ⟨ad, len, cap, m, n, V, D, Pl, h0, _, hl, hm, hmm, _, hx⟩
  · simp only [List.cons.injEq, and_true] at h0
    subst h0
    exact ⟨none, 0, 0, 0, 0, fun _ => 0, rfl, fun h => by omega, fun _ => ⟨rfl, rfl⟩, fun i hi => by omega, Nat.zero_le _⟩
  · simp only [List.cons.injEq, and_true] at h0
    subst h0
    have hlm : len ≤ m := by rw [hmm]; split <;> omega
    obtain ⟨F, hF⟩ := choose_lt (α := Int) (n := len) (p := fun i z => w.cell? (ad.add i) = some (.int .u64 z)) (fun i hi => by
      obtain ⟨h1, h2⟩ := hx i (by omega)
      obtain ⟨z, hz, _⟩ := DataW.trod_int Try.underlying28 h2
      refine ⟨z, ?_⟩
      rw [h1]
      simp only [List.cons.injEq, and_true] at hz
      rw [hz])
    refine ⟨some ad, len, cap, ad.block, ad.off, F, rfl, fun hp => ?_, (fun h => by cases h), fun i hi => ?_, by omega⟩
    · have := hF 0 hp
      rw [spot_of_add rfl this]
    · have := hF i hi
      rw [spot_of_add rfl (hF 0 (by omega)), add_plain] at this
      exact this

/-- A slice of numbers. -/
theorem openU8 {v : Value} {fuel : Nat} {x : DataW H × List MemPlace} (h : DataW.trod enc Try.prog w base spare held fuel 30 [v] = some x) :
    ∃ (a : Option Addr) (len cap b o : Nat) (F : Nat → Int), v = .slice a len cap ∧ (0 < len → a = some ⟨b, o, none⟩) ∧ (a = none → len = 0 ∧ cap = 0) ∧ Iv w .u8 b o len F ∧ len ≤ maxLen := by
  rcases open_slice1 Try.underlying30 cells5 h with ⟨h0, _⟩ | ⟨ad, len, cap, m, n, V, D, Pl, h0, _, hl, hm, hmm, _, hx⟩
  · simp only [List.cons.injEq, and_true] at h0
    subst h0
    exact ⟨none, 0, 0, 0, 0, fun _ => 0, rfl, fun h => by omega, fun _ => ⟨rfl, rfl⟩, fun i hi => by omega, Nat.zero_le _⟩
  · simp only [List.cons.injEq, and_true] at h0
    subst h0
    have hlm : len ≤ m := by rw [hmm]; split <;> omega
    obtain ⟨F, hF⟩ := choose_lt (α := Int) (n := len) (p := fun i z => w.cell? (ad.add i) = some (.int .u8 z)) (fun i hi => by
      obtain ⟨h1, h2⟩ := hx i (by omega)
      obtain ⟨z, hz, _⟩ := DataW.trod_int Try.underlying5 h2
      refine ⟨z, ?_⟩
      rw [h1]
      simp only [List.cons.injEq, and_true] at hz
      rw [hz])
    refine ⟨some ad, len, cap, ad.block, ad.off, F, rfl, fun hp => ?_, (fun h => by cases h), fun i hi => ?_, by omega⟩
    · have := hF 0 hp
      rw [spot_of_add rfl this]
    · have := hF i hi
      rw [spot_of_add rfl (hF 0 (by omega)), add_plain] at this
      exact this

/-- A slice of slices of bytes. -/
theorem openDD {a : Option Addr} {len cap fuel : Nat} {x : DataW H × List MemPlace} (h : DataW.trod enc Try.prog w base spare held fuel 39 [.slice a len cap] = some x) :
    ∃ b o c, len = c.n ∧ (0 < c.n → a = some ⟨b, o, none⟩) ∧ (a = none → c.n = 0 ∧ cap = 0) ∧ DDv w b o c ∧ c.n ≤ maxLen ∧ ∀ i, i < c.n → c.dl i ≤ maxLen := by
  rcases open_slice1 Try.underlying39 cells30 h with ⟨h0, _⟩ | ⟨ad, len', cap', m, n, V, D, Pl, h0, _, hl, hm, hmm, _, hx⟩
  · simp only [List.cons.injEq, Value.slice.injEq, and_true] at h0
    obtain ⟨rfl, rfl, rfl⟩ := h0
    refine ⟨0, 0, ⟨0, fun _ => none, fun _ => 0, fun _ => 0, fun _ => 0, fun _ => 0, fun _ _ => 0⟩, rfl, fun h => absurd h (Nat.lt_irrefl 0), fun _ => ⟨rfl, rfl⟩, ?_, Nat.zero_le _, fun i hi => absurd hi (Nat.not_lt_zero i)⟩
    exact ⟨fun i hi => absurd hi (Nat.not_lt_zero i), fun i hi => absurd hi (Nat.not_lt_zero i), fun i hi => absurd hi (Nat.not_lt_zero i), fun i hi => absurd hi (Nat.not_lt_zero i)⟩
  · simp only [List.cons.injEq, Value.slice.injEq, and_true] at h0
    obtain ⟨rfl, rfl, rfl⟩ := h0
    have hlm : len ≤ m := by rw [hmm]; split <;> omega
    have each : ∀ i, i < len → ∃ q : Option Addr × Nat × Nat × Nat × Nat × (Nat → Int), w.cell? (ad.add i) = some (.slice q.1 q.2.1 q.2.2.1) ∧ (0 < q.2.1 → q.1 = some ⟨q.2.2.2.1, q.2.2.2.2.1, none⟩) ∧ (q.1 = none → q.2.1 = 0 ∧ q.2.2.1 = 0) ∧ Iv w .u8 q.2.2.2.1 q.2.2.2.2.1 q.2.1 q.2.2.2.2.2 ∧ q.2.1 ≤ maxLen := by
      intro i hi
      obtain ⟨h1, h2⟩ := hx i (by omega)
      obtain ⟨pa, pl, pc, pb, po, F, hv, hA, hN, hI, hM⟩ := openU8 h2
      exact ⟨(pa, pl, pc, pb, po, F), by rw [h1, hv], hA, hN, hI, hM⟩
    obtain ⟨q, hq⟩ := choose_lt each
    refine ⟨ad.block, ad.off, ⟨len, fun i => (q i).1, fun i => (q i).2.1, fun i => (q i).2.2.1, fun i => (q i).2.2.2.1, fun i => (q i).2.2.2.2.1, fun i => (q i).2.2.2.2.2⟩, rfl, fun hp => ?_, (fun h => by cases h), ?_, by show len ≤ maxLen; omega, fun i hi => (hq i hi).2.2.2.2⟩
    · have := (hq 0 hp).1
      rw [spot_of_add rfl this]
    · exact ⟨fun i hi => by
        have hv := (hq i hi).1
        have h0 : 0 < len := Nat.lt_of_le_of_lt (Nat.zero_le _) hi
        rw [spot_of_add rfl (hq 0 h0).1, add_plain] at hv
        exact hv, fun i hi => (hq i hi).2.1, fun i hi => (hq i hi).2.2.1, fun i hi => (hq i hi).2.2.2.1⟩
end
end Go.Proofs.Qxb6605551a
