/-
  WHAT THE LAW WRITES: the spoilt copies, the marks; and what it leaves alone.
-/
import Derived.Test.Qxb6605551aLaid
import Derived.Test.Qxb6605551aReads
namespace Go.Proofs.Qxb6605551a
open Go.RowKit

/-- Every block of w but those that P names is as it was. -/
structure Kept (P : Nat → Prop) (w w' : World) : Prop where
  os : w'.os = w.os
  tape : w'.tape = w.tape
  output : w'.output = w.output
  size : w.heap.size ≤ w'.heap.size
  block : ∀ b, b < w.heap.size → ¬ P b → w'.heap[b]? = w.heap[b]?

theorem Kept.refl (P : Nat → Prop) (w : World) : Kept P w w := ⟨rfl, rfl, rfl, Nat.le_refl _, fun _ _ _ => rfl⟩
theorem Kept.drewN {P : Nat → Prop} {w w' : World} (h : Kept P w w') (m : Nat) : Kept P w (w'.drewN m) := ⟨h.os, h.tape, h.output, h.size, h.block⟩
theorem Kept.setCell {P : Nat → Prop} {w w' : World} (h : Kept P w w') {a : Addr} (ha : P a.block) (v : Value) : Kept P w (w'.setCell a v) :=
  ⟨h.os, h.tape, h.output, by simpa [World.setCell] using h.size, fun b hb hn => (Below.heap_setCell _ _ _ _ (fun e => hn (by rw [e]; exact ha))).trans (h.block b hb hn)⟩
theorem Kept.below {P : Nat → Prop} {w w' : World} (h : Kept P w w') {B : Nat} (hB : B ≤ w.heap.size) (hP : ∀ b, b < B → ¬ P b) : Below B w w' :=
  ⟨h.os, h.tape, h.output, h.size, fun b hb => h.block b (by omega) (hP b hb)⟩
theorem Kept.row {P : Nat → Prop} {w w' : World} (h : Kept P w w') {b t n : Nat} {f : Nat → Value} (hr : w.rowIs b t n f) (hP : ¬ P b) : w'.rowIs b t n f := hr.of_block (h.block b hr.lt hP)
theorem Kept.iv {P : Nat → Prop} {w w' : World} (h : Kept P w w') {k : IntKind} {b o n : Nat} {F : Nat → Int} (hv : Iv w k b o n F) (hP : 0 < n → ¬ P b) : Iv w' k b o n F := fun i hi =>
  (World.cell?_of_block (h.block b (World.block_lt_of_cell? w _ (hv i hi)) (hP (by omega)))).trans (hv i hi)
theorem Kept.cell {P : Nat → Prop} {w w' : World} (h : Kept P w w') {a : Addr} {v : Value} (hc : w.cell? a = some v) (hP : ¬ P a.block) : w'.cell? a = some v :=
  (World.cell?_of_block (h.block a.block (World.block_lt_of_cell? w _ hc) hP)).trans hc
theorem Iv.drewN {w : World} {k : IntKind} {b o n : Nat} {F : Nat → Int} (h : Iv w k b o n F) (m : Nat) : Iv (w.drewN m) k b o n F := h

/-- The rows of a copy's data: bytes, whichever. -/
def SpRows (w : World) (B : Nat) (c : DD) : Prop := ∀ i, i < c.n → (c.da i).isNone = false → ∃ f, w.rowIs (B + 1 + cntTo c.da i) 5 (c.dl i) f ∧ ∀ j, j < c.dl i → ∃ x, f j = .int .u8 x

theorem SpRows.put {w : World} {B : Nat} {c : DD} (h : SpRows w B c) (b j : Nat) (x : Int) : SpRows (w.setCell ⟨b, j, none⟩ (.int .u8 x)) B c := fun i hi hn => by
  obtain ⟨f, hf, hx⟩ := h i hi hn
  by_cases e : B + 1 + cntTo c.da i = b
  · rw [e] at hf ⊢
    refine ⟨_, hf.set _ _, fun j' hj' => ?_⟩
    by_cases e2 : j' = j
    · exact ⟨x, by simp [e2]⟩
    · obtain ⟨y, hy⟩ := hx j' hj'
      exact ⟨y, by simp [e2, hy]⟩
  · exact ⟨f, hf.setOther e _, hx⟩

/-- THE DEEP COPY, as the law asks it. -/
theorem SaysDD.view {w w' : World} {a : Option Addr} {c : DD} {e : Ending} (h : SaysDD w w' a c e) (hnil : a = none → c.n = 0) (hl : ∀ i, i < c.n → c.da i = none → c.dl i = 0) :
    ∃ a' cap', e = .returned (.slice a' c.n cap') ∧ (0 < c.n → a' = some ⟨w.heap.size, 0, none⟩) ∧ (a' = none → c.n = 0 ∧ cap' = 0) ∧ DDv w' w.heap.size 0 (c.moved w.heap.size) ∧ Below w.heap.size w w' ∧ SpRows w' w.heap.size c := by
  rcases h with ⟨h1, h2, h3⟩ | ⟨h1, h2, h3⟩
  · have h0 := hnil h1
    subst h2
    refine ⟨none, 0, by rw [h0]; exact h3, fun h => by omega, fun _ => ⟨h0, rfl⟩, ⟨fun i hi => ?_, fun i hi => ?_, fun i hi => ?_, fun i hi => ?_⟩, Below.refl _ _, fun i hi => by omega⟩
    all_goals exact absurd (show i < c.n from hi) (by omega)
  · exact ⟨_, c.n, h2, fun _ => rfl, (fun h => by cases h), h3.view hl, h3.below, fun i hi hn => ⟨_, h3.data i hi hn, fun j _ => ⟨_, rfl⟩⟩⟩

/-- The marks of a pass, laid on the first k entries and on t bytes of the next. -/
structure Marked (w wr : World) (g : Nat) (c : DD) (p k t : Nat) : Prop where
  row : ∃ f, wr.rowIs g 5 (sumTo c.dl c.n) f ∧ (∀ i, i < k → ∀ j, j < c.dl i → f (sumTo c.dl i + j) = .int .u8 (markOf i p)) ∧ (∀ j, j < t → f (sumTo c.dl k + j) = .int .u8 (markOf k p))
  kept : Kept (fun b => b = g) w wr

theorem Marked.put {w wr : World} {g : Nat} {c : DD} {p k t : Nat} (h : Marked w wr g c p k t) (x : Int) (hx : x = markOf k p) : Marked w (wr.setCell ⟨g, sumTo c.dl k + t, none⟩ (.int .u8 x)) g c p k (t + 1) := by
  obtain ⟨f, h1, h2, h3⟩ := h.row
  refine ⟨⟨_, h1.set _ _, fun i hi j hj => ?_, fun j hj => ?_⟩, h.kept.setCell rfl _⟩
  · have := le_sumTo c.dl hi
    have e : sumTo c.dl i + j ≠ sumTo c.dl k + t := by omega
    simp only [e, if_false]
    exact h2 i hi j hj
  · by_cases e : j = t
    · subst e; simp [hx]
    · have e' : sumTo c.dl k + j ≠ sumTo c.dl k + t := by omega
      simp only [e', if_false]
      exact h3 j (by omega)
theorem Marked.next {w wr : World} {g : Nat} {c : DD} {p k : Nat} (h : Marked w wr g c p k (c.dl k)) : Marked w wr g c p (k + 1) 0 := by
  obtain ⟨f, h1, h2, h3⟩ := h.row
  refine ⟨⟨f, h1, fun i hi j hj => ?_, fun j hj => by omega⟩, h.kept⟩
  by_cases e : i = k
  · subst e; exact h3 j hj
  · exact h2 i (by omega) j hj
theorem Marked.again {w wr : World} {g : Nat} {c : DD} {p k t : Nat} (h : Marked w wr g c p k t) (p' : Nat) : Marked w wr g c p' 0 0 := by
  obtain ⟨f, h1, _, _⟩ := h.row
  exact ⟨⟨f, h1, fun i hi => by omega, fun j hj => by omega⟩, h.kept⟩
end Go.Proofs.Qxb6605551a
