/-
  HOW THE ARGUMENTS ARE READ: a slice of bools, a slice of can-assign rules, as the walks ask them.
-/
import Derived.Test.Qxb6605479aViews
import Derived.ProofKit
import Derived.Deep.Slices
import Derived.Deep.SlicePairs
import Derived.Deep.Strs
namespace Go.Proofs.Qxb6605479a
open Go.ChangeShapes Go.WideShapes Go.ChangeAt Go.RowKit Go.Deep

theorem cells3 : Try.prog.cellsOf 3 = 1 := by kernel_rfl
theorem cells4 : Try.prog.cellsOf 4 = 1 := by kernel_rfl
theorem cells35 : Try.prog.cellsOf 35 = 1 := by kernel_rfl
theorem cells37 : Try.prog.cellsOf 37 = 3 := by kernel_rfl
theorem cells48 : Try.prog.cellsOf 48 = 2 := by kernel_rfl

section
variable {H : Type} {enc : TypeId × Value → H} {w : World} {base : Nat} {spare : Nat → Bool} {held : Bool}

theorem addr_plain {a : Addr} {v : Value} (h : w.cell? a = some v) : a = ⟨a.block, a.off, none⟩ := by
  obtain ⟨b, off, spot⟩ := a
  have : spot = none := World.cell?_spot h
  subst this
  rfl

theorem spot_of_add {a : Addr} {i : Nat} {v : Value} (hi : i = 0) (h : w.cell? (a.add i) = some v) : a = ⟨a.block, a.off, none⟩ := by
  subst hi
  have e : a.add 0 = a := by unfold Addr.add; simp
  rw [e] at h
  exact addr_plain h

/-- A slice of bools. -/
theorem openBools {a : Option Addr} {len cap fuel : Nat} {x : DataW H × List MemPlace} (h : DataW.trod enc Try.prog w base spare held fuel 23 [.slice a len cap] = some x) :
    ∃ b o B, (0 < len → a = some ⟨b, o, none⟩) ∧ (a = none → len = 0 ∧ cap = 0) ∧ Bv w b o len B ∧ len ≤ maxLen := by
  rcases open_slice1 Try.underlying23 cells4 h with ⟨h0, _⟩ | ⟨ad, len', cap', m, n, V, D, Pl, h0, _, hl, hm, hmm, _, hx⟩
  · simp only [List.cons.injEq, Value.slice.injEq, and_true] at h0
    obtain ⟨rfl, rfl, rfl⟩ := h0
    exact ⟨0, 0, fun _ => false, fun h => by omega, fun _ => ⟨rfl, rfl⟩, fun i hi => by omega, Nat.zero_le _⟩
  · simp only [List.cons.injEq, Value.slice.injEq, and_true] at h0
    obtain ⟨rfl, rfl, rfl⟩ := h0
    have hlm : len ≤ m := by rw [hmm]; split <;> omega
    obtain ⟨B, hB⟩ := choose_lt (α := Bool) (n := len) (p := fun i b => w.cell? (ad.add i) = some (.bool b)) (fun i hi => by
      obtain ⟨h1, h2⟩ := hx i (by omega)
      obtain ⟨b, hb, _⟩ := DataW.trod_bool Try.underlying4 h2
      refine ⟨b, ?_⟩
      rw [h1]
      simp at hb
      rw [hb])
    refine ⟨ad.block, ad.off, B, fun hp => ?_, (fun h => by cases h), fun i hi => ?_, by omega⟩
    · have := hB 0 hp
      rw [spot_of_add rfl this]
    · have := hB i hi
      rw [spot_of_add rfl (hB 0 (by omega)), add_plain] at this
      exact this

/-- A slice of literals. -/
theorem openLits {v : Value} {fuel : Nat} {x : DataW H × List MemPlace} (h : DataW.trod enc Try.prog w base spare held fuel 35 [v] = some x) :
    ∃ (pa : Option Addr) (pl pc pb po : Nat) (lr : Nat → Int) (ln : Nat → Bool), v = .slice pa pl pc ∧ (0 < pl → pa = some ⟨pb, po, none⟩) ∧ (pa = none → pl = 0 ∧ pc = 0) ∧ pl ≤ maxLen ∧
      ∀ j, j < pl → w.cell? ⟨pb, po + j * 2, none⟩ = some (.int .i64 (lr j)) ∧ w.cell? ⟨pb, po + j * 2 + 1, none⟩ = some (.bool (ln j)) := by
  rcases open_slice_pairs Try.underlying35 Try.underlying48 cells48 rfl rfl cells3 cells4 h with ⟨h0, _⟩ | ⟨ad, len, cap, m, n, V0, V1, D0, D1, P0, P1, h0, _, hl, hm, hmm, _, hx⟩
  · simp only [List.cons.injEq, and_true] at h0
    subst h0
    exact ⟨none, 0, 0, 0, 0, fun _ => 0, fun _ => false, rfl, fun h => by omega, fun _ => ⟨rfl, rfl⟩, Nat.zero_le _, fun j hj => by omega⟩
  · simp only [List.cons.injEq, and_true] at h0
    subst h0
    have hlm : len ≤ m := by rw [hmm]; split <;> omega
    obtain ⟨q, hq⟩ := choose_lt (α := Int × Bool) (n := len) (p := fun j q => w.cell? (ad.add (j * 2)) = some (.int .i64 q.1) ∧ w.cell? (ad.add (j * 2 + 1)) = some (.bool q.2)) (fun j hj => by
      obtain ⟨h1, h2, h3, h4⟩ := hx j (by omega)
      obtain ⟨z, hz, _⟩ := DataW.trod_int Try.underlying3 h3
      obtain ⟨b, hb, _⟩ := DataW.trod_bool Try.underlying4 h4
      simp only [List.cons.injEq, and_true] at hz hb
      exact ⟨(z, b), by rw [h1, hz], by rw [h2, hb]⟩)
    refine ⟨some ad, len, cap, ad.block, ad.off, fun j => (q j).1, fun j => (q j).2, rfl, fun hp => ?_, (fun h => by cases h), by omega, fun j hj => ?_⟩
    · have := (hq 0 hp).1
      rw [spot_of_add rfl this]
    · obtain ⟨h1, h2⟩ := hq j hj
      have e := spot_of_add rfl (hq 0 (by omega)).1
      rw [e, add_plain] at h1 h2
      exact ⟨h1, by rw [Nat.add_assoc]; exact h2⟩

/-- A slice of can-assign rules. -/
theorem openCA {a : Option Addr} {len cap fuel : Nat} {x : DataW H × List MemPlace} (h : DataW.trod enc Try.prog w base spare held fuel 22 [.slice a len cap] = some x) :
    ∃ b o c, len = c.n ∧ (0 < c.n → a = some ⟨b, o, none⟩) ∧ (a = none → c.n = 0 ∧ cap = 0) ∧ CAv w b o c ∧ c.n ≤ maxLen ∧ ∀ i, i < c.n → c.pl i ≤ maxLen := by
  rcases open_slice Try.underlying22 h with ⟨h0, _⟩ | ⟨ad, len', cap', m, n, D, Pl, h0, _, hl, hm, hmm, _, hx⟩
  · simp only [List.cons.injEq, Value.slice.injEq, and_true] at h0
    obtain ⟨rfl, rfl, rfl⟩ := h0
    refine ⟨0, 0, ⟨0, fun _ => 0, fun _ => 0, fun _ => none, fun _ => 0, fun _ => 0, fun _ => 0, fun _ => 0, fun _ _ => 0, fun _ _ => false⟩, rfl, fun h => absurd h (Nat.lt_irrefl 0), fun _ => ⟨rfl, rfl⟩, ?_, Nat.zero_le _, fun i hi => absurd hi (Nat.not_lt_zero i)⟩
    exact ⟨fun i hi => absurd hi (Nat.not_lt_zero i), fun i hi => absurd hi (Nat.not_lt_zero i), fun i hi => absurd hi (Nat.not_lt_zero i), fun i hi => absurd hi (Nat.not_lt_zero i), fun i hi => absurd hi (Nat.not_lt_zero i), fun i hi => absurd hi (Nat.not_lt_zero i), fun i hi => absurd hi (Nat.not_lt_zero i)⟩
  · simp only [List.cons.injEq, Value.slice.injEq, and_true] at h0
    obtain ⟨rfl, rfl, rfl⟩ := h0
    have hlm : len ≤ m := by rw [hmm]; split <;> omega
    have each : ∀ i, i < len → ∃ q : Int × Int × Option Addr × Nat × Nat × Nat × Nat × (Nat → Int) × (Nat → Bool), w.cell? (ad.add (i * 3)) = some (.int .i64 q.1) ∧ w.cell? (ad.add (i * 3 + 1)) = some (.slice q.2.2.1 q.2.2.2.1 q.2.2.2.2.1) ∧ w.cell? (ad.add (i * 3 + 2)) = some (.int .i64 q.2.1) ∧
        (0 < q.2.2.2.1 → q.2.2.1 = some ⟨q.2.2.2.2.2.1, q.2.2.2.2.2.2.1, none⟩) ∧ (q.2.2.1 = none → q.2.2.2.1 = 0 ∧ q.2.2.2.2.1 = 0) ∧ q.2.2.2.1 ≤ maxLen ∧
        ∀ j, j < q.2.2.2.1 → w.cell? ⟨q.2.2.2.2.2.1, q.2.2.2.2.2.2.1 + j * 2, none⟩ = some (.int .i64 (q.2.2.2.2.2.2.2.1 j)) ∧ w.cell? ⟨q.2.2.2.2.2.1, q.2.2.2.2.2.2.1 + j * 2 + 1, none⟩ = some (.bool (q.2.2.2.2.2.2.2.2 j)) := by
      intro i hi
      obtain ⟨cs', h1, h2⟩ := hx i (by omega)
      rw [cells37] at h1
      obtain ⟨_, hlen, hcell⟩ := World.cells?_some h1
      obtain ⟨y0, y1, y2, k, _, _, g0, g1, g2⟩ := trod_struct3 Try.underlying37 h2
      match cs', hlen with
      | [v0, v1, v2], _ =>
        simp only [cells3, cells35, List.drop_zero, List.take_succ_cons, List.take_zero, List.drop_succ_cons] at g0 g1 g2
        obtain ⟨z0, hz0, _⟩ := DataW.trod_int Try.underlying3 g0
        obtain ⟨z2, hz2, _⟩ := DataW.trod_int Try.underlying3 g2
        simp only [List.cons.injEq, and_true] at hz0 hz2
        obtain ⟨pa, pl, pc, pb, po, lr, ln, hv1, hA, hN, hM, hL⟩ := openLits g1
        have e0 := hcell 0 (by omega)
        have e1 := hcell 1 (by omega)
        have e2 := hcell 2 (by omega)
        rw [add_add] at e0 e1 e2
        exact ⟨(z0, z2, pa, pl, pc, pb, po, lr, ln), by simpa [hz0] using e0, by simpa [hv1] using e1, by simpa [hz2] using e2, hA, hN, hM, hL⟩
    obtain ⟨q, hq⟩ := choose_lt each
    refine ⟨ad.block, ad.off, ⟨len, fun i => (q i).1, fun i => (q i).2.1, fun i => (q i).2.2.1, fun i => (q i).2.2.2.1, fun i => (q i).2.2.2.2.1, fun i => (q i).2.2.2.2.2.1, fun i => (q i).2.2.2.2.2.2.1, fun i => (q i).2.2.2.2.2.2.2.1, fun i => (q i).2.2.2.2.2.2.2.2⟩, rfl, fun hp => ?_, (fun h => by cases h), ?_, by show len ≤ maxLen; omega, fun i hi => (hq i hi).2.2.2.2.2.1⟩
    · have := (hq 0 hp).1
      rw [spot_of_add rfl this]
    · have pl : ∀ i k v, i < len → w.cell? (ad.add (i * 3 + k)) = some v → w.cell? ⟨ad.block, ad.off + i * 3 + k, none⟩ = some v := fun i k v hi hv => by
        rw [spot_of_add rfl (hq 0 (by omega)).1, add_plain] at hv
        rw [Nat.add_assoc]
        exact hv
      exact ⟨fun i hi => pl i 0 _ hi (hq i hi).1, fun i hi => pl i 1 _ hi (hq i hi).2.1, fun i hi => pl i 2 _ hi (hq i hi).2.2.1, fun i hi => (hq i hi).2.2.2.1, fun i hi => (hq i hi).2.2.2.2.1, fun i hi j hj => ((hq i hi).2.2.2.2.2.2 j hj).1, fun i hi j hj => ((hq i hi).2.2.2.2.2.2 j hj).2⟩
end
end Go.Proofs.Qxb6605479a
