/-
  WHAT keepRoles LEAVES, in plain words: the kept ones in their order; and the memory that its appends work on.
-/
import Derived.Test.Qxb6605479aPairs
import Derived.Test.Qxb6605479aGrowMem
namespace Go.Proofs.Qxb6605479a
open Go.RowKit

/-- How many of the first k are kept. -/
def cnt (p : Nat → Bool) : Nat → Nat
  | 0 => 0
  | k + 1 => cnt p k + (if p k = true then 1 else 0)
/-- What the kept ones among the first k bring, one behind the other. -/
def pick (p : Nat → Bool) (f : Nat → List Value) : Nat → List Value
  | 0 => []
  | k + 1 => pick p f k ++ (if p k = true then f k else [])

theorem cnt_pos {p : Nat → Bool} {k : Nat} (h : p k = true) : cnt p (k + 1) = cnt p k + 1 := by show cnt p k + _ = _; rw [if_pos h]
theorem cnt_neg {p : Nat → Bool} {k : Nat} (h : p k = false) : cnt p (k + 1) = cnt p k := by show cnt p k + _ = _; rw [if_neg (by rw [h]; decide)]; rfl
theorem pick_pos {p : Nat → Bool} {f : Nat → List Value} {k : Nat} (h : p k = true) : pick p f (k + 1) = pick p f k ++ f k := by show pick p f k ++ _ = _; rw [if_pos h]
theorem pick_neg {p : Nat → Bool} {f : Nat → List Value} {k : Nat} (h : p k = false) : pick p f (k + 1) = pick p f k := by show pick p f k ++ _ = _; rw [if_neg (by rw [h]; decide), List.append_nil]
theorem cnt_mono (p : Nat → Bool) {a b : Nat} (h : a ≤ b) : cnt p a ≤ cnt p b := by
  induction b with
  | zero => obtain rfl : a = 0 := by omega
            exact Nat.le_refl _
  | succ b ih =>
    by_cases e : a = b + 1
    · subst e; exact Nat.le_refl _
    · have := ih (by omega)
      show _ ≤ cnt p b + _
      omega
theorem cnt_le (p : Nat → Bool) : ∀ k, cnt p k ≤ k
  | 0 => Nat.le_refl _
  | k + 1 => by
    have := cnt_le p k
    show cnt p k + _ ≤ _
    split <;> omega
theorem cnt_lt {p : Nat → Bool} {i n : Nat} (hi : i < n) (h : p i = true) : cnt p i < cnt p n := by
  have := cnt_mono p (a := i + 1) (b := n) (by omega)
  rw [cnt_pos h] at this
  omega
theorem cnt_inj {p : Nat → Bool} {i j : Nat} (hi : p i = true) (hj : p j = true) (h : cnt p i = cnt p j) : i = j := by
  rcases Nat.lt_trichotomy i j with h1 | h1 | h1
  · have := cnt_lt h1 hi; omega
  · exact h1
  · have := cnt_lt h1 hj; omega
/-- Every place below the count is some kept one's. -/
theorem cnt_onto (p : Nat → Bool) : ∀ n k, k < cnt p n → ∃ i, i < n ∧ p i = true ∧ cnt p i = k
  | 0, k, h => by simp [cnt] at h
  | n + 1, k, h => by
    cases e : p n with
    | true =>
      rw [cnt_pos e] at h
      by_cases e2 : k = cnt p n
      · exact ⟨n, by omega, e, e2.symm⟩
      · obtain ⟨i, h1, h2, h3⟩ := cnt_onto p n k (by omega)
        exact ⟨i, by omega, h2, h3⟩
    | false =>
      rw [cnt_neg e] at h
      obtain ⟨i, h1, h2, h3⟩ := cnt_onto p n k h
      exact ⟨i, by omega, h2, h3⟩

theorem pick_length {p : Nat → Bool} {f : Nat → List Value} {s : Nat} : ∀ k, (∀ i, i < k → (f i).length = s) → (pick p f k).length = cnt p k * s
  | 0, _ => by simp [pick, cnt]
  | k + 1, hs => by
    have ih := pick_length (p := p) k (fun i hi => hs i (by omega))
    cases e : p k with
    | true => rw [pick_pos e, cnt_pos e, List.length_append, ih, hs k (by omega), Nat.add_mul, Nat.one_mul]
    | false => rw [pick_neg e, cnt_neg e, ih]
theorem pick_get {p : Nat → Bool} {f : Nat → List Value} {s : Nat} {i q : Nat} (hp : p i = true) (hq : q < s) : ∀ k, (∀ i, i < k → (f i).length = s) → i < k → (pick p f k)[cnt p i * s + q]? = (f i)[q]?
  | 0, _, h => by omega
  | k + 1, hs, h => by
    have hl := pick_length (p := p) (f := f) k (fun i hi => hs i (by omega))
    by_cases e : i = k
    · subst e
      rw [pick_pos hp, List.getElem?_append_right (by omega), hl]
      have : cnt p i * s + q - cnt p i * s = q := by omega
      rw [this]
    · have hlt := cnt_lt (n := k) (by omega) hp
      have hb : cnt p i * s + q < (pick p f k).length := by
        rw [hl]
        have : (cnt p i + 1) * s ≤ cnt p k * s := Nat.mul_le_mul_right _ hlt
        rw [Nat.add_mul, Nat.one_mul] at this
        omega
      have ih := pick_get (p := p) (f := f) hp hq k (fun i hi => hs i (by omega)) (by omega)
      cases ek : p k with
      | true => rw [pick_pos ek, List.getElem?_append_left hb]; exact ih
      | false => rw [pick_neg ek]; exact ih

/-- Every block of w but those that P names is as it was. -/
structure Kept (P : Nat → Prop) (w w' : World) : Prop where
  os : w'.os = w.os
  tape : w'.tape = w.tape
  output : w'.output = w.output
  size : w.heap.size ≤ w'.heap.size
  block : ∀ b, b < w.heap.size → ¬ P b → w'.heap[b]? = w.heap[b]?

theorem Kept.refl (P : Nat → Prop) (w : World) : Kept P w w := ⟨rfl, rfl, rfl, Nat.le_refl _, fun _ _ _ => rfl⟩
theorem Kept.drew {P : Nat → Prop} {w w' : World} (h : Kept P w w') : Kept P w w'.drew := ⟨h.os, h.tape, h.output, h.size, h.block⟩
theorem Kept.setCell {P : Nat → Prop} {w w' : World} (h : Kept P w w') {a : Addr} (ha : w.heap.size ≤ a.block ∨ P a.block) (v : Value) : Kept P w (w'.setCell a v) :=
  ⟨h.os, h.tape, h.output, by simpa [World.setCell] using h.size, fun b hb hn => (Below.heap_setCell _ _ _ _ (fun e => by
    rcases ha with ha | ha
    · omega
    · exact hn (by rw [e]; exact ha))).trans (h.block b hb hn)⟩
theorem Kept.alloc {P : Nat → Prop} {w w' : World} (h : Kept P w w') (o : Obj) : Kept P w (w'.alloc o) :=
  ⟨h.os, h.tape, h.output, by have := h.size; simp; omega, fun b hb hn => (Below.heap_alloc _ _ _ (Nat.lt_of_lt_of_le hb h.size)).trans (h.block b hb hn)⟩
theorem Kept.grown {P : Nat → Prop} {w w' w2 : World} (h : Kept P w w') {row : Option Nat} (hg : w'.grownBy w2 row) (hr : ∀ k, row = some k → w.heap.size ≤ k) : Kept P w w2 :=
  ⟨hg.os.trans h.os, hg.tape.trans h.tape, hg.output.trans h.output, Nat.le_trans h.size hg.size, fun b hb hn => (hg.block b (Nat.lt_of_lt_of_le hb h.size) (fun e => by have := hr b e.symm; omega)).trans (h.block b hb hn)⟩
theorem Kept.below {P : Nat → Prop} {w w' : World} (h : Kept P w w') {B : Nat} (hB : B ≤ w.heap.size) (hP : ∀ b, b < B → ¬ P b) : Below B w w' :=
  ⟨h.os, h.tape, h.output, h.size, fun b hb => h.block b (by omega) (hP b hb)⟩
theorem Kept.cell {P : Nat → Prop} {w w' : World} (h : Kept P w w') {a : Addr} {v : Value} (hc : w.cell? a = some v) (hP : ¬ P a.block) : w'.cell? a = some v :=
  (World.cell?_of_block (h.block a.block (World.block_lt_of_cell? w _ hc) hP)).trans hc
theorem Kept.row {P : Nat → Prop} {w w' : World} (h : Kept P w w') {b t n : Nat} {f : Nat → Value} (hr : w.rowIs b t n f) (hP : ¬ P b) : w'.rowIs b t n f := hr.of_block (h.block b hr.lt hP)
theorem Kept.owns {P : Nat → Prop} {w w' : World} (h : Kept P w w') {base e s n : Nat} {v : Value} {xs : List Value} (hr : w.ownsRow base e s v n xs) (hP : ∀ g, v.ownBlock = some g → ¬ P g) : w'.ownsRow base e s v n xs :=
  ownsRow_of_block hr (fun g hg => h.block g (hr.lt g hg).2 (hP g hg))

/-- A FIELD THAT IS APPENDED TO: field j of the box, block B; w1 the world in which its phase began; P: what the phase may write. -/
structure Ph (P : Nat → Prop) (w1 wr : World) (B j : Nat) (bf : Nat → Value) (e s : Nat) (v : Value) (m : Nat) (xs : List Value) : Prop where
  box : wr.rowIs B 62 6 (fun i => if i = j then v else bf i)
  own : wr.ownsRow w1.heap.size e s v m xs
  kept : Kept P w1 wr
  nl : m = 0 → v = .slice none 0 0
  lt : B < w1.heap.size
  may : P B

section
variable {P : Nat → Prop} {w1 wr w2 : World} {B j e s m : Nat} {bf : Nat → Value} {v : Value} {xs news : List Value}
theorem Ph.start (hb : w1.rowIs B 62 6 bf) (hj : bf j = .slice none 0 0) (hP : P B) : Ph P w1 w1 B j bf e s (.slice none 0 0) 0 [] :=
  ⟨hb.congr (fun i _ => by by_cases h : i = j <;> simp [h, hj]), World.ownsRow_nil _ _ _ _, Kept.refl _ _, fun _ => rfl, hb.lt, hP⟩
theorem Ph.alloc (h : Ph P w1 wr B j bf e s v m xs) (o : Obj) : Ph P w1 (wr.alloc o) B j bf e s v m xs := ⟨h.box.alloc o, h.own.alloc o, h.kept.alloc o, h.nl, h.lt, h.may⟩
theorem Ph.drew (h : Ph P w1 wr B j bf e s v m xs) : Ph P w1 wr.drew B j bf e s v m xs := ⟨h.box.drew, h.own.drew, h.kept.drew, h.nl, h.lt, h.may⟩
/-- A store into a block that is neither the box nor the row. -/
theorem Ph.set (h : Ph P w1 wr B j bf e s v m xs) {a : Addr} (hB : B ≠ a.block) (ho : v.ownBlock ≠ some a.block) (hk : w1.heap.size ≤ a.block ∨ P a.block) (x : Value) : Ph P w1 (wr.setCell a x) B j bf e s v m xs :=
  ⟨h.box.setOther hB x, ownsRow_of_block h.own (fun g hg => Below.heap_setCell _ _ _ _ (fun e => ho (by rw [hg, e]))), h.kept.setCell hk x, h.nl, h.lt, h.may⟩
/-- One element more. -/
theorem Ph.push (h : Ph P w1 wr B j bf e s v m xs) {g cap : Nat} (hown : w2.ownsRow w1.heap.size e s (.slice (some ⟨g, 0, none⟩) (m + 1) cap) (m + 1) (xs ++ news)) (hgrow : wr.grownBy w2 v.ownBlock) (hg : w1.heap.size ≤ g) :
    Ph P w1 (w2.setCell ⟨B, j, none⟩ (.slice (some ⟨g, 0, none⟩) (m + 1) cap)) B j bf e s (.slice (some ⟨g, 0, none⟩) (m + 1) cap) (m + 1) (xs ++ news) := by
  have hlt := h.lt
  have hv : v.ownBlock ≠ some B := fun e => by have := (h.own.lt B e).1; omega
  have hb2 := h.box.of_block (hgrow.block B h.box.lt (fun e => hv e.symm))
  refine ⟨(hb2.set j _).congr (fun i _ => ?_), ownsRow_of_block hown (fun k hk => Below.heap_setCell _ _ _ _ (fun e => ?_)), (h.kept.grown hgrow (fun k hk => (h.own.lt k hk).1)).setCell (.inr h.may) _, fun h0 => by omega, h.lt, h.may⟩
  · by_cases e : i = j <;> simp [e]
  · have hk' : g = k := by simpa [Value.ownBlock] using hk
    have e' : k = B := e
    omega
theorem Ph.le (h : Ph P w1 wr B j bf e s v m xs) {H g : Nat} (hat : v.ownBlock = some g ∨ g = H) (hH : w1.heap.size ≤ H) : w1.heap.size ≤ g := by
  rcases hat with e | e
  · exact (h.own.lt g e).1
  · omega
end

/-- What is appended to, as the law reads it. -/
theorem own_view {w : World} {base e s n : Nat} {v : Value} {xs : List Value} (h : w.ownsRow base e s v n xs) (hnl : n = 0 → v = .slice none 0 0) :
    ∃ a g cap, v = .slice a n cap ∧ (0 < n → a = some ⟨g, 0, none⟩) ∧ (a.isNone = decide (n = 0)) ∧ (0 < n → base ≤ g) ∧ ∀ i u, xs[i]? = some u → w.cell? ⟨g, i, none⟩ = some u := by
  have hx := h.1
  rcases h.2 with ⟨h1, h2⟩ | ⟨g, cap, cur, h1, h2, h3, h4, h5, h6, h7⟩
  · subst h2
    exact ⟨none, 0, 0, h1, fun h => by omega, rfl, fun h => by omega, fun i u hu => by rw [List.eq_nil_of_length_eq_zero (l := xs) (by simpa using hx)] at hu; simp at hu⟩
  · have hn : n ≠ 0 := fun h0 => by rw [hnl h0] at h1; cases h1
    refine ⟨_, g, cap, h1, fun _ => rfl, by simp [hn], fun _ => h2, fun i u hu => ?_⟩
    have hi : i < xs.length := (List.getElem?_eq_some_iff.1 hu).1
    rw [← h7, List.getElem?_take] at hu
    split at hu
    · have : w.cell? ⟨g, i, none⟩ = cur[i]? := by simp [World.cell?, h3]
      rw [this]
      simpa using hu
    · cases hu
end Go.Proofs.Qxb6605479a
