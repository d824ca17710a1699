/-
  RULES IN MEMORY OF THE CALL's OWN: what make lays; rows of rules and of literals, filled one by one.
-/
import Derived.Test.Qxb6605479aClones
namespace Go.Proofs.Qxb6605479a
open Go.RowKit

theorem Try.info37 : (Try.prog.info? 37).map (fun i => (i.zero, i.size, i.bytes)) = some (some (.agg #[.int .i64 0, .slice none 0 0, .int .i64 0]), 3, 40) := by kernel_rfl
theorem Try.info48 : (Try.prog.info? 48).map (fun i => (i.zero, i.size, i.bytes)) = some (some (.agg #[.int .i64 0, .bool false]), 2, 16) := by kernel_rfl
theorem Try.info72 : (Try.prog.info? 72).map (fun i => (i.zero, i.size, i.bytes)) = some (some (.agg #[.int .i64 0, .slice none 0 0, .int .i64 0]), 3, 40) := by kernel_rfl
theorem Try.info73 : (Try.prog.info? 73).map (fun i => (i.zero, i.size, i.bytes)) = some (some (.agg #[.int .i64 0, .bool false]), 2, 16) := by kernel_rfl
theorem Try.info3 : (Try.prog.info? 3).map (fun i => (i.zero, i.size, i.bytes)) = some (some (.int .i64 0), 1, 8) := by kernel_rfl
theorem Try.info64 : (Try.prog.info? 64).map (fun i => (i.zero, i.size, i.bytes)) = some (some (.slice none 0 0), 1, 24) := by kernel_rfl

/-- The cells that make lays for n cells out of a zero value. -/
def zrow (z : Value) (n : Nat) : Array Value := madeCells z.cells n
theorem zrow_size (z : Value) (n : Nat) : (zrow z n).size = n := size_madeCells _ _
def zRule : Value := .agg #[.int .i64 0, .slice none 0 0, .int .i64 0]
def zLit : Value := .agg #[.int .i64 0, .bool false]

theorem mk_any (t e size bytes : Nat) (z : Value) (ht : Try.prog.underlying t = some (.slice e)) (hinfo : (Try.prog.info? e).map (fun i => (i.zero, i.size, i.bytes)) = some (some z, size, bytes)) (n : Nat) (hb : (bytes : Int) * n ≤ 281474976710656) (hn : (n : Int) ≤ 9223372036854775807) (w : World) :
    (Instr.makeSlice t (.int .i64 (n : Int)) (.int .i64 (n : Int))).run Try.prog w = .ok (.slice (some ⟨w.heap.size, 0, none⟩) n n) (w.alloc (.cells (zrow z (n * size)) e)) := by
  obtain ⟨i, hi, hz0, hz1, hz2⟩ := info_parts hinfo
  have h := run_make (P := Try.prog) w t e i _ ht hi hz0 .i64 .i64 n n (by omega) (Int.le_refl _) (by rw [hz2]; exact hb) hn
  rw [hz1, Int.toNat_natCast] at h
  exact h

theorem row_made (w : World) (z : Value) (n : Nat) (t : TypeId) : ∃ f, (w.alloc (.cells (zrow z n) t)).rowIs w.heap.size t n f := by
  refine ⟨fun i => (zrow z n)[i]?.getD default, ?_⟩
  have h := World.rowIs_alloc w (zrow z n) t (fun i => (zrow z n)[i]?.getD default) (fun i hi => by simp [hi])
  rw [zrow_size] at h
  exact h

/-- A row of m literals, the first j told. -/
def LitsIs (w : World) (b lt m : Nat) (lr : Nat → Int) (ln : Nat → Bool) (j : Nat) : Prop :=
  ∃ g, w.rowIs b lt (m * 2) g ∧ ∀ t, t < j → g (t * 2) = .int .i64 (lr t) ∧ g (t * 2 + 1) = .bool (ln t)

/-- A row of n rules, the first k told. -/
def RulesIs (w : World) (b t n : Nat) (c : CA) (k : Nat) : Prop :=
  ∃ f, w.rowIs b t (n * 3) f ∧ ∀ i, i < k → f (i * 3) = .int .i64 (c.ad i) ∧ f (i * 3 + 1) = .slice (c.pa i) (c.pl i) (c.pc i) ∧ f (i * 3 + 2) = .int .i64 (c.ro i)

theorem LitsIs.of_block {w w' : World} {b lt m : Nat} {lr : Nat → Int} {ln : Nat → Bool} {j : Nat} (h : LitsIs w b lt m lr ln j) (e : w'.heap[b]? = w.heap[b]?) : LitsIs w' b lt m lr ln j := by
  obtain ⟨g, hg, ht⟩ := h
  exact ⟨g, hg.of_block e, ht⟩
theorem RulesIs.of_block {w w' : World} {b t n : Nat} {c : CA} {k : Nat} (h : RulesIs w b t n c k) (e : w'.heap[b]? = w.heap[b]?) : RulesIs w' b t n c k := by
  obtain ⟨f, hf, ht⟩ := h
  exact ⟨f, hf.of_block e, ht⟩
theorem LitsIs.lt {w : World} {b lt m : Nat} {lr : Nat → Int} {ln : Nat → Bool} {j : Nat} (h : LitsIs w b lt m lr ln j) : b < w.heap.size := by
  obtain ⟨g, hg, _⟩ := h
  exact hg.lt
theorem RulesIs.lt {w : World} {b t n : Nat} {c : CA} {k : Nat} (h : RulesIs w b t n c k) : b < w.heap.size := by
  obtain ⟨f, hf, _⟩ := h
  exact hf.lt

/-- One literal more. -/
theorem LitsIs.put {w : World} {b lt m : Nat} {lr : Nat → Int} {ln : Nat → Bool} {j : Nat} (h : LitsIs w b lt m lr ln j) (x : Int) (y : Bool) (hx : x = lr j) (hy : y = ln j) :
    LitsIs ((w.setCell ⟨b, j * 2, none⟩ (.int .i64 x)).setCell ⟨b, j * 2 + 1, none⟩ (.bool y)) b lt m lr ln (j + 1) := by
  obtain ⟨g, hg, ht⟩ := h
  subst hx hy
  refine ⟨_, (hg.set _ _).set _ _, fun t h => ?_⟩
  by_cases e : t = j
  · subst e
    simp
  · have h1 : t * 2 ≠ j * 2 := by omega
    have h2 : t * 2 ≠ j * 2 + 1 := by omega
    have h3 : t * 2 + 1 ≠ j * 2 := by omega
    have h4 : t * 2 + 1 ≠ j * 2 + 1 := by omega
    simp only [h1, h2, h3, h4, if_false]
    exact ht t (by omega)

/-- One rule more. -/
theorem RulesIs.put {w : World} {b t n : Nat} {c : CA} {k : Nat} (h : RulesIs w b t n c k) (x : Int) (p : Value) (y : Int) (hx : x = c.ad k) (hp : p = .slice (c.pa k) (c.pl k) (c.pc k)) (hy : y = c.ro k) :
    RulesIs (((w.setCell ⟨b, k * 3, none⟩ (.int .i64 x)).setCell ⟨b, k * 3 + 1, none⟩ p).setCell ⟨b, k * 3 + 2, none⟩ (.int .i64 y)) b t n c (k + 1) := by
  obtain ⟨f, hf, ht⟩ := h
  subst hx hp hy
  refine ⟨_, ((hf.set _ _).set _ _).set _ _, fun i h => ?_⟩
  by_cases e : i = k
  · subst e
    simp
  · have h1 : i * 3 ≠ k * 3 := by omega
    have h2 : i * 3 ≠ k * 3 + 1 := by omega
    have h3 : i * 3 ≠ k * 3 + 2 := by omega
    have h4 : i * 3 + 1 ≠ k * 3 := by omega
    have h5 : i * 3 + 1 ≠ k * 3 + 1 := by omega
    have h6 : i * 3 + 1 ≠ k * 3 + 2 := by omega
    have h7 : i * 3 + 2 ≠ k * 3 := by omega
    have h8 : i * 3 + 2 ≠ k * 3 + 1 := by omega
    have h9 : i * 3 + 2 ≠ k * 3 + 2 := by omega
    simp only [h1, h2, h3, h4, h5, h6, h7, h8, h9, if_false]
    exact ht i (by omega)

/-- How many of the first k preconditions are not nil. -/
def cntTo (f : Nat → Option Addr) : Nat → Nat
  | 0 => 0
  | k + 1 => cntTo f k + (if (f k).isNone = true then 0 else 1)

theorem cntTo_mono (f : Nat → Option Addr) {a b : Nat} (h : a ≤ b) : cntTo f a ≤ cntTo f b := by
  induction b with
  | zero => obtain rfl : a = 0 := by omega
            exact Nat.le_refl _
  | succ b ih =>
    by_cases e : a = b + 1
    · subst e; exact Nat.le_refl _
    · have := ih (by omega)
      show _ ≤ cntTo f b + _
      omega

/-- The rules c copied to memory from block B on: the rules' own row first, then a row for each precondition that is not nil. -/
def CA.moved (c : CA) (B : Nat) : CA :=
  { c with
    pa := fun i => if (c.pa i).isNone = true then none else some ⟨B + 1 + cntTo c.pa i, 0, none⟩
    pc := fun i => if (c.pa i).isNone = true then 0 else c.pl i
    pb := fun i => B + 1 + cntTo c.pa i
    po := fun _ => 0 }

theorem moved_nil (c : CA) (B k : Nat) (hn : (c.pa k).isNone = true) : (c.moved B).pa k = none ∧ (c.moved B).pc k = 0 := by
  unfold CA.moved
  exact ⟨if_pos hn, if_pos hn⟩
theorem moved_some (c : CA) (B k : Nat) (hn : (c.pa k).isNone = false) : (c.moved B).pa k = some ⟨B + 1 + cntTo c.pa k, 0, none⟩ ∧ (c.moved B).pc k = c.pl k := by
  unfold CA.moved
  have h : ¬ (c.pa k).isNone = true := by rw [hn]; decide
  exact ⟨if_neg h, if_neg h⟩
theorem cntTo_nil (f : Nat → Option Addr) (k : Nat) (hn : (f k).isNone = true) : cntTo f (k + 1) = cntTo f k := by
  show cntTo f k + _ = _
  rw [if_pos hn]; rfl
theorem cntTo_some (f : Nat → Option Addr) (k : Nat) (hn : (f k).isNone = false) : cntTo f (k + 1) = cntTo f k + 1 := by
  show cntTo f k + _ = _
  rw [if_neg (by rw [hn]; decide)]

/-- The copy, as far as k rules. -/
structure Copied (w w' : World) (t lt : Nat) (c : CA) (k : Nat) : Prop where
  rules : RulesIs w' w.heap.size t c.n (c.moved w.heap.size) k
  lits : ∀ i, i < k → (c.pa i).isNone = false → LitsIs w' (w.heap.size + 1 + cntTo c.pa i) lt (c.pl i) (c.lr i) (c.ln i) (c.pl i)
  size : w'.heap.size = w.heap.size + 1 + cntTo c.pa k
  below : Below w.heap.size w w'

theorem Copied.start (w : World) (t lt : Nat) (c : CA) (z : Value) : Copied w (w.alloc (.cells (zrow z (c.n * 3)) t)) t lt c 0 := by
  refine ⟨?_, fun i hi => by omega, by simp [cntTo], (Below.refl _ _).alloc (Nat.le_refl _) _⟩
  obtain ⟨f, hf⟩ := row_made w z (c.n * 3) t
  exact ⟨f, hf, fun i hi => by omega⟩

theorem Copied.drew {w w' : World} {t lt : Nat} {c : CA} {k : Nat} (h : Copied w w' t lt c k) : Copied w w'.drew t lt c k :=
  ⟨h.rules.of_block rfl, fun i hi hn => (h.lits i hi hn).of_block rfl, h.size, h.below.drew⟩

/-- A precondition that is nil. -/
theorem Copied.putNil {w w' : World} {t lt : Nat} {c : CA} {k : Nat} (h : Copied w w' t lt c k) (hn : (c.pa k).isNone = true) (hl : c.pl k = 0) :
    Copied w (((w'.setCell ⟨w.heap.size, k * 3, none⟩ (.int .i64 (c.ad k))).setCell ⟨w.heap.size, k * 3 + 1, none⟩ (.slice none 0 0)).setCell ⟨w.heap.size, k * 3 + 2, none⟩ (.int .i64 (c.ro k))) t lt c (k + 1) := by
  refine ⟨h.rules.put _ _ _ rfl (by rw [(moved_nil c _ k hn).1, (moved_nil c _ k hn).2, show (c.moved w.heap.size).pl k = 0 from hl]) rfl, fun i hi hi' => ?_, ?_, ((h.below.setCell (Nat.le_refl _) _).setCell (Nat.le_refl _) _).setCell (Nat.le_refl _) _⟩
  · have e : i ≠ k := by intro e; subst e; rw [hn] at hi'; cases hi'
    refine (h.lits i (by omega) hi').of_block ?_
    rw [Below.heap_setCell _ _ _ _ (by show _ ≠ w.heap.size; omega), Below.heap_setCell _ _ _ _ (by show _ ≠ w.heap.size; omega), Below.heap_setCell _ _ _ _ (by show _ ≠ w.heap.size; omega)]
  · have := h.size
    rw [cntTo_nil _ _ hn]
    simpa [World.setCell] using this

/-- WHILE A PRECONDITION's LITERALS ARE COPIED. -/
structure Copying (w w' : World) (t lt : Nat) (c : CA) (k j : Nat) : Prop where
  rules : RulesIs w' w.heap.size t c.n (c.moved w.heap.size) k
  lits : ∀ i, i < k → (c.pa i).isNone = false → LitsIs w' (w.heap.size + 1 + cntTo c.pa i) lt (c.pl i) (c.lr i) (c.ln i) (c.pl i)
  now : LitsIs w' (w.heap.size + 1 + cntTo c.pa k) lt (c.pl k) (c.lr k) (c.ln k) j
  size : w'.heap.size = w.heap.size + 1 + cntTo c.pa k + 1
  below : Below w.heap.size w w'

theorem Copied.begin {w w' : World} {t lt : Nat} {c : CA} {k : Nat} (h : Copied w w' t lt c k) (z : Value) : Copying w (w'.alloc (.cells (zrow z (c.pl k * 2)) lt)) t lt c k 0 := by
  have hs := h.size
  refine ⟨h.rules.of_block (Below.heap_alloc _ _ _ h.rules.lt), fun i hi hn => (h.lits i hi hn).of_block (Below.heap_alloc _ _ _ (h.lits i hi hn).lt), ?_, by simp [hs], h.below.alloc (by omega) _⟩
  obtain ⟨g, hg⟩ := row_made w' z (c.pl k * 2) lt
  rw [hs] at hg
  exact ⟨g, hg, fun i hi => by omega⟩

theorem Copying.drew {w w' : World} {t lt : Nat} {c : CA} {k j : Nat} (h : Copying w w' t lt c k j) : Copying w w'.drew t lt c k j :=
  ⟨h.rules.of_block rfl, fun i hi hn => (h.lits i hi hn).of_block rfl, h.now.of_block rfl, h.size, h.below.drew⟩

theorem Copying.put {w w' : World} {t lt : Nat} {c : CA} {k j : Nat} (h : Copying w w' t lt c k j) :
    Copying w ((w'.setCell ⟨w.heap.size + 1 + cntTo c.pa k, j * 2, none⟩ (.int .i64 (c.lr k j))).setCell ⟨w.heap.size + 1 + cntTo c.pa k, j * 2 + 1, none⟩ (.bool (c.ln k j))) t lt c k (j + 1) := by
  have other : ∀ b, b ≠ w.heap.size + 1 + cntTo c.pa k → ((w'.setCell ⟨w.heap.size + 1 + cntTo c.pa k, j * 2, none⟩ (.int .i64 (c.lr k j))).setCell ⟨w.heap.size + 1 + cntTo c.pa k, j * 2 + 1, none⟩ (.bool (c.ln k j))).heap[b]? = w'.heap[b]? := fun b hb => by
    rw [Below.heap_setCell _ _ _ _ hb, Below.heap_setCell _ _ _ _ hb]
  refine ⟨h.rules.of_block (other _ (by omega)), fun i hi hn => (h.lits i hi hn).of_block (other _ ?_), h.now.put _ _ rfl rfl, by simpa [World.setCell] using h.size, (h.below.setCell (by show _ ≤ w.heap.size + 1 + cntTo c.pa k; omega) _).setCell (by show _ ≤ w.heap.size + 1 + cntTo c.pa k; omega) _⟩
  have h1 : cntTo c.pa (i + 1) ≤ cntTo c.pa k := cntTo_mono _ (by omega)
  have h2 := cntTo_some c.pa i hn
  omega

/-- The rule behind its literals. -/
theorem Copying.finish {w w' : World} {t lt : Nat} {c : CA} {k : Nat} (h : Copying w w' t lt c k (c.pl k)) (hk : (c.pa k).isNone = false) :
    Copied w (((w'.setCell ⟨w.heap.size, k * 3, none⟩ (.int .i64 (c.ad k))).setCell ⟨w.heap.size, k * 3 + 1, none⟩ (.slice (some ⟨w.heap.size + 1 + cntTo c.pa k, 0, none⟩) (c.pl k) (c.pl k))).setCell ⟨w.heap.size, k * 3 + 2, none⟩ (.int .i64 (c.ro k))) t lt c (k + 1) := by
  have other : ∀ b, b ≠ w.heap.size → (((w'.setCell ⟨w.heap.size, k * 3, none⟩ (.int .i64 (c.ad k))).setCell ⟨w.heap.size, k * 3 + 1, none⟩ (.slice (some ⟨w.heap.size + 1 + cntTo c.pa k, 0, none⟩) (c.pl k) (c.pl k))).setCell ⟨w.heap.size, k * 3 + 2, none⟩ (.int .i64 (c.ro k))).heap[b]? = w'.heap[b]? := fun b hb => by
    rw [Below.heap_setCell _ _ _ _ hb, Below.heap_setCell _ _ _ _ hb, Below.heap_setCell _ _ _ _ hb]
  refine ⟨h.rules.put _ _ _ rfl (by rw [(moved_some c _ k hk).1, (moved_some c _ k hk).2]; rfl) rfl, fun i hi hn => ?_, ?_, ((h.below.setCell (Nat.le_refl _) _).setCell (Nat.le_refl _) _).setCell (Nat.le_refl _) _⟩
  · by_cases e : i = k
    · subst e
      exact h.now.of_block (other _ (by omega))
    · exact (h.lits i (by omega) hn).of_block (other _ (by omega))
  · have := h.size
    rw [cntTo_some _ _ hk, ← Nat.add_assoc]
    simpa [World.setCell] using this

/-- THE COPY WHOLE, as the walks ask it. -/
theorem Copied.view {w w' : World} {t lt : Nat} {c : CA} (h : Copied w w' t lt c c.n) (hl : ∀ i, i < c.n → c.pa i = none → c.pl i = 0) : CAv w' w.heap.size 0 (c.moved w.heap.size) := by
  obtain ⟨f, hf, ht⟩ := h.rules
  have hnn : ∀ i, i < c.n → 0 < c.pl i → (c.pa i).isNone = false := fun i hi hp => by
    cases e : c.pa i with
    | none => have := hl i hi e; omega
    | some a => rfl
  refine ⟨fun i hi => ?_, fun i hi => ?_, fun i hi => ?_, fun i hi hp => ?_, fun i hi hp => ?_, fun i hi j hj => ?_, fun i hi j hj => ?_⟩
  · have hi' : i < c.n := hi
    rw [Nat.zero_add, hf.cell (by omega), (ht i hi').1]
  · have hi' : i < c.n := hi
    rw [Nat.zero_add, hf.cell (by omega), (ht i hi').2.1]
  · have hi' : i < c.n := hi
    rw [Nat.zero_add, hf.cell (by omega), (ht i hi').2.2]
  · exact (moved_some c _ i (hnn i hi hp)).1
  · cases e : (c.pa i).isNone with
    | true =>
      have e' : c.pa i = none := by simpa using e
      exact ⟨hl i hi e', (moved_nil c _ i e).2⟩
    | false => rw [(moved_some c _ i e).1] at hp; cases hp
  · have hj' : j < c.pl i := hj
    obtain ⟨g, hg, hgt⟩ := h.lits i hi (hnn i hi (by omega))
    have := hg.cell (i := j * 2) (by omega)
    rw [(hgt j hj').1] at this
    simpa [CA.moved] using this
  · have hj' : j < c.pl i := hj
    obtain ⟨g, hg, hgt⟩ := h.lits i hi (hnn i hi (by omega))
    have := hg.cell (i := j * 2 + 1) (by omega)
    rw [(hgt j hj').2] at this
    simpa [CA.moved] using this
end Go.Proofs.Qxb6605479a
