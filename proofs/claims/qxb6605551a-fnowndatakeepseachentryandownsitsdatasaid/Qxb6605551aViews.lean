/-
  HOW THE LAW SEES MEMORY: slices of numbers, a slice of slices of bytes, told by index; what the copies leave.
-/
import Derived.Test.Qxb6605551aRows
import Derived.WalkKit
import Derived.WalkSpells
import Derived.WalkLawsBesides
import Derived.Deep.QuietTactic
import Derived.BigQuiet
import Derived.Deep.OwnRows
import Derived.Deep.LoopGhost
import Derived.Deep.DrawnRows
import Derived.BigRegion
namespace Go.Proofs.Qxb6605551a
open Go.RowKit

/-- A fact kept from the walk, by its own statement. -/
theorem hid {p : Prop} (h : p) : Hid p := h

theorem Try.info2 : (Try.prog.info? 2).map (fun i => (i.zero, i.size, i.bytes)) = some (some (.int .i64 0), 1, 8) := by kernel_rfl
theorem Try.info28 : (Try.prog.info? 28).map (fun i => (i.zero, i.size, i.bytes)) = some (some (.int .u64 0), 1, 8) := by kernel_rfl
theorem Try.info5 : (Try.prog.info? 5).map (fun i => (i.zero, i.size, i.bytes)) = some (some (.int .u8 0), 1, 1) := by kernel_rfl
theorem Try.info30 : (Try.prog.info? 30).map (fun i => (i.zero, i.size, i.bytes)) = some (some (.slice none 0 0), 1, 24) := by kernel_rfl
theorem Try.info55 : (Try.prog.info? 55).map (fun i => (i.zero, i.size, i.bytes)) = some (some (.agg #[.int .i64 0, .int .i64 0, .int .u64 0, .int .u8 0, .slice none 0 0]), 5, 56) := by kernel_rfl

/-- The numbers F 0, .., F (n - 1) of kind k lie in w from cell o of block b on. -/
def Iv (w : World) (k : IntKind) (b o n : Nat) (F : Nat → Int) : Prop := ∀ i, i < n → w.cell? ⟨b, o + i, none⟩ = some (.int k (F i))

theorem cell_below {w w' : World} (h : Below w.heap.size w w') {a : Addr} {v : Value} (hc : w.cell? a = some v) : w'.cell? a = some v :=
  (World.cell?_of_block (h.block a.block (World.block_lt_of_cell? w a hc))).trans hc

theorem Iv.below {w w' : World} {k : IntKind} {b o n : Nat} {F : Nat → Int} (h : Iv w k b o n F) (hb : Below w.heap.size w w') : Iv w' k b o n F := fun i hi => cell_below hb (h i hi)

theorem row_below {w w' : World} {b t n : Nat} {f : Nat → Value} (h : w.rowIs b t n f) (hb : Below w.heap.size w w') : w'.rowIs b t n f := h.of_block (hb.block b h.lt)

/-- Slices of bytes, told by index. -/
structure DD where
  n : Nat
  da : Nat → Option Addr
  dl : Nat → Nat
  dc : Nat → Nat
  db : Nat → Nat
  off : Nat → Nat
  dv : Nat → Nat → Int

/-- They lie in w, their heads from cell o of block b on. -/
structure DDv (w : World) (b o : Nat) (c : DD) : Prop where
  head : ∀ i, i < c.n → w.cell? ⟨b, o + i, none⟩ = some (.slice (c.da i) (c.dl i) (c.dc i))
  at_ : ∀ i, i < c.n → 0 < c.dl i → c.da i = some ⟨c.db i, c.off i, none⟩
  nil : ∀ i, i < c.n → c.da i = none → c.dl i = 0 ∧ c.dc i = 0
  val : ∀ i, i < c.n → Iv w .u8 (c.db i) (c.off i) (c.dl i) (c.dv i)

theorem DDv.below {w w' : World} {b o : Nat} {c : DD} (h : DDv w b o c) (hb : Below w.heap.size w w') : DDv w' b o c :=
  ⟨fun i hi => cell_below hb (h.head i hi), h.at_, h.nil, fun i hi => (h.val i hi).below hb⟩

/-- The sum of the first k lengths. -/
def sumTo (f : Nat → Nat) : Nat → Nat
  | 0 => 0
  | k + 1 => sumTo f k + f k

theorem sumTo_mono (f : Nat → Nat) {a b : Nat} (h : a ≤ b) : sumTo f a ≤ sumTo f b := by
  induction b with
  | zero => obtain rfl : a = 0 := by omega
            exact Nat.le_refl _
  | succ b ih =>
    by_cases e : a = b + 1
    · subst e; exact Nat.le_refl _
    · have := ih (by omega)
      show _ ≤ sumTo f b + f b
      omega

theorem le_sumTo (f : Nat → Nat) {i n : Nat} (h : i < n) : sumTo f i + f i ≤ sumTo f n := sumTo_mono f (a := i + 1) (by omega)

/-- How many of the first k are not nil. -/
def cntTo (f : Nat → Option Addr) : Nat → Nat
  | 0 => 0
  | k + 1 => cntTo f k + (if (f k).isNone = true then 0 else 1)

theorem cntTo_mono (f : Nat → Option Addr) {a b : Nat} (h : a ≤ b) : cntTo f a ≤ cntTo f b := by
  induction b with
  | zero => obtain rfl : a = 0 := by omega
            exact Nat.le_refl _
  | succ b ih =>
    by_cases e : a = b + 1
    · subst e; exact Nat.le_refl _
    · have := ih (by omega)
      show _ ≤ cntTo f b + _
      omega
theorem cntTo_nil (f : Nat → Option Addr) (k : Nat) (hn : (f k).isNone = true) : cntTo f (k + 1) = cntTo f k := by
  show cntTo f k + _ = _
  rw [if_pos hn]; rfl
theorem cntTo_some (f : Nat → Option Addr) (k : Nat) (hn : (f k).isNone = false) : cntTo f (k + 1) = cntTo f k + 1 := by
  show cntTo f k + _ = _
  rw [if_neg (by rw [hn]; decide)]

/-- The cells that make lays for n cells out of a zero value. -/
def zrow (z : Value) (n : Nat) : Array Value := madeCells z.cells n
theorem zrow_size (z : Value) (n : Nat) : (zrow z n).size = n := size_madeCells _ _

theorem mk_any (t e size bytes : Nat) (z : Value) (ht : Try.prog.underlying t = some (.slice e)) (hinfo : (Try.prog.info? e).map (fun i => (i.zero, i.size, i.bytes)) = some (some z, size, bytes)) (m n : Nat) (hmn : m ≤ n) (hb : (bytes : Int) * n ≤ 281474976710656) (hn : (n : Int) ≤ 9223372036854775807) (w : World) :
    (Instr.makeSlice t (.int .i64 (m : Int)) (.int .i64 (n : Int))).run Try.prog w = .ok (.slice (some ⟨w.heap.size, 0, none⟩) m n) (w.alloc (.cells (zrow z (n * size)) e)) := by
  obtain ⟨i, hi, hz0, hz1, hz2⟩ := info_parts hinfo
  have h := run_make (P := Try.prog) w t e i _ ht hi hz0 .i64 .i64 m n (by omega) (by omega) (by rw [hz2]; exact hb) hn
  rw [hz1, Int.toNat_natCast, Int.toNat_natCast] at h
  exact h

theorem row_made (w : World) (z : Value) (n : Nat) (t : TypeId) : ∃ f, (w.alloc (.cells (zrow z n) t)).rowIs w.heap.size t n f := by
  refine ⟨fun i => (zrow z n)[i]?.getD default, ?_⟩
  have h := World.rowIs_alloc w (zrow z n) t (fun i => (zrow z n)[i]?.getD default) (fun i hi => by simp [hi])
  rw [zrow_size] at h
  exact h

/-- A row of n cells, the first k told. -/
def RowTo (w : World) (b t n : Nat) (F : Nat → Value) (k : Nat) : Prop := ∃ f, w.rowIs b t n f ∧ ∀ i, i < k → f i = F i

theorem RowTo.of_block {w w' : World} {b t n : Nat} {F : Nat → Value} {k : Nat} (h : RowTo w b t n F k) (e : w'.heap[b]? = w.heap[b]?) : RowTo w' b t n F k := by
  obtain ⟨f, hf, ht⟩ := h
  exact ⟨f, hf.of_block e, ht⟩
theorem RowTo.lt {w : World} {b t n : Nat} {F : Nat → Value} {k : Nat} (h : RowTo w b t n F k) : b < w.heap.size := by
  obtain ⟨f, hf, _⟩ := h
  exact hf.lt
theorem RowTo.put {w : World} {b t n : Nat} {F : Nat → Value} {k : Nat} (h : RowTo w b t n F k) (v : Value) (hv : v = F k) : RowTo (w.setCell ⟨b, k, none⟩ v) b t n F (k + 1) := by
  obtain ⟨f, hf, ht⟩ := h
  refine ⟨_, hf.set _ _, fun i hi => ?_⟩
  by_cases e : i = k
  · subst e; simpa using hv
  · simp only [e, if_false]
    exact ht i (by omega)
theorem RowTo.full {w : World} {b t n : Nat} {F : Nat → Value} (h : RowTo w b t n F n) : w.rowIs b t n F := by
  obtain ⟨f, hf, ht⟩ := h
  exact hf.congr ht
theorem RowTo.made (w : World) (z : Value) (n t : Nat) (F : Nat → Value) : RowTo (w.alloc (.cells (zrow z n) t)) w.heap.size t n F 0 := by
  obtain ⟨f, hf⟩ := row_made w z n t
  exact ⟨f, hf, fun i hi => by omega⟩

/-- What a copy of numbers hands back. -/
def SaysI (w w' : World) (t : Nat) (k : IntKind) (a : Option Addr) (n : Nat) (F : Nat → Int) (e : Ending) : Prop :=
  (a = none ∧ w = w' ∧ e = .returned (.slice none 0 0)) ∨ (a ≠ none ∧ e = .returned (.slice (some ⟨w.heap.size, 0, none⟩) n n) ∧ w'.rowIs w.heap.size t n (fun i => .int k (F i)) ∧ w'.heap.size = w.heap.size + 1 ∧ Below w.heap.size w w')

/-- The copy, as the walks ask it. -/
theorem SaysI.view {w w' : World} {t : Nat} {k : IntKind} {a : Option Addr} {n : Nat} {F : Nat → Int} {e : Ending} (h : SaysI w w' t k a n F e) (hnil : a = none → n = 0) :
    ∃ a' cap', e = .returned (.slice a' n cap') ∧ (a'.isNone = a.isNone) ∧ (0 < n → a' = some ⟨w.heap.size, 0, none⟩) ∧ (a' = none → n = 0 ∧ cap' = 0) ∧ Iv w' k w.heap.size 0 n F ∧ Below w.heap.size w w' := by
  rcases h with ⟨h1, h2, h3⟩ | ⟨h1, h2, h3, _, h4⟩
  · obtain rfl := hnil h1
    subst h2
    exact ⟨none, 0, h3, by rw [h1], fun h => by omega, fun _ => ⟨rfl, rfl⟩, fun i hi => by omega, Below.refl _ _⟩
  · refine ⟨_, n, h2, ?_, fun _ => rfl, (fun h => by cases h), fun i hi => ?_, h4⟩
    · cases a with
      | none => exact absurd rfl h1
      | some _ => rfl
    · rw [Nat.zero_add, h3.cell hi]
end Go.Proofs.Qxb6605551a
