/-
  HOW THE LAWS SEE MEMORY: a slice of can-assign rules, a slice of bools, told by index.
-/
import Derived.Test.Qxb6605479aRows
import Derived.Test.Qxb6605479aPlain
import Derived.WalkKit
import Derived.WalkSpells
import Derived.WalkLawsBesides
namespace Go.Proofs.Qxb6605479a
open Go.RowKit

/-- A fact kept from the walk, by its own statement. -/
theorem hid {p : Prop} (h : p) : Hid p := h

/-- Can-assign rules, told by index: the fields; each precondition's slice and where it begins; its literals. -/
structure CA where
  n : Nat
  ad : Nat → Int
  ro : Nat → Int
  pa : Nat → Option Addr
  pl : Nat → Nat
  pc : Nat → Nat
  pb : Nat → Nat
  po : Nat → Nat
  lr : Nat → Nat → Int
  ln : Nat → Nat → Bool

/-- The rules c lie in w from cell o of block b on. -/
structure CAv (w : World) (b o : Nat) (c : CA) : Prop where
  ad : ∀ i, i < c.n → w.cell? ⟨b, o + i * 3, none⟩ = some (.int .i64 (c.ad i))
  pre : ∀ i, i < c.n → w.cell? ⟨b, o + i * 3 + 1, none⟩ = some (.slice (c.pa i) (c.pl i) (c.pc i))
  ro : ∀ i, i < c.n → w.cell? ⟨b, o + i * 3 + 2, none⟩ = some (.int .i64 (c.ro i))
  at_ : ∀ i, i < c.n → 0 < c.pl i → c.pa i = some ⟨c.pb i, c.po i, none⟩
  nil : ∀ i, i < c.n → c.pa i = none → c.pl i = 0 ∧ c.pc i = 0
  lr : ∀ i, i < c.n → ∀ j, j < c.pl i → w.cell? ⟨c.pb i, c.po i + j * 2, none⟩ = some (.int .i64 (c.lr i j))
  ln : ∀ i, i < c.n → ∀ j, j < c.pl i → w.cell? ⟨c.pb i, c.po i + j * 2 + 1, none⟩ = some (.bool (c.ln i j))

/-- The bools B 0, .., B (n - 1) lie in w from cell o of block b on. -/
def Bv (w : World) (b o n : Nat) (B : Nat → Bool) : Prop := ∀ i, i < n → w.cell? ⟨b, o + i, none⟩ = some (.bool (B i))

theorem cell_below {w w' : World} (h : Below w.heap.size w w') {a : Addr} {v : Value} (hc : w.cell? a = some v) : w'.cell? a = some v :=
  (World.cell?_of_block (h.block a.block (World.block_lt_of_cell? w a hc))).trans hc

theorem Bv.below {w w' : World} {b o n : Nat} {B : Nat → Bool} (h : Bv w b o n B) (hb : Below w.heap.size w w') : Bv w' b o n B := fun i hi => cell_below hb (h i hi)

theorem CAv.below {w w' : World} {b o : Nat} {c : CA} (h : CAv w b o c) (hb : Below w.heap.size w w') : CAv w' b o c :=
  ⟨fun i hi => cell_below hb (h.ad i hi), fun i hi => cell_below hb (h.pre i hi), fun i hi => cell_below hb (h.ro i hi), h.at_, h.nil, fun i hi j hj => cell_below hb (h.lr i hi j hj), fun i hi j hj => cell_below hb (h.ln i hi j hj)⟩

/-- The sum of the first k lengths. -/
def sumTo (f : Nat → Nat) : Nat → Nat
  | 0 => 0
  | k + 1 => sumTo f k + f k

theorem sumTo_mono (f : Nat → Nat) {a b : Nat} (h : a ≤ b) : sumTo f a ≤ sumTo f b := by
  induction b with
  | zero => obtain rfl : a = 0 := by omega
            exact Nat.le_refl _
  | succ b ih =>
    by_cases e : a = b + 1
    · subst e; exact Nat.le_refl _
    · have := ih (by omega)
      show _ ≤ sumTo f b + f b
      omega
end Go.Proofs.Qxb6605479a
