/-
  THE FUNCTIONS THAT COPY: zzCloneBools, zzCloneCA, zzToCA, zzRevCA: what they hand back lies in memory of its own.
-/
import Derived.Test.Qxb6605479aReads
import Derived.Deep.OwnRows
import Derived.Deep.LoopGhost
import Derived.BigRegion
import Derived.Deep.RegionHeld3
namespace Go.Proofs.Qxb6605479a
open Go.RowKit

theorem Try.info4 : (Try.prog.info? 4).map (fun i => (i.zero, i.size, i.bytes)) = some (some (.bool false), 1, 1) := by kernel_rfl

/-- A slice of bools in memory of the call's own, from block B0 on; nil where it is said so. -/
def OwnB (B0 : Nat) (w : World) (nl : Bool) (n : Nat) (B : Nat → Bool) (v : Value) : Prop :=
  ∃ a b cap, v = .slice a n cap ∧ a.isNone = nl ∧ (a = none → n = 0 ∧ cap = 0) ∧ (a ≠ none → a = some ⟨b, 0, none⟩ ∧ B0 ≤ b ∧ w.rowIs b 4 n (fun i => .bool (B i)))

theorem OwnB.of_nil {B0 : Nat} {w : World} {B : Nat → Bool} : OwnB B0 w true 0 B (.slice none 0 0) :=
  ⟨none, 0, 0, rfl, rfl, fun _ => ⟨rfl, rfl⟩, fun h => absurd rfl h⟩

theorem OwnB.of_row {B0 : Nat} {w : World} {n : Nat} {B : Nat → Bool} {b : Nat} (hb : B0 ≤ b) (hr : w.rowIs b 4 n (fun i => .bool (B i))) : OwnB B0 w false n B (.slice (some ⟨b, 0, none⟩) n n) :=
  ⟨_, b, n, rfl, rfl, (fun e => by cases e), fun _ => ⟨rfl, hb, hr⟩⟩

theorem row_below {w w' : World} {b t n : Nat} {f : Nat → Value} (h : w.rowIs b t n f) (hb : Below w.heap.size w w') : w'.rowIs b t n f := h.of_block (hb.block b h.lt)

theorem OwnB.below {B0 : Nat} {w w' : World} {nl : Bool} {n : Nat} {B : Nat → Bool} {v : Value} (h : OwnB B0 w nl n B v) (hb : Below w.heap.size w w') : OwnB B0 w' nl n B v := by
  obtain ⟨a, b, cap, h1, h2, h3, h4⟩ := h
  exact ⟨a, b, cap, h1, h2, h3, fun ha => ⟨(h4 ha).1, (h4 ha).2.1, row_below (h4 ha).2.2 hb⟩⟩

/-- What the copy is for, as the walks ask it. -/
theorem OwnB.view {B0 : Nat} {w : World} {nl : Bool} {n : Nat} {B : Nat → Bool} {v : Value} (h : OwnB B0 w nl n B v) :
    ∃ a b cap, v = .slice a n cap ∧ a.isNone = nl ∧ (0 < n → a = some ⟨b, 0, none⟩) ∧ (a = none → n = 0 ∧ cap = 0) ∧ Bv w b 0 n B ∧ (0 < n → B0 ≤ b) := by
  obtain ⟨a, b, cap, h1, h2, h3, h4⟩ := h
  have hne : 0 < n → a ≠ none := fun hn e => by have := (h3 e).1; omega
  refine ⟨a, b, cap, h1, h2, fun hn => (h4 (hne hn)).1, h3, fun i hi => ?_, fun hn => (h4 (hne hn)).2.1⟩
  have := (h4 (hne (by omega))).2.2.cell hi
  simpa using this

set_option maxHeartbeats 400000 in
theorem cloneBools (w : World) (a : Option Addr) (b o n cap : Nat) (B : Nat → Bool) (hA : 0 < n → a = some ⟨b, o, none⟩) (hnil : a = none → n = 0 ∧ cap = 0) (hv : Bv w b o n B) (hn : n ≤ 65536) :
    Calls Try.prog 13 #[.slice a n cap] w fun e w' => (∃ v, e = .returned v ∧ OwnB w.heap.size w' a.isNone n B v) ∧ Below w.heap.size w w' := by
  have heq : ∀ wx, (binOp .eql 23 (.slice a n cap) (.slice none 0 0)).run Try.prog wx = .ok (.bool a.isNone) wx := fun wx => Lib.run_eql_slice_nil wx 23 4 a n cap 0 0 Try.underlying23
  cases a with
  | none =>
    obtain ⟨rfl, rfl⟩ := hnil rfl
    simp only [Option.isNone_none] at heq
    go_enter Try.func13, Try.ntmps13
    go_wp2
    go_ret
    exact ⟨⟨_, rfl, OwnB.of_nil⟩, Below.refl _ _⟩
  | some ad =>
    simp only [Option.isNone_some] at heq
    have hmk := run_make_row' (P := Try.prog) 23 4 (.bool false) 1 Try.underlying23 Try.info4 rfl .i64 .i64 n (by omega) (by omega)
    have hlt0 : ∀ k, k < n → b < w.heap.size := fun k hk => World.block_lt_of_cell? w _ (hv k hk)
    go_enter Try.func13, Try.ntmps13
    go_wp2
    go_loopw [4] (fun i wr => ∃ k : Nat, k ≤ n ∧ i = .int .i64 k ∧ wr.rowIs w.heap.size 4 n (fun j => if j < k then .bool (B j) else .bool false) ∧ Below w.heap.size w wr) (fun i _ => n - (intOf i).toNat)
    case atStart => exact ⟨0, Nat.zero_le _, rfl, (World.rowIs_made w (.bool false) n 4).congr (fun i _ => by simp), (Below.refl _ _).alloc (Nat.le_refl _) _⟩
    case round =>
      obtain ⟨k, hk, rfl, hrow, hbel⟩ := hrel
      by_cases hlt : k < n
      · cases hA (by omega)
        have c1 := cell_below hbel (hv k hlt)
        have c2 := hrow.cell hlt
        have c3 := hrow.frozen k
        have HR := hid hrow
        have HB := hid hbel
        clear hv hrow hbel hlt0
        simp only [Nat.lt_irrefl, if_false] at c2
        go_wp2
        go_roundw
        case rel =>
          refine ⟨k + 1, by omega, by go_num, (HR.out.set k (.bool (B k))).congr (fun j hj => ?_), HB.out.setCell (Nat.le_refl _) _⟩
          by_cases e : j = k
          · subst e; simp
          · have : (j < k + 1) ↔ (j < k) := by omega
            simp [e, this]
        case measure => simp [intOf]; omega
      · obtain rfl : k = n := by omega
        clear hv
        have HR := hid hrow
        have HB := hid hbel
        clear hrow hbel hlt0
        go_wp2
        go_ret
        exact ⟨⟨_, rfl, OwnB.of_row (Nat.le_refl _) (HR.out.congr (fun j hj => by simp [hj]))⟩, HB.out⟩
end Go.Proofs.Qxb6605479a
