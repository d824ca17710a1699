/-
  zzCloneBytesDeep: the heads' row first, then a row for each slice that is not nil.
-/
import Derived.Test.Qxb6605551aClones
namespace Go.Proofs.Qxb6605551a
open Go.RowKit

theorem below_of {B : Nat} {w w1 w2 : World} (h : Below B w w1) (hB : B ≤ w1.heap.size) (h2 : Below w1.heap.size w1 w2) : Below B w w2 := h.trans (h2.mono hB)

/-- The slices c copied to memory from block B on. -/
def DD.moved (c : DD) (B : Nat) : DD :=
  { c with
    da := fun i => if (c.da i).isNone = true then none else some ⟨B + 1 + cntTo c.da i, 0, none⟩
    dc := fun i => if (c.da i).isNone = true then 0 else c.dl i
    db := fun i => B + 1 + cntTo c.da i
    off := fun _ => 0 }

theorem moved_nil (c : DD) (B k : Nat) (hn : (c.da k).isNone = true) : (c.moved B).da k = none ∧ (c.moved B).dc k = 0 := by
  unfold DD.moved
  exact ⟨if_pos hn, if_pos hn⟩
theorem moved_some (c : DD) (B k : Nat) (hn : (c.da k).isNone = false) : (c.moved B).da k = some ⟨B + 1 + cntTo c.da k, 0, none⟩ ∧ (c.moved B).dc k = c.dl k := by
  unfold DD.moved
  have h : ¬ (c.da k).isNone = true := by rw [hn]; decide
  exact ⟨if_neg h, if_neg h⟩
theorem moved_isNone (c : DD) (B k : Nat) : ((c.moved B).da k).isNone = (c.da k).isNone := by
  cases h : (c.da k).isNone with
  | true => rw [(moved_nil c B k h).1]; rfl
  | false => rw [(moved_some c B k h).1]; rfl

/-- A head. -/
def DD.headOf (c : DD) (i : Nat) : Value := .slice (c.da i) (c.dl i) (c.dc i)
theorem headOf_eq (c : DD) (i : Nat) : c.headOf i = .slice (c.da i) (c.dl i) (c.dc i) := rfl

/-- The copy, as far as k slices. -/
structure Copied (w w' : World) (c : DD) (k : Nat) : Prop where
  heads : RowTo w' w.heap.size 30 c.n (c.moved w.heap.size).headOf k
  data : ∀ i, i < k → (c.da i).isNone = false → w'.rowIs (w.heap.size + 1 + cntTo c.da i) 5 (c.dl i) (fun j => .int .u8 (c.dv i j))
  size : w'.heap.size = w.heap.size + 1 + cntTo c.da k
  below : Below w.heap.size w w'

theorem Copied.start (w : World) (c : DD) (z : Value) : Copied w (w.alloc (.cells (zrow z c.n) 30)) c 0 :=
  ⟨RowTo.made w z c.n 30 _, fun i hi => by omega, by simp [cntTo], (Below.refl _ _).alloc (Nat.le_refl _) _⟩

theorem Copied.putNil {w w' : World} {c : DD} {k : Nat} (h : Copied w w' c k) (hn : (c.da k).isNone = true) (hl : c.dl k = 0) :
    Copied w (w'.setCell ⟨w.heap.size, k, none⟩ (.slice none 0 0)) c (k + 1) := by
  refine ⟨h.heads.put _ (by rw [headOf_eq, (moved_nil c _ k hn).1, (moved_nil c _ k hn).2, show (c.moved w.heap.size).dl k = 0 from hl]), fun i hi hi' => ?_, ?_, h.below.setCell (Nat.le_refl _) _⟩
  · have e : i ≠ k := by intro e; subst e; rw [hn] at hi'; cases hi'
    exact (h.data i (by omega) hi').setOther (by show _ ≠ w.heap.size; omega) _
  · have := h.size
    rw [cntTo_nil _ _ hn]
    simpa [World.setCell] using this

theorem Copied.putSome {w w' w1 : World} {c : DD} {k : Nat} (h : Copied w w' c k) (hn : (c.da k).isNone = false) (hr : w1.rowIs w'.heap.size 5 (c.dl k) (fun j => .int .u8 (c.dv k j))) (hs : w1.heap.size = w'.heap.size + 1) (hb : Below w'.heap.size w' w1) :
    Copied w (w1.setCell ⟨w.heap.size, k, none⟩ (.slice (some ⟨w'.heap.size, 0, none⟩) (c.dl k) (c.dl k))) c (k + 1) := by
  have hsz := h.size
  have hd := h.heads.of_block (hb.block _ h.heads.lt)
  refine ⟨hd.put _ (by rw [headOf_eq, (moved_some c _ k hn).1, (moved_some c _ k hn).2, hsz]; rfl), fun i hi hi' => ?_, ?_, (below_of h.below h.below.size hb).setCell (Nat.le_refl _) _⟩
  · by_cases e : i = k
    · subst e
      rw [hsz] at hr
      exact hr.setOther (by show _ ≠ w.heap.size; omega) _
    · exact (row_below (h.data i (by omega) hi') hb).setOther (by show _ ≠ w.heap.size; omega) _
  · rw [cntTo_some _ _ hn, ← Nat.add_assoc, ← hsz, ← hs]
    simp [World.setCell]

/-- What the copy hands back. -/
def SaysDD (w w' : World) (a : Option Addr) (c : DD) (e : Ending) : Prop :=
  (a = none ∧ w = w' ∧ e = .returned (.slice none 0 0)) ∨ (a ≠ none ∧ e = .returned (.slice (some ⟨w.heap.size, 0, none⟩) c.n c.n) ∧ Copied w w' c c.n)

set_option maxHeartbeats 1000000 in
theorem cloneDeep (w : World) (a : Option Addr) (b o cap : Nat) (c : DD) (hA : 0 < c.n → a = some ⟨b, o, none⟩) (hnil : a = none → c.n = 0 ∧ cap = 0) (hv : DDv w b o c) (hn : c.n ≤ 65536) (hp : ∀ i, i < c.n → c.dl i ≤ 1048576) :
    Calls Try.prog 16 #[.slice a c.n cap] w fun e w' => SaysDD w w' a c e := by
  have heq : ∀ wx, (binOp .eql 39 (.slice a c.n cap) (.slice none 0 0)).run Try.prog wx = .ok (.bool a.isNone) wx := fun wx => Lib.run_eql_slice_nil wx 39 30 a c.n cap 0 0 Try.underlying39
  cases a with
  | none =>
    obtain rfl := (hnil rfl).2
    simp only [Option.isNone_none] at heq
    clear hv hp hA hnil
    go_enter Try.func16, Try.ntmps16
    go_wp2
    go_ret
    exact .inl ⟨rfl, rfl, rfl⟩
  | some ad =>
    simp only [Option.isNone_some] at heq
    have hmk := mk_any 39 30 1 24 (.slice none 0 0) Try.underlying39 Try.info30 c.n c.n (Nat.le_refl _) (by omega) (by omega)
    rw [Nat.mul_one] at hmk
    clear hnil
    go_enter Try.func16, Try.ntmps16
    go_wp2
    go_loopw [4] (fun i wr => ∃ k : Nat, k ≤ c.n ∧ i = .int .i64 k ∧ Copied w wr c k) (fun i _ => c.n - (intOf i).toNat)
    case atStart => exact ⟨0, Nat.zero_le _, rfl, Copied.start w c _⟩
    case round =>
      obtain ⟨k, hk, rfl, hcop⟩ := hrel
      have HC := hid hcop
      by_cases hlt : k < c.n
      · cases hA (by omega)
        have c1 := cell_below hcop.below (hv.head k hlt)
        have hbel := hcop.below
        obtain ⟨f, hf, _⟩ := hcop.heads
        have hcl := cloneBytes wr (c.da k) (c.db k) (c.off k) (c.dl k) (c.dc k) (c.dv k) (hv.at_ k hlt) (hv.nil k hlt) ((hv.val k hlt).below hbel) (hp k hlt)
        have HN0 := hid (hv.nil k hlt)
        have HF := hid hf
        have HCL := hid hcl
        clear hcop hv hA hp hmk hf hbel hcl heq
        go_wp2_with fail
        refine HCL.out.mono ?_
        rintro e w1 (⟨h1, rfl, rfl⟩ | ⟨h1, rfl, h2, h3, h4⟩)
        · have d1 := HF.out.cell hlt
          have d2 := HF.out.frozen k
          have H1 := hid h1
          clear h1 HCL c1
          go_wp2
          go_roundw
          case rel => exact ⟨k + 1, by omega, by go_num, HC.out.putNil (by rw [H1.out]; rfl) (HN0.out H1.out).1⟩
          case measure => simp [intOf]; omega
        · have hf1 := row_below HF.out h4
          have d1 := hf1.cell hlt
          have d2 := hf1.frozen k
          have H1 := hid h1
          have H2 := hid h2
          have H3 := hid h3
          have H4 := hid h4
          clear h1 h2 h3 h4 HCL c1 hf1
          go_wp2
          go_roundw
          case rel => exact ⟨k + 1, by omega, by go_num, HC.out.putSome (by cases e : c.da k with
            | none => exact absurd e H1.out
            | some _ => rfl) H2.out H3.out H4.out⟩
          case measure => simp [intOf]; omega
      · obtain rfl : k = c.n := by omega
        clear hcop hv hA hp hmk heq
        go_wp2
        go_ret
        exact .inr ⟨by simp, rfl, HC.out⟩

/-- THE COPY WHOLE, as the walks ask it. -/
theorem Copied.view {w w' : World} {c : DD} (h : Copied w w' c c.n) (hl : ∀ i, i < c.n → c.da i = none → c.dl i = 0) : DDv w' w.heap.size 0 (c.moved w.heap.size) := by
  have hf := h.heads.full
  have hnn : ∀ i, i < c.n → 0 < c.dl i → (c.da i).isNone = false := fun i hi hp => by
    cases e : c.da i with
    | none => have := hl i hi e; omega
    | some a => rfl
  refine ⟨fun i hi => ?_, fun i hi hp => ?_, fun i hi hp => ?_, fun i hi j hj => ?_⟩
  · have hi' : i < c.n := hi
    rw [Nat.zero_add, hf.cell hi', headOf_eq]
  · exact (moved_some c _ i (hnn i hi hp)).1
  · cases e : (c.da i).isNone with
    | true =>
      have e' : c.da i = none := by simpa using e
      exact ⟨hl i hi e', (moved_nil c _ i e).2⟩
    | false => rw [(moved_some c _ i e).1] at hp; cases hp
  · have hj' : j < c.dl i := hj
    have := (h.data i hi (hnn i hi (by omega))).cell hj'
    simpa [DD.moved] using this
end Go.Proofs.Qxb6605551a
