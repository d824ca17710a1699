/-
  PAIRS OF NUMBERS AND STRINGS: how the laws see them; the functions that read or copy them.
-/
import Derived.Test.Qxb6605479aCopies
namespace Go.Proofs.Qxb6605479a
open Go.RowKit

theorem Try.info9 : (Try.prog.info? 9).map (fun i => (i.zero, i.size, i.bytes)) = some (some (.string ⟨#[]⟩), 1, 16) := by kernel_rfl
theorem Try.info67 : (Try.prog.info? 67).map (fun i => (i.zero, i.size, i.bytes)) = some (some (.agg #[.int .i64 0, .int .i64 0]), 2, 16) := by kernel_rfl
theorem Try.info68 : (Try.prog.info? 68).map (fun i => (i.zero, i.size, i.bytes)) = some (some (.agg #[.int .i64 0, .int .i64 0]), 2, 16) := by kernel_rfl
theorem Try.info50 : (Try.prog.info? 50).map (fun i => (i.zero, i.size, i.bytes)) = some (some (.agg #[.int .i64 0, .int .i64 0]), 2, 16) := by kernel_rfl
theorem Try.info69 : (Try.prog.info? 69).map (fun i => (i.zero, i.size, i.bytes)) = some (some (.agg #[.int .i64 0, .int .i64 0]), 2, 16) := by kernel_rfl
def zPair : Value := .agg #[.int .i64 0, .int .i64 0]

/-- The pairs (X i, Y i) lie in w from cell o of block b on. -/
structure Pv (w : World) (b o n : Nat) (X Y : Nat → Int) : Prop where
  x : ∀ i, i < n → w.cell? ⟨b, o + i * 2, none⟩ = some (.int .i64 (X i))
  y : ∀ i, i < n → w.cell? ⟨b, o + i * 2 + 1, none⟩ = some (.int .i64 (Y i))
theorem Pv.below {w w' : World} {b o n : Nat} {X Y : Nat → Int} (h : Pv w b o n X Y) (hb : Below w.heap.size w w') : Pv w' b o n X Y := ⟨fun i hi => cell_below hb (h.x i hi), fun i hi => cell_below hb (h.y i hi)⟩

/-- The strings S i lie in w from cell o of block b on. -/
def Sv (w : World) (b o n : Nat) (S : Nat → ByteArray) : Prop := ∀ i, i < n → w.cell? ⟨b, o + i, none⟩ = some (.string (S i))
theorem Sv.below {w w' : World} {b o n : Nat} {S : Nat → ByteArray} (h : Sv w b o n S) (hb : Below w.heap.size w w') : Sv w' b o n S := fun i hi => cell_below hb (h i hi)

/-- A row of n pairs, the first k told. -/
def PairsIs (w : World) (b t n : Nat) (X Y : Nat → Int) (k : Nat) : Prop := ∃ f, w.rowIs b t (n * 2) f ∧ ∀ i, i < k → f (i * 2) = .int .i64 (X i) ∧ f (i * 2 + 1) = .int .i64 (Y i)
theorem PairsIs.put {w : World} {b t n : Nat} {X Y : Nat → Int} {k : Nat} (h : PairsIs w b t n X Y k) : PairsIs ((w.setCell ⟨b, k * 2, none⟩ (.int .i64 (X k))).setCell ⟨b, k * 2 + 1, none⟩ (.int .i64 (Y k))) b t n X Y (k + 1) := by
  obtain ⟨g, hg, ht⟩ := h
  refine ⟨_, (hg.set _ _).set _ _, fun t h => ?_⟩
  by_cases e : t = k
  · subst e
    simp
  · have h1 : t * 2 ≠ k * 2 := by omega
    have h2 : t * 2 ≠ k * 2 + 1 := by omega
    have h3 : t * 2 + 1 ≠ k * 2 := by omega
    have h4 : t * 2 + 1 ≠ k * 2 + 1 := by omega
    simp only [h1, h2, h3, h4, if_false]
    exact ht t (by omega)
theorem PairsIs.drew {w : World} {b t n : Nat} {X Y : Nat → Int} {k : Nat} (h : PairsIs w b t n X Y k) : PairsIs w.drew b t n X Y k := h

/-- A row of n strings, the first k told. -/
def StrsIs (w : World) (b t n : Nat) (S : Nat → ByteArray) (k : Nat) : Prop := ∃ f, w.rowIs b t n f ∧ ∀ i, i < k → f i = .string (S i)
theorem StrsIs.put {w : World} {b t n : Nat} {S : Nat → ByteArray} {k : Nat} (h : StrsIs w b t n S k) : StrsIs (w.setCell ⟨b, k, none⟩ (.string (S k))) b t n S (k + 1) := by
  obtain ⟨g, hg, ht⟩ := h
  refine ⟨_, hg.set _ _, fun t h => ?_⟩
  by_cases e : t = k
  · subst e
    simp
  · simp only [e, if_false]
    exact ht t (by omega)

/-- What a copy of pairs hands back. -/
def SaysP (w w' : World) (t : Nat) (a : Option Addr) (n : Nat) (X Y : Nat → Int) (e : Ending) : Prop :=
  (a = none ∧ w = w' ∧ e = .returned (.slice none 0 0)) ∨ (a ≠ none ∧ e = .returned (.slice (some ⟨w.heap.size, 0, none⟩) n n) ∧ PairsIs w' w.heap.size t n X Y n ∧ Below w.heap.size w w')
/-- What a copy of strings hands back. -/
def SaysS (w w' : World) (a : Option Addr) (n : Nat) (S : Nat → ByteArray) (e : Ending) : Prop :=
  (a = none ∧ w = w' ∧ e = .returned (.slice none 0 0)) ∨ (a ≠ none ∧ e = .returned (.slice (some ⟨w.heap.size, 0, none⟩) n n) ∧ StrsIs w' w.heap.size 9 n S n ∧ Below w.heap.size w w')

theorem SaysP.view {w w' : World} {t : Nat} {a : Option Addr} {n : Nat} {X Y : Nat → Int} {e : Ending} (h : SaysP w w' t a n X Y e) (hnil : a = none → n = 0) :
    ∃ a' cap', e = .returned (.slice a' n cap') ∧ (0 < n → a' = some ⟨w.heap.size, 0, none⟩) ∧ (a' = none → n = 0 ∧ cap' = 0) ∧ Pv w' w.heap.size 0 n X Y ∧ Below w.heap.size w w' := by
  rcases h with ⟨h1, h2, h3⟩ | ⟨h1, h2, ⟨f, hf, ht⟩, h4⟩
  · obtain rfl := hnil h1
    subst h2
    exact ⟨none, 0, h3, fun h => by omega, fun _ => ⟨rfl, rfl⟩, ⟨fun i hi => by omega, fun i hi => by omega⟩, Below.refl _ _⟩
  · refine ⟨_, n, h2, fun _ => rfl, (fun h => by cases h), ⟨fun i hi => ?_, fun i hi => ?_⟩, h4⟩
    · rw [Nat.zero_add, hf.cell (by omega), (ht i hi).1]
    · rw [Nat.zero_add, hf.cell (by omega), (ht i hi).2]
theorem SaysS.view {w w' : World} {a : Option Addr} {n : Nat} {S : Nat → ByteArray} {e : Ending} (h : SaysS w w' a n S e) (hnil : a = none → n = 0) :
    ∃ a' cap', e = .returned (.slice a' n cap') ∧ a'.isNone = a.isNone ∧ (0 < n → a' = some ⟨w.heap.size, 0, none⟩) ∧ (a' = none → n = 0 ∧ cap' = 0) ∧ Sv w' w.heap.size 0 n S ∧ Below w.heap.size w w' := by
  rcases h with ⟨h1, h2, h3⟩ | ⟨h1, h2, ⟨f, hf, ht⟩, h4⟩
  · obtain rfl := hnil h1
    subst h2
    exact ⟨none, 0, h3, by rw [h1], fun h => by omega, fun _ => ⟨rfl, rfl⟩, fun i hi => by omega, Below.refl _ _⟩
  · refine ⟨_, n, h2, ?_, fun _ => rfl, (fun h => by cases h), fun i hi => ?_, h4⟩
    · cases a with
      | none => exact absurd rfl h1
      | some _ => rfl
    · rw [Nat.zero_add, hf.cell hi, ht i hi]

set_option maxHeartbeats 1000000 in
theorem cloneUA (w : World) (a : Option Addr) (b o n cap : Nat) (X Y : Nat → Int) (hA : 0 < n → a = some ⟨b, o, none⟩) (hnil : a = none → n = 0 ∧ cap = 0) (hv : Pv w b o n X Y) (hn : n ≤ 65536) :
    Calls Try.prog 34 #[.slice a n cap] w fun e w' => SaysP w w' 67 a n X Y e := by
  have heq : ∀ wx, (binOp .eql 52 (.slice a n cap) (.slice none 0 0)).run Try.prog wx = .ok (.bool a.isNone) wx := fun wx => Lib.run_eql_slice_nil wx 52 67 a n cap 0 0 Try.underlying52
  cases a with
  | none =>
    obtain ⟨rfl, rfl⟩ := hnil rfl
    simp only [Option.isNone_none] at heq
    clear hv hA hnil
    go_enter Try.func34, Try.ntmps34
    go_wp2
    go_ret
    exact .inl ⟨rfl, rfl, rfl⟩
  | some ad =>
    simp only [Option.isNone_some] at heq
    have hmk := mk_any 52 67 2 16 zPair Try.underlying52 Try.info67 n (by omega) (by omega)
    clear hnil
    go_enter Try.func34, Try.ntmps34
    go_wp2
    go_loopw [4] (fun i wr => ∃ k : Nat, k ≤ n ∧ i = .int .i64 k ∧ PairsIs wr w.heap.size 67 n X Y k ∧ Below w.heap.size w wr) (fun i _ => n - (intOf i).toNat)
    case atStart =>
      obtain ⟨f, hf⟩ := row_made w zPair (n * 2) 67
      exact ⟨0, Nat.zero_le _, rfl, ⟨f, hf, fun i hi => by omega⟩, (Below.refl _ _).alloc (Nat.le_refl _) _⟩
    case round =>
      obtain ⟨k, hk, rfl, hrow, hbel⟩ := hrel
      have HR := hid hrow
      have HB := hid hbel
      by_cases hlt : k < n
      · cases hA (by omega)
        have c1 := cell_below hbel (hv.x k hlt)
        have c2 := cell_below hbel (hv.y k hlt)
        obtain ⟨f, hf, _⟩ := hrow
        have d1 := hf.cell (i := k * 2) (by omega)
        have d2 := hf.cell (i := k * 2 + 1) (by omega)
        have z1 := hf.frozen (k * 2)
        have z2 := hf.frozen (k * 2 + 1)
        have i1 : (0 : Int) ≤ (k : Int) := by omega
        have i2 : (k : Int) < (n : Int) := by omega
        clear hv hf hbel hmk
        go_wp2
        go_roundw
        case rel => exact ⟨k + 1, by omega, by go_num, HR.out.put, ((HB.out.setCell (Nat.le_refl _) _).setCell (Nat.le_refl _) _)⟩
        case measure => simp [intOf]; omega
      · obtain rfl : k = n := by omega
        clear hv hrow hbel hmk hA
        go_wp2
        go_ret
        exact .inr ⟨by simp, rfl, HR.out, HB.out⟩

set_option maxHeartbeats 1000000 in
theorem cloneCR (w : World) (a : Option Addr) (b o n cap : Nat) (X Y : Nat → Int) (hA : 0 < n → a = some ⟨b, o, none⟩) (hnil : a = none → n = 0 ∧ cap = 0) (hv : Pv w b o n X Y) (hn : n ≤ 65536) :
    Calls Try.prog 24 #[.slice a n cap] w fun e w' => SaysP w w' 50 a n X Y e := by
  have heq : ∀ wx, (binOp .eql 38 (.slice a n cap) (.slice none 0 0)).run Try.prog wx = .ok (.bool a.isNone) wx := fun wx => Lib.run_eql_slice_nil wx 38 50 a n cap 0 0 Try.underlying38
  cases a with
  | none =>
    obtain ⟨rfl, rfl⟩ := hnil rfl
    simp only [Option.isNone_none] at heq
    clear hv hA hnil
    go_enter Try.func24, Try.ntmps24
    go_wp2
    go_ret
    exact .inl ⟨rfl, rfl, rfl⟩
  | some ad =>
    simp only [Option.isNone_some] at heq
    have hmk := mk_any 38 50 2 16 zPair Try.underlying38 Try.info50 n (by omega) (by omega)
    clear hnil
    go_enter Try.func24, Try.ntmps24
    go_wp2
    go_loopw [4] (fun i wr => ∃ k : Nat, k ≤ n ∧ i = .int .i64 k ∧ PairsIs wr w.heap.size 50 n X Y k ∧ Below w.heap.size w wr) (fun i _ => n - (intOf i).toNat)
    case atStart =>
      obtain ⟨f, hf⟩ := row_made w zPair (n * 2) 50
      exact ⟨0, Nat.zero_le _, rfl, ⟨f, hf, fun i hi => by omega⟩, (Below.refl _ _).alloc (Nat.le_refl _) _⟩
    case round =>
      obtain ⟨k, hk, rfl, hrow, hbel⟩ := hrel
      have HR := hid hrow
      have HB := hid hbel
      by_cases hlt : k < n
      · cases hA (by omega)
        have c1 := cell_below hbel (hv.x k hlt)
        have c2 := cell_below hbel (hv.y k hlt)
        obtain ⟨f, hf, _⟩ := hrow
        have d1 := hf.cell (i := k * 2) (by omega)
        have d2 := hf.cell (i := k * 2 + 1) (by omega)
        have z1 := hf.frozen (k * 2)
        have z2 := hf.frozen (k * 2 + 1)
        have i1 : (0 : Int) ≤ (k : Int) := by omega
        have i2 : (k : Int) < (n : Int) := by omega
        clear hv hf hbel hmk
        go_wp2
        go_roundw
        case rel => exact ⟨k + 1, by omega, by go_num, HR.out.put, ((HB.out.setCell (Nat.le_refl _) _).setCell (Nat.le_refl _) _)⟩
        case measure => simp [intOf]; omega
      · obtain rfl : k = n := by omega
        clear hv hrow hbel hmk hA
        go_wp2
        go_ret
        exact .inr ⟨by simp, rfl, HR.out, HB.out⟩

set_option maxHeartbeats 1000000 in
theorem toUA (w : World) (a : Option Addr) (b o n cap : Nat) (X Y : Nat → Int) (hA : 0 < n → a = some ⟨b, o, none⟩) (hnil : a = none → n = 0 ∧ cap = 0) (hv : Pv w b o n X Y) (hn : n ≤ 65536) :
    Calls Try.prog 35 #[.slice a n cap] w fun e w' => SaysP w w' 68 a n X Y e := by
  have heq : ∀ wx, (binOp .eql 52 (.slice a n cap) (.slice none 0 0)).run Try.prog wx = .ok (.bool a.isNone) wx := fun wx => Lib.run_eql_slice_nil wx 52 67 a n cap 0 0 Try.underlying52
  cases a with
  | none =>
    obtain ⟨rfl, rfl⟩ := hnil rfl
    simp only [Option.isNone_none] at heq
    clear hv hA hnil
    go_enter Try.func35, Try.ntmps35
    go_wp2
    go_ret
    exact .inl ⟨rfl, rfl, rfl⟩
  | some ad =>
    simp only [Option.isNone_some] at heq
    have hmk := mk_any 59 68 2 16 zPair Try.underlying59 Try.info68 n (by omega) (by omega)
    clear hnil
    go_enter Try.func35, Try.ntmps35
    go_wp2
    go_loopw [4] (fun i wr => ∃ k : Nat, k ≤ n ∧ i = .int .i64 k ∧ PairsIs wr w.heap.size 68 n X Y k ∧ Below w.heap.size w wr) (fun i _ => n - (intOf i).toNat)
    case atStart =>
      obtain ⟨f, hf⟩ := row_made w zPair (n * 2) 68
      exact ⟨0, Nat.zero_le _, rfl, ⟨f, hf, fun i hi => by omega⟩, (Below.refl _ _).alloc (Nat.le_refl _) _⟩
    case round =>
      obtain ⟨k, hk, rfl, hrow, hbel⟩ := hrel
      have HR := hid hrow
      have HB := hid hbel
      by_cases hlt : k < n
      · cases hA (by omega)
        have c1 := cell_below hbel (hv.x k hlt)
        have c2 := cell_below hbel (hv.y k hlt)
        obtain ⟨f, hf, _⟩ := hrow
        have d1 := hf.cell (i := k * 2) (by omega)
        have d2 := hf.cell (i := k * 2 + 1) (by omega)
        have z1 := hf.frozen (k * 2)
        have z2 := hf.frozen (k * 2 + 1)
        have i1 : (0 : Int) ≤ (k : Int) := by omega
        have i2 : (k : Int) < (n : Int) := by omega
        clear hv hf hbel hmk
        go_wp2
        go_big_region
        go_wp2
        go_roundw
        case rel => exact ⟨k + 1, by omega, by go_num, HR.out.put.drew, ((HB.out.setCell (Nat.le_refl _) _).setCell (Nat.le_refl _) _).drew⟩
        case measure => simp [intOf]; omega
      · obtain rfl : k = n := by omega
        clear hv hrow hbel hmk hA
        go_wp2
        go_ret
        exact .inr ⟨by simp, rfl, HR.out, HB.out⟩

set_option maxHeartbeats 1000000 in
theorem toCR (w : World) (a : Option Addr) (b o n cap : Nat) (X Y : Nat → Int) (hA : 0 < n → a = some ⟨b, o, none⟩) (hnil : a = none → n = 0 ∧ cap = 0) (hv : Pv w b o n X Y) (hn : n ≤ 65536) :
    Calls Try.prog 27 #[.slice a n cap] w fun e w' => SaysP w w' 69 a n X Y e := by
  have heq : ∀ wx, (binOp .eql 38 (.slice a n cap) (.slice none 0 0)).run Try.prog wx = .ok (.bool a.isNone) wx := fun wx => Lib.run_eql_slice_nil wx 38 50 a n cap 0 0 Try.underlying38
  cases a with
  | none =>
    obtain ⟨rfl, rfl⟩ := hnil rfl
    simp only [Option.isNone_none] at heq
    clear hv hA hnil
    go_enter Try.func27, Try.ntmps27
    go_wp2
    go_ret
    exact .inl ⟨rfl, rfl, rfl⟩
  | some ad =>
    simp only [Option.isNone_some] at heq
    have hmk := mk_any 45 69 2 16 zPair Try.underlying45 Try.info69 n (by omega) (by omega)
    clear hnil
    go_enter Try.func27, Try.ntmps27
    go_wp2
    go_loopw [4] (fun i wr => ∃ k : Nat, k ≤ n ∧ i = .int .i64 k ∧ PairsIs wr w.heap.size 69 n X Y k ∧ Below w.heap.size w wr) (fun i _ => n - (intOf i).toNat)
    case atStart =>
      obtain ⟨f, hf⟩ := row_made w zPair (n * 2) 69
      exact ⟨0, Nat.zero_le _, rfl, ⟨f, hf, fun i hi => by omega⟩, (Below.refl _ _).alloc (Nat.le_refl _) _⟩
    case round =>
      obtain ⟨k, hk, rfl, hrow, hbel⟩ := hrel
      have HR := hid hrow
      have HB := hid hbel
      by_cases hlt : k < n
      · cases hA (by omega)
        have c1 := cell_below hbel (hv.x k hlt)
        have c2 := cell_below hbel (hv.y k hlt)
        obtain ⟨f, hf, _⟩ := hrow
        have d1 := hf.cell (i := k * 2) (by omega)
        have d2 := hf.cell (i := k * 2 + 1) (by omega)
        have z1 := hf.frozen (k * 2)
        have z2 := hf.frozen (k * 2 + 1)
        have i1 : (0 : Int) ≤ (k : Int) := by omega
        have i2 : (k : Int) < (n : Int) := by omega
        clear hv hf hbel hmk
        go_wp2
        go_big_region
        go_wp2
        go_roundw
        case rel => exact ⟨k + 1, by omega, by go_num, HR.out.put.drew, ((HB.out.setCell (Nat.le_refl _) _).setCell (Nat.le_refl _) _).drew⟩
        case measure => simp [intOf]; omega
      · obtain rfl : k = n := by omega
        clear hv hrow hbel hmk hA
        go_wp2
        go_ret
        exact .inr ⟨by simp, rfl, HR.out, HB.out⟩

set_option maxHeartbeats 1000000 in
theorem cloneStrs (w : World) (a : Option Addr) (b o n cap : Nat) (S : Nat → ByteArray) (hA : 0 < n → a = some ⟨b, o, none⟩) (hnil : a = none → n = 0 ∧ cap = 0) (hv : Sv w b o n S) (hn : n ≤ 65536) :
    Calls Try.prog 33 #[.slice a n cap] w fun e w' => SaysS w w' a n S e := by
  have heq : ∀ wx, (binOp .eql 51 (.slice a n cap) (.slice none 0 0)).run Try.prog wx = .ok (.bool a.isNone) wx := fun wx => Lib.run_eql_slice_nil wx 51 9 a n cap 0 0 Try.underlying51
  cases a with
  | none =>
    obtain ⟨rfl, rfl⟩ := hnil rfl
    simp only [Option.isNone_none] at heq
    clear hv hA hnil
    go_enter Try.func33, Try.ntmps33
    go_wp2
    go_ret
    exact .inl ⟨rfl, rfl, rfl⟩
  | some ad =>
    simp only [Option.isNone_some] at heq
    have hmk := mk_any 51 9 1 16 (.string ⟨#[]⟩) Try.underlying51 Try.info9 n (by omega) (by omega)
    rw [Nat.mul_one] at hmk
    clear hnil
    go_enter Try.func33, Try.ntmps33
    go_wp2
    go_loopw [4] (fun i wr => ∃ k : Nat, k ≤ n ∧ i = .int .i64 k ∧ StrsIs wr w.heap.size 9 n S k ∧ Below w.heap.size w wr) (fun i _ => n - (intOf i).toNat)
    case atStart =>
      obtain ⟨f, hf⟩ := row_made w (.string ⟨#[]⟩) n 9
      exact ⟨0, Nat.zero_le _, rfl, ⟨f, hf, fun i hi => by omega⟩, (Below.refl _ _).alloc (Nat.le_refl _) _⟩
    case round =>
      obtain ⟨k, hk, rfl, hrow, hbel⟩ := hrel
      have HR := hid hrow
      have HB := hid hbel
      by_cases hlt : k < n
      · cases hA (by omega)
        have c1 := cell_below hbel (hv k hlt)
        obtain ⟨f, hf, _⟩ := hrow
        have d1 := hf.cell (i := k) hlt
        have z1 := hf.frozen k
        clear hv hf hbel hmk
        go_wp2
        go_roundw
        case rel => exact ⟨k + 1, by omega, by go_num, HR.out.put, HB.out.setCell (Nat.le_refl _) _⟩
        case measure => simp [intOf]; omega
      · obtain rfl : k = n := by omega
        clear hv hrow hbel hmk hA
        go_wp2
        go_ret
        exact .inr ⟨by simp, rfl, HR.out, HB.out⟩

set_option maxHeartbeats 400000 in
theorem strBytes (w : World) (a : Option Addr) (b o n cap : Nat) (S : Nat → ByteArray) (hA : 0 < n → a = some ⟨b, o, none⟩) (hv : Sv w b o n S) (hn : n ≤ 9223372036854775807) (hp : ∀ i, i < n → (S i).size ≤ 9223372036854775807) :
    Calls Try.prog 31 #[.slice a n cap] w fun e w' => (∃ N : Nat, e = .returned (.int .i64 N) ∧ N ≤ 1048577) ∧ w = w' := by
  by_cases h1 : n ≤ 65536
  · have d1 : decide ((65536 : Int) < (n : Int)) = false := by simp; omega
    go_enter Try.func31, Try.ntmps31
    go_wp2
    go_loop [3, 4] (fun s i => ∃ k t : Nat, k ≤ n ∧ i = .int .i64 k ∧ s = .int .i64 t ∧ t ≤ 1048577) (fun _ i => n - (intOf i).toNat)
    case atStart => exact ⟨0, 16 * n, Nat.zero_le _, rfl, by go_num, by omega⟩
    case round =>
      obtain ⟨k, t, hk, rfl, rfl, hs⟩ := hrel
      by_cases hlt : k < n
      · obtain rfl := hA (by omega)
        have hc := hv k hlt
        have hpk := hp k hlt
        clear hv hp
        by_cases g1 : (S k).size ≤ 1048576
        · by_cases g2 : t + (S k).size ≤ 1048576
          · go_wp2
            go_round
            case rel => exact ⟨k + 1, t + (S k).size, by omega, by go_num, by go_num, by omega⟩
            case measure => simp [intOf]; omega
          · go_wp2
            go_ret
            exact ⟨⟨1048577, rfl, by omega⟩, rfl⟩
        · go_wp2
          go_ret
          exact ⟨⟨1048577, rfl, by omega⟩, rfl⟩
      · obtain rfl : k = n := by omega
        go_wp2
        go_ret
        exact ⟨⟨t, rfl, by omega⟩, rfl⟩
  · go_enter Try.func31, Try.ntmps31
    go_wp2
    go_ret
    exact ⟨⟨1048577, rfl, by omega⟩, rfl⟩

/-- What the ranges of pairs say. -/
def SaysR (p : Prop) (e : Ending) : Prop := ∃ r : Bool, e = .returned (.bool r) ∧ (r = true → p)
theorem SaysR.no (p : Prop) : SaysR p (.returned (.bool false)) := ⟨false, rfl, fun h => by cases h⟩
theorem SaysR.yes {p : Prop} (h : p) : SaysR p (.returned (.bool true)) := ⟨true, rfl, fun _ => h⟩

set_option maxHeartbeats 1000000 in
theorem uaInRange (w : World) (a : Option Addr) (b o n cap : Nat) (X Y : Nat → Int) (N : Int) (hA : 0 < n → a = some ⟨b, o, none⟩) (hv : Pv w b o n X Y) (hn : n ≤ 65536) :
    Calls Try.prog 32 #[.slice a n cap, .int .i64 N] w fun e w' => SaysR (∀ i, i < n → 0 ≤ Y i ∧ Y i < N) e ∧ w = w' := by
  go_enter Try.func32, Try.ntmps32
  go_wp2
  go_loop [5] (fun i => ∃ k : Nat, k ≤ n ∧ i = .int .i64 k ∧ ∀ i, i < k → 0 ≤ Y i ∧ Y i < N) (fun i => n - (intOf i).toNat)
  case atStart => exact ⟨0, Nat.zero_le _, rfl, fun i hi => by omega⟩
  case round =>
    obtain ⟨k, hk, rfl, hin⟩ := hrel
    have HIN := hid hin
    clear hin
    by_cases hlt : k < n
    · obtain rfl := hA (by omega)
      have c2 := hv.y k hlt
      clear hv
      by_cases g2 : inB (Y k) N = true
      · go_wp2_with (go_at_call 22; refine (inRange' _ _ _).mono ?_; rintro e w' ⟨rfl, rfl⟩)
        go_round
        case rel => exact ⟨k + 1, by omega, by go_num, fun i hi => by
          by_cases e : i = k
          · subst e; exact (inB_iff _ _).1 g2
          · exact HIN.out i (by omega)⟩
        case measure => simp [intOf]; omega
      · have g2' : inB (Y k) N = false := by simpa using g2
        go_wp2_with (go_at_call 22; refine (inRange' _ _ _).mono ?_; rintro e w' ⟨rfl, rfl⟩)
        go_ret
        exact ⟨SaysR.no _, rfl⟩
    · obtain rfl : k = n := by omega
      clear hv
      go_wp2
      go_ret
      exact ⟨SaysR.yes HIN.out, rfl⟩

set_option maxHeartbeats 1000000 in
theorem crInRange (w : World) (a : Option Addr) (b o n cap : Nat) (X Y : Nat → Int) (N : Int) (hA : 0 < n → a = some ⟨b, o, none⟩) (hv : Pv w b o n X Y) (hn : n ≤ 65536) :
    Calls Try.prog 23 #[.slice a n cap, .int .i64 N] w fun e w' => SaysR (∀ i, i < n → (0 ≤ X i ∧ X i < N) ∧ 0 ≤ Y i ∧ Y i < N) e ∧ w = w' := by
  go_enter Try.func23, Try.ntmps23
  go_wp2
  go_loop [5] (fun i => ∃ k : Nat, k ≤ n ∧ i = .int .i64 k ∧ ∀ i, i < k → (0 ≤ X i ∧ X i < N) ∧ 0 ≤ Y i ∧ Y i < N) (fun i => n - (intOf i).toNat)
  case atStart => exact ⟨0, Nat.zero_le _, rfl, fun i hi => by omega⟩
  case round =>
    obtain ⟨k, hk, rfl, hin⟩ := hrel
    have HIN := hid hin
    clear hin
    by_cases hlt : k < n
    · obtain rfl := hA (by omega)
      have c1 := hv.x k hlt
      have c2 := hv.y k hlt
      clear hv
      by_cases g1 : inB (X k) N = true
      · by_cases g2 : inB (Y k) N = true
        · go_wp2_with (go_at_call 22; refine (inRange' _ _ _).mono ?_; rintro e w' ⟨rfl, rfl⟩)
          go_round
          case rel => exact ⟨k + 1, by omega, by go_num, fun i hi => by
            by_cases e : i = k
            · subst e; exact ⟨(inB_iff _ _).1 g1, (inB_iff _ _).1 g2⟩
            · exact HIN.out i (by omega)⟩
          case measure => simp [intOf]; omega
        · have g2' : inB (Y k) N = false := by simpa using g2
          go_wp2_with (go_at_call 22; refine (inRange' _ _ _).mono ?_; rintro e w' ⟨rfl, rfl⟩)
          go_ret
          exact ⟨SaysR.no _, rfl⟩
      · have g1' : inB (X k) N = false := by simpa using g1
        go_wp2_with (go_at_call 22; refine (inRange' _ _ _).mono ?_; rintro e w' ⟨rfl, rfl⟩)
        go_ret
        exact ⟨SaysR.no _, rfl⟩
    · obtain rfl : k = n := by omega
      clear hv
      go_wp2
      go_ret
      exact ⟨SaysR.yes HIN.out, rfl⟩
end Go.Proofs.Qxb6605479a
