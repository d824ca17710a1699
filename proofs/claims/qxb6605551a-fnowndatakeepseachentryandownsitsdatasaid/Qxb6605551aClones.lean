/-
  THE FUNCTIONS THAT COPY NUMBERS.
-/
import Derived.Test.Qxb6605551aViews
namespace Go.Proofs.Qxb6605551a
open Go.RowKit

set_option maxHeartbeats 400000 in
theorem cloneI64 (w : World) (a : Option Addr) (b o n cap : Nat) (F : Nat → Int) (hA : 0 < n → a = some ⟨b, o, none⟩) (hnil : a = none → n = 0 ∧ cap = 0) (hv : Iv w .i64 b o n F) (hn : n ≤ 1048576) :
    Calls Try.prog 8 #[.slice a n cap] w fun e w' => SaysI w w' 2 .i64 a n F e := by
  have heq : ∀ wx, (binOp .eql 22 (.slice a n cap) (.slice none 0 0)).run Try.prog wx = .ok (.bool a.isNone) wx := fun wx => Lib.run_eql_slice_nil wx 22 2 a n cap 0 0 Try.underlying22
  cases a with
  | none =>
    obtain ⟨rfl, rfl⟩ := hnil rfl
    simp only [Option.isNone_none] at heq
    clear hv hA hnil
    go_enter Try.func8, Try.ntmps8
    go_wp2
    go_ret
    exact .inl ⟨rfl, rfl, rfl⟩
  | some ad =>
    simp only [Option.isNone_some] at heq
    have hmk := mk_any 22 2 1 8 (.int .i64 0) Try.underlying22 Try.info2 n n (Nat.le_refl _) (by omega) (by omega)
    rw [Nat.mul_one] at hmk
    clear hnil
    go_enter Try.func8, Try.ntmps8
    go_wp2
    go_loopw [4] (fun i wr => ∃ k : Nat, k ≤ n ∧ i = .int .i64 k ∧ RowTo wr w.heap.size 2 n (fun j => .int .i64 (F j)) k ∧ wr.heap.size = w.heap.size + 1 ∧ Below w.heap.size w wr) (fun i _ => n - (intOf i).toNat)
    case atStart => exact ⟨0, Nat.zero_le _, rfl, RowTo.made w _ n 2 _, by simp, (Below.refl _ _).alloc (Nat.le_refl _) _⟩
    case round =>
      obtain ⟨k, hk, rfl, hrow, hsz, hbel⟩ := hrel
      have HR := hid hrow
      have HB := hid hbel
      have HS := hid hsz
      by_cases hlt : k < n
      · cases hA (by omega)
        have c1 := cell_below hbel (hv k hlt)
        obtain ⟨f, hf, _⟩ := hrow
        have c2 := hf.cell hlt
        have c3 := hf.frozen k
        clear hv hf hbel hsz hmk
        go_wp2
        go_roundw
        case rel => exact ⟨k + 1, by omega, by go_num, HR.out.put _ rfl, by simpa [World.setCell] using HS.out, HB.out.setCell (Nat.le_refl _) _⟩
        case measure => simp [intOf]; omega
      · obtain rfl : k = n := by omega
        clear hv hrow hbel hsz hmk hA
        go_wp2
        go_ret
        exact .inr ⟨by simp, rfl, HR.out.full, HS.out, HB.out⟩

set_option maxHeartbeats 400000 in
theorem cloneU64 (w : World) (a : Option Addr) (b o n cap : Nat) (F : Nat → Int) (hA : 0 < n → a = some ⟨b, o, none⟩) (hnil : a = none → n = 0 ∧ cap = 0) (hv : Iv w .u64 b o n F) (hn : n ≤ 1048576) :
    Calls Try.prog 15 #[.slice a n cap] w fun e w' => SaysI w w' 28 .u64 a n F e := by
  have heq : ∀ wx, (binOp .eql 38 (.slice a n cap) (.slice none 0 0)).run Try.prog wx = .ok (.bool a.isNone) wx := fun wx => Lib.run_eql_slice_nil wx 38 28 a n cap 0 0 Try.underlying38
  cases a with
  | none =>
    obtain ⟨rfl, rfl⟩ := hnil rfl
    simp only [Option.isNone_none] at heq
    clear hv hA hnil
    go_enter Try.func15, Try.ntmps15
    go_wp2
    go_ret
    exact .inl ⟨rfl, rfl, rfl⟩
  | some ad =>
    simp only [Option.isNone_some] at heq
    have hmk := mk_any 38 28 1 8 (.int .u64 0) Try.underlying38 Try.info28 n n (Nat.le_refl _) (by omega) (by omega)
    rw [Nat.mul_one] at hmk
    clear hnil
    go_enter Try.func15, Try.ntmps15
    go_wp2
    go_loopw [4] (fun i wr => ∃ k : Nat, k ≤ n ∧ i = .int .i64 k ∧ RowTo wr w.heap.size 28 n (fun j => .int .u64 (F j)) k ∧ wr.heap.size = w.heap.size + 1 ∧ Below w.heap.size w wr) (fun i _ => n - (intOf i).toNat)
    case atStart => exact ⟨0, Nat.zero_le _, rfl, RowTo.made w _ n 28 _, by simp, (Below.refl _ _).alloc (Nat.le_refl _) _⟩
    case round =>
      obtain ⟨k, hk, rfl, hrow, hsz, hbel⟩ := hrel
      have HR := hid hrow
      have HB := hid hbel
      have HS := hid hsz
      by_cases hlt : k < n
      · cases hA (by omega)
        have c1 := cell_below hbel (hv k hlt)
        obtain ⟨f, hf, _⟩ := hrow
        have c2 := hf.cell hlt
        have c3 := hf.frozen k
        clear hv hf hbel hsz hmk
        go_wp2
        go_roundw
        case rel => exact ⟨k + 1, by omega, by go_num, HR.out.put _ rfl, by simpa [World.setCell] using HS.out, HB.out.setCell (Nat.le_refl _) _⟩
        case measure => simp [intOf]; omega
      · obtain rfl : k = n := by omega
        clear hv hrow hbel hsz hmk hA
        go_wp2
        go_ret
        exact .inr ⟨by simp, rfl, HR.out.full, HS.out, HB.out⟩

set_option maxHeartbeats 400000 in
theorem cloneBytes (w : World) (a : Option Addr) (b o n cap : Nat) (F : Nat → Int) (hA : 0 < n → a = some ⟨b, o, none⟩) (hnil : a = none → n = 0 ∧ cap = 0) (hv : Iv w .u8 b o n F) (hn : n ≤ 1048576) :
    Calls Try.prog 11 #[.slice a n cap] w fun e w' => SaysI w w' 5 .u8 a n F e := by
  have heq : ∀ wx, (binOp .eql 30 (.slice a n cap) (.slice none 0 0)).run Try.prog wx = .ok (.bool a.isNone) wx := fun wx => Lib.run_eql_slice_nil wx 30 5 a n cap 0 0 Try.underlying30
  cases a with
  | none =>
    obtain ⟨rfl, rfl⟩ := hnil rfl
    simp only [Option.isNone_none] at heq
    clear hv hA hnil
    go_enter Try.func11, Try.ntmps11
    go_wp2
    go_ret
    exact .inl ⟨rfl, rfl, rfl⟩
  | some ad =>
    simp only [Option.isNone_some] at heq
    have hmk := mk_any 30 5 1 1 (.int .u8 0) Try.underlying30 Try.info5 n n (Nat.le_refl _) (by omega) (by omega)
    rw [Nat.mul_one] at hmk
    clear hnil
    go_enter Try.func11, Try.ntmps11
    go_wp2
    go_loopw [4] (fun i wr => ∃ k : Nat, k ≤ n ∧ i = .int .i64 k ∧ RowTo wr w.heap.size 5 n (fun j => .int .u8 (F j)) k ∧ wr.heap.size = w.heap.size + 1 ∧ Below w.heap.size w wr) (fun i _ => n - (intOf i).toNat)
    case atStart => exact ⟨0, Nat.zero_le _, rfl, RowTo.made w _ n 5 _, by simp, (Below.refl _ _).alloc (Nat.le_refl _) _⟩
    case round =>
      obtain ⟨k, hk, rfl, hrow, hsz, hbel⟩ := hrel
      have HR := hid hrow
      have HB := hid hbel
      have HS := hid hsz
      by_cases hlt : k < n
      · cases hA (by omega)
        have c1 := cell_below hbel (hv k hlt)
        obtain ⟨f, hf, _⟩ := hrow
        have c2 := hf.cell hlt
        have c3 := hf.frozen k
        clear hv hf hbel hsz hmk
        go_wp2
        go_roundw
        case rel => exact ⟨k + 1, by omega, by go_num, HR.out.put _ rfl, by simpa [World.setCell] using HS.out, HB.out.setCell (Nat.le_refl _) _⟩
        case measure => simp [intOf]; omega
      · obtain rfl : k = n := by omega
        clear hv hrow hbel hsz hmk hA
        go_wp2
        go_ret
        exact .inr ⟨by simp, rfl, HR.out.full, HS.out, HB.out⟩
end Go.Proofs.Qxb6605551a
