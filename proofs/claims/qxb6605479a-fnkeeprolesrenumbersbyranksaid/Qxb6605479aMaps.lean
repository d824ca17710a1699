/-
  zzMapsBack: a role's new number leads back to it.
-/
import Derived.Test.Qxb6605479aRules
namespace Go.Proofs.Qxb6605479a
open Go.RowKit

/-- The kept places, as a list's view. -/
structure Ix (w : World) (M : Nat → Bool) (n : Nat) (ia : Option Addr) (ig : Nat) : Prop where
  at_ : 0 < cnt M n → ia = some ⟨ig, 0, none⟩
  get : ∀ i, i < n → M i = true → w.cell? ⟨ig, cnt M i, none⟩ = some (.int .i64 (i : Int))

theorem mapsBack (w : World) (M : Nat → Bool) (x n : Nat) (hx : x < n) (ma : Option Addr) (mb mo mcap : Nat) (mA : 0 < n → ma = some ⟨mb, mo, none⟩) (mv : Bv w mb mo n M) (ia : Option Addr) (ig icap : Nat) (hi : Ix w M n ia ig) :
    Calls Try.prog 37 #[.int .i64 (num M x : Int), .int .i64 (x : Int), .slice ma n mcap, .slice ia (cnt M n) icap] w fun e w' => e = .returned (.bool true) ∧ w' = w := by
  cases mA (by omega)
  have m1 := mv x hx
  have x1 : (0 : Int) ≤ (x : Int) := by omega
  have x2 : (x : Int) < (n : Int) := by omega
  cases hm : M x with
  | false =>
    rw [hm] at m1
    have h0 : num M x = 0 := by simp [num, hm]
    rw [h0]
    clear mv hi
    go_enter Try.func37, Try.ntmps37
    go_wp2
    go_ret
    exact ⟨rfl, rfl⟩
  | true =>
    rw [hm] at m1
    have h0 : num M x = cnt M x := by simp [num, hm]
    rw [h0]
    have hc := cnt_lt hx hm
    obtain rfl := hi.at_ (by omega)
    have c1 := hi.get x hx hm
    generalize cnt M x = k at *
    generalize cnt M n = m at *
    have d1 : (0 : Int) ≤ (k : Int) := by omega
    have d2 : (k : Int) < (m : Int) := by omega
    clear mv
    go_enter Try.func37, Try.ntmps37
    go_wp2
    go_ret
    simp
end Go.Proofs.Qxb6605479a
