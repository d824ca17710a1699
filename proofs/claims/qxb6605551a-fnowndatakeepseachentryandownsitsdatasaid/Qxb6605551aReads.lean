/-
  THE FUNCTIONS THAT ONLY READ: the bound on sizes, equality of two slices of bytes, an entry's mark.
-/
import Derived.Test.Qxb6605551aViews
namespace Go.Proofs.Qxb6605551a
open Go.RowKit

/-- It answers yes or no. -/
def SaysB (e : Ending) : Prop := ∃ r : Bool, e = .returned (.bool r)
theorem SaysB.mk (r : Bool) : SaysB (.returned (.bool r)) := ⟨r, rfl⟩

set_option maxHeartbeats 2000000 in
theorem bytes14 (w : World) (a0 a1 a2 a3 a : Option Addr) (n0 c0 n1 c1 n2 c2 n3 c3 b o cap : Nat) (c : DD) (hA : 0 < c.n → a = some ⟨b, o, none⟩) (hv : DDv w b o c) (hn : c.n ≤ 9223372036854775807) (hp : ∀ i, i < c.n → c.dl i ≤ 9223372036854775807) (h0 : n0 ≤ 9223372036854775807) (h1 : n1 ≤ 9223372036854775807) (h2 : n2 ≤ 9223372036854775807) (h3 : n3 ≤ 9223372036854775807) :
    Calls Try.prog 14 #[.slice a0 n0 c0, .slice a1 n1 c1, .slice a2 n2 c2, .slice a3 n3 c3, .slice a c.n cap] w fun e w' => SaysB e ∧ w = w' := by
  have HA := hid hA
  have HV := hid hv
  have HP := hid hp
  clear hA hv hp
  go_enter Try.func14, Try.ntmps14
  by_cases g : n0 + n1 + n2 + n3 + c.n ≤ 1048576
  · go_wp2
    go_loop [11, 12] (fun s i => ∃ k t : Nat, k ≤ c.n ∧ i = .int .i64 k ∧ s = .int .i64 t ∧ t ≤ 1048576) (fun _ i => c.n - (intOf i).toNat)
    case atStart => exact ⟨0, n0 + n1 + n2 + n3 + c.n, Nat.zero_le _, rfl, by go_num, g⟩
    case round =>
      obtain ⟨k, t, hk, rfl, rfl, ht⟩ := hrel
      by_cases hlt : k < c.n
      · obtain rfl := HA.out (by omega)
        have hc := HV.out.head k hlt
        have hpk := HP.out k hlt
        by_cases g1 : c.dl k ≤ 1048576
        · by_cases g2 : t + c.dl k ≤ 1048576
          · go_wp2
            go_round
            case rel => exact ⟨k + 1, t + c.dl k, by omega, by go_num, by go_num, g2⟩
            case measure => simp [intOf]; omega
          · go_wp2
            go_ret
            exact ⟨SaysB.mk _, rfl⟩
        · go_wp2
          go_ret
          exact ⟨SaysB.mk _, rfl⟩
      · go_wp2
        go_ret
        exact ⟨SaysB.mk _, rfl⟩
  · by_cases s_n0 : n0 ≤ 1048576
    · by_cases t_n0 : n0 ≤ 1048576
      · by_cases s_n1 : n1 ≤ 1048576
        · by_cases t_n1 : n0 + n1 ≤ 1048576
          · by_cases s_n2 : n2 ≤ 1048576
            · by_cases t_n2 : n0 + n1 + n2 ≤ 1048576
              · by_cases s_n3 : n3 ≤ 1048576
                · by_cases t_n3 : n0 + n1 + n2 + n3 ≤ 1048576
                  · by_cases s_cn : c.n ≤ 1048576
                    · by_cases t_cn : n0 + n1 + n2 + n3 + c.n ≤ 1048576
                      · omega
                      · go_wp2
                        go_ret
                        exact ⟨SaysB.mk _, rfl⟩
                    · go_wp2
                      go_ret
                      exact ⟨SaysB.mk _, rfl⟩
                  · go_wp2
                    go_ret
                    exact ⟨SaysB.mk _, rfl⟩
                · go_wp2
                  go_ret
                  exact ⟨SaysB.mk _, rfl⟩
              · go_wp2
                go_ret
                exact ⟨SaysB.mk _, rfl⟩
            · go_wp2
              go_ret
              exact ⟨SaysB.mk _, rfl⟩
          · go_wp2
            go_ret
            exact ⟨SaysB.mk _, rfl⟩
        · go_wp2
          go_ret
          exact ⟨SaysB.mk _, rfl⟩
      · exact absurd s_n0 t_n0
    · go_wp2
      go_ret
      exact ⟨SaysB.mk _, rfl⟩

set_option maxHeartbeats 400000 in
/-- Two slices of bytes that are the same. -/
theorem sameBytes (w : World) (a1 a2 : Option Addr) (b1 o1 b2 o2 n c1 c2 : Nat) (A B : Nat → Int) (hA1 : 0 < n → a1 = some ⟨b1, o1, none⟩) (hA2 : 0 < n → a2 = some ⟨b2, o2, none⟩) (hv1 : Iv w .u8 b1 o1 n A) (hv2 : Iv w .u8 b2 o2 n B) (hn : n ≤ 1048576) (heq : ∀ i, i < n → A i = B i) :
    Calls Try.prog 18 #[.slice a1 n c1, .slice a2 n c2] w fun e w' => e = .returned (.bool true) ∧ ∃ m, w' = w.drewN m := by
  have HEQ := hid heq
  clear heq
  go_enter Try.func18, Try.ntmps18
  go_wp2
  go_loopw [5] (fun i wr => ∃ k : Nat, k ≤ n ∧ i = .int .i64 k ∧ ∃ m, wr = w.drewN m) (fun i _ => n - (intOf i).toNat)
  case atStart => exact ⟨0, Nat.zero_le _, rfl, 0, rfl⟩
  case round =>
    obtain ⟨k, hk, rfl, m, rfl⟩ := hrel
    by_cases hlt : k < n
    · obtain rfl := hA1 (by omega)
      obtain rfl := hA2 (by omega)
      have e1 := hv1 k hlt
      have e2 := hv2 k hlt
      rw [← HEQ.out k hlt] at e2
      clear hv1 hv2
      go_wp2_with fail
      go_quiet (fail)
      go_wp2
      go_roundw
      case rel => exact ⟨k + 1, by omega, by go_num, _, rfl⟩
      case measure => simp [intOf]; omega
    · clear hv1 hv2
      go_wp2
      go_ret
      exact ⟨rfl, m, rfl⟩

/-- An entry's mark: some byte that i and the pass tell. -/
def markOf (i p : Nat) : Int := if p = 0 then ((i % 256 : Nat) : Int) else ((i / 256 % 256 : Nat) : Int)

set_option maxHeartbeats 400000 in
theorem mark (w : World) (i p : Nat) (_hi : i ≤ 65536) (_hp : p ≤ 2) : Calls Try.prog 19 #[.int .i64 i, .int .i64 p] w fun e w' => e = .returned (.int .u8 (markOf i p)) ∧ w = w' := by
  by_cases h : p = 0
  · subst h
    go_enter Try.func19, Try.ntmps19
    go_wp2
    go_ret
    refine ⟨?_, rfl⟩
    simp [markOf]
  · have d : decide ((p : Int) = 0) = false := by simp; omega
    go_enter Try.func19, Try.ntmps19
    go_wp2
    go_ret
    refine ⟨?_, rfl⟩
    simp [markOf, h]
end Go.Proofs.Qxb6605551a
