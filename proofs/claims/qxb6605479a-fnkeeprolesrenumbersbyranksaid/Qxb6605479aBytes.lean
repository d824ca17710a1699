/-
  zzBytes of the law on keepRoles: some bool, and the world as it was.
-/
import Derived.Test.Qxb6605479aPairs
namespace Go.Proofs.Qxb6605479a
open Go.RowKit

set_option maxHeartbeats 8000000 in
set_option maxRecDepth 4000 in
theorem bytes30 (w : World) (a0 : Option Addr) (b0 o0 n0 k0 : Nat) (S0 : Nat → ByteArray) (a1 : Option Addr) (b1 o1 n1 k1 : Nat) (S1 : Nat → ByteArray) (a2 : Option Addr) (n2 k2 : Nat) (a3 : Option Addr) (n3 k3 : Nat) (a4 : Option Addr) (b4 o4 k4 : Nat) (c4 : CA) (goal : Int) (a6 : Option Addr) (n6 k6 : Nat) (a7 : Option Addr) (b7 o7 k7 : Nat) (c7 : CA) (a8 : Option Addr) (n8 k8 : Nat)
    (hA0 : 0 < n0 → a0 = some ⟨b0, o0, none⟩) (hv0 : Sv w b0 o0 n0 S0) (hp0 : ∀ i, i < n0 → (S0 i).size ≤ 9223372036854775807) (hA1 : 0 < n1 → a1 = some ⟨b1, o1, none⟩) (hv1 : Sv w b1 o1 n1 S1) (hp1 : ∀ i, i < n1 → (S1 i).size ≤ 9223372036854775807)
    (hA4 : 0 < c4.n → a4 = some ⟨b4, o4, none⟩) (hv4 : CAv w b4 o4 c4) (hp4 : ∀ i, i < c4.n → c4.pl i ≤ 9223372036854775807) (hA7 : 0 < c7.n → a7 = some ⟨b7, o7, none⟩) (hv7 : CAv w b7 o7 c7) (hp7 : ∀ i, i < c7.n → c7.pl i ≤ 9223372036854775807)
    (h0 : n0 ≤ 9223372036854775807) (h1 : n1 ≤ 9223372036854775807) (h2 : n2 ≤ 9223372036854775807) (h3 : n3 ≤ 9223372036854775807) (h4 : c4.n ≤ 9223372036854775807) (h6 : n6 ≤ 9223372036854775807) (h7 : c7.n ≤ 9223372036854775807) (h8 : n8 ≤ 9223372036854775807) :
    Calls Try.prog 30 #[.slice a0 n0 k0, .slice a1 n1 k1, .slice a2 n2 k2, .slice a3 n3 k3, .slice a4 c4.n k4, .int .i64 goal, .slice a6 n6 k6, .slice a7 c7.n k7, .slice a8 n8 k8] w fun e w' => SaysB e ∧ w = w' := by
  by_cases p0 : n0 ≤ 1048576
  · have d0 : decide ((1048576 : Int) < (n0 : Int)) = false := by simp; omega
    go_enter Try.func30, Try.ntmps30
    go_wp2
    go_loop [19, 20] (fun s i => ∃ k t : Nat, k ≤ n0 ∧ i = .int .i64 k ∧ s = .int .i64 t ∧ t ≤ 1048576) (fun _ i => n0 - (intOf i).toNat)
    case atStart => exact ⟨0, n0, Nat.zero_le _, rfl, by go_num, by omega⟩
    case round =>
      obtain ⟨k, t, hk, rfl, rfl, ht⟩ := hrel
      by_cases hlt : k < n0
      · obtain rfl := hA0 (by omega)
        have hc := hv0 k hlt
        have hpk := hp0 k hlt
        by_cases g1 : (S0 k).size ≤ 1048576
        · by_cases g2 : t + (S0 k).size ≤ 1048576
          · go_wp2
            go_round
            case rel => exact ⟨k + 1, t + (S0 k).size, by omega, by go_num, by go_num, g2⟩
            case measure => simp [intOf]; omega
          · go_wp2
            go_ret
            exact ⟨SaysB.mk _, rfl⟩
        · go_wp2
          go_ret
          exact ⟨SaysB.mk _, rfl⟩
      · obtain rfl : k = n0 := by omega
        obtain ⟨t20, ht20⟩ : ∃ x, x = t := ⟨_, rfl⟩
        subst ht20
        by_cases p1 : n1 ≤ 1048576
        · have d1 : decide ((1048576 : Int) < ((n1 : Nat) : Int)) = false := by simp; omega
          by_cases p2 : t20 + n1 ≤ 1048576
          · have d2 : decide ((1048576 : Int) < (t20 : Int) + (n1 : Int)) = false := by simp; omega
            go_wp2
            go_loop [19, 21] (fun s i => ∃ k t : Nat, k ≤ n1 ∧ i = .int .i64 k ∧ s = .int .i64 t ∧ t ≤ 1048576) (fun _ i => n1 - (intOf i).toNat)
            case atStart => exact ⟨0, t20 + n1, Nat.zero_le _, rfl, by go_num, by omega⟩
            case round =>
              obtain ⟨k, t, hk, rfl, rfl, ht⟩ := hrel
              by_cases hlt : k < n1
              · obtain rfl := hA1 (by omega)
                have hc := hv1 k hlt
                have hpk := hp1 k hlt
                by_cases g1 : (S1 k).size ≤ 1048576
                · by_cases g2 : t + (S1 k).size ≤ 1048576
                  · go_wp2
                    go_round
                    case rel => exact ⟨k + 1, t + (S1 k).size, by omega, by go_num, by go_num, g2⟩
                    case measure => simp [intOf]; omega
                  · go_wp2
                    go_ret
                    exact ⟨SaysB.mk _, rfl⟩
                · go_wp2
                  go_ret
                  exact ⟨SaysB.mk _, rfl⟩
              · obtain rfl : k = n1 := by omega
                obtain ⟨t21, ht21⟩ : ∃ x, x = t := ⟨_, rfl⟩
                subst ht21
                by_cases p3 : n2 ≤ 1048576
                · have d3 : decide ((1048576 : Int) < ((n2 : Nat) : Int)) = false := by simp; omega
                  by_cases p4 : t21 + n2 ≤ 1048576
                  · have d4 : decide ((1048576 : Int) < (t21 : Int) + (n2 : Int)) = false := by simp; omega
                    by_cases p5 : n3 ≤ 1048576
                    · have d5 : decide ((1048576 : Int) < ((n3 : Nat) : Int)) = false := by simp; omega
                      by_cases p6 : t21 + n2 + n3 ≤ 1048576
                      · have d6 : decide ((1048576 : Int) < (t21 : Int) + (n2 : Int) + (n3 : Int)) = false := by simp; omega
                        by_cases p7 : c4.n ≤ 1048576
                        · have d7 : decide ((1048576 : Int) < ((c4.n : Nat) : Int)) = false := by simp; omega
                          by_cases p8 : t21 + n2 + n3 + c4.n ≤ 1048576
                          · have d8 : decide ((1048576 : Int) < (t21 : Int) + (n2 : Int) + (n3 : Int) + (c4.n : Int)) = false := by simp; omega
                            go_wp2
                            go_loop [19, 22] (fun s i => ∃ k t : Nat, k ≤ c4.n ∧ i = .int .i64 k ∧ s = .int .i64 t ∧ t ≤ 1048576) (fun _ i => c4.n - (intOf i).toNat)
                            case atStart => exact ⟨0, t21 + n2 + n3 + c4.n, Nat.zero_le _, rfl, by go_num, by omega⟩
                            case round =>
                              obtain ⟨k, t, hk, rfl, rfl, ht⟩ := hrel
                              by_cases hlt : k < c4.n
                              · obtain rfl := hA4 (by omega)
                                have hc := hv4.pre k hlt
                                have hpk := hp4 k hlt
                                by_cases g1 : c4.pl k ≤ 1048576
                                · by_cases g2 : t + c4.pl k ≤ 1048576
                                  · go_wp2
                                    go_round
                                    case rel => exact ⟨k + 1, t + c4.pl k, by omega, by go_num, by go_num, g2⟩
                                    case measure => simp [intOf]; omega
                                  · go_wp2
                                    go_ret
                                    exact ⟨SaysB.mk _, rfl⟩
                                · go_wp2
                                  go_ret
                                  exact ⟨SaysB.mk _, rfl⟩
                              · obtain rfl : k = c4.n := by omega
                                obtain ⟨t22, ht22⟩ : ∃ x, x = t := ⟨_, rfl⟩
                                subst ht22
                                by_cases p9 : n6 ≤ 1048576
                                · have d9 : decide ((1048576 : Int) < ((n6 : Nat) : Int)) = false := by simp; omega
                                  by_cases p10 : t22 + n6 ≤ 1048576
                                  · have d10 : decide ((1048576 : Int) < (t22 : Int) + (n6 : Int)) = false := by simp; omega
                                    by_cases p11 : c7.n ≤ 1048576
                                    · have d11 : decide ((1048576 : Int) < ((c7.n : Nat) : Int)) = false := by simp; omega
                                      by_cases p12 : t22 + n6 + c7.n ≤ 1048576
                                      · have d12 : decide ((1048576 : Int) < (t22 : Int) + (n6 : Int) + (c7.n : Int)) = false := by simp; omega
                                        go_wp2
                                        go_loop [19, 23] (fun s i => ∃ k t : Nat, k ≤ c7.n ∧ i = .int .i64 k ∧ s = .int .i64 t ∧ t ≤ 1048576) (fun _ i => c7.n - (intOf i).toNat)
                                        case atStart => exact ⟨0, t22 + n6 + c7.n, Nat.zero_le _, rfl, by go_num, by omega⟩
                                        case round =>
                                          obtain ⟨k, t, hk, rfl, rfl, ht⟩ := hrel
                                          by_cases hlt : k < c7.n
                                          · obtain rfl := hA7 (by omega)
                                            have hc := hv7.pre k hlt
                                            have hpk := hp7 k hlt
                                            by_cases g1 : c7.pl k ≤ 1048576
                                            · by_cases g2 : t + c7.pl k ≤ 1048576
                                              · go_wp2
                                                go_round
                                                case rel => exact ⟨k + 1, t + c7.pl k, by omega, by go_num, by go_num, g2⟩
                                                case measure => simp [intOf]; omega
                                              · go_wp2
                                                go_ret
                                                exact ⟨SaysB.mk _, rfl⟩
                                            · go_wp2
                                              go_ret
                                              exact ⟨SaysB.mk _, rfl⟩
                                          · obtain rfl : k = c7.n := by omega
                                            obtain ⟨t23, ht23⟩ : ∃ x, x = t := ⟨_, rfl⟩
                                            subst ht23
                                            by_cases p13 : n8 ≤ 1048576
                                            · have d13 : decide ((1048576 : Int) < ((n8 : Nat) : Int)) = false := by simp; omega
                                              by_cases p14 : t23 + n8 ≤ 1048576
                                              · have d14 : decide ((1048576 : Int) < (t23 : Int) + (n8 : Int)) = false := by simp; omega
                                                go_wp2
                                                go_ret
                                                exact ⟨SaysB.mk _, rfl⟩
                                              · go_wp2
                                                go_ret
                                                exact ⟨SaysB.mk _, rfl⟩
                                            · go_wp2
                                              go_ret
                                              exact ⟨SaysB.mk _, rfl⟩
                                      · go_wp2
                                        go_ret
                                        exact ⟨SaysB.mk _, rfl⟩
                                    · go_wp2
                                      go_ret
                                      exact ⟨SaysB.mk _, rfl⟩
                                  · go_wp2
                                    go_ret
                                    exact ⟨SaysB.mk _, rfl⟩
                                · go_wp2
                                  go_ret
                                  exact ⟨SaysB.mk _, rfl⟩
                          · go_wp2
                            go_ret
                            exact ⟨SaysB.mk _, rfl⟩
                        · go_wp2
                          go_ret
                          exact ⟨SaysB.mk _, rfl⟩
                      · go_wp2
                        go_ret
                        exact ⟨SaysB.mk _, rfl⟩
                    · go_wp2
                      go_ret
                      exact ⟨SaysB.mk _, rfl⟩
                  · go_wp2
                    go_ret
                    exact ⟨SaysB.mk _, rfl⟩
                · go_wp2
                  go_ret
                  exact ⟨SaysB.mk _, rfl⟩
          · go_wp2
            go_ret
            exact ⟨SaysB.mk _, rfl⟩
        · go_wp2
          go_ret
          exact ⟨SaysB.mk _, rfl⟩
  · go_enter Try.func30, Try.ntmps30
    go_wp2
    go_ret
    exact ⟨SaysB.mk _, rfl⟩
end Go.Proofs.Qxb6605479a
