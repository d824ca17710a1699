/-
  THE FUNCTIONS THAT ONLY READ: the bounds on sizes, the ranges, equality of two slices of bools.
-/
import Derived.Test.Qxb6605479aViews
import Derived.Deep.QuietTactic
import Derived.BigQuiet
namespace Go.Proofs.Qxb6605479a
open Go.RowKit

set_option maxHeartbeats 400000 in
theorem caBytes (w : World) (a : Option Addr) (b o cap : Nat) (c : CA) (hA : 0 < c.n → a = some ⟨b, o, none⟩) (hv : CAv w b o c) (hn : c.n ≤ 9223372036854775807) (hp : ∀ i, i < c.n → c.pl i ≤ 9223372036854775807) :
    Calls Try.prog 10 #[.slice a c.n cap] w fun e w' => (∃ N : Nat, e = .returned (.int .i64 N) ∧ N ≤ 1048577 ∧ (N ≤ 1048576 → N = 40 * c.n + 16 * sumTo c.pl c.n)) ∧ w = w' := by
  by_cases h1 : c.n ≤ 65536
  · have d1 : decide ((65536 : Int) < (c.n : Int)) = false := by simp; omega
    by_cases h2 : 40 * c.n ≤ 1048576
    · have d2 : decide ((1048576 : Int) < 40 * (c.n : Int)) = false := by simp; omega
      go_enter Try.func10, Try.ntmps10
      go_wp2
      go_loop [3, 4] (fun s i => ∃ k : Nat, k ≤ c.n ∧ i = .int .i64 k ∧ s = .int .i64 ((40 * c.n + 16 * sumTo c.pl k : Nat) : Int) ∧ 40 * c.n + 16 * sumTo c.pl k ≤ 1048576) (fun _ i => c.n - (intOf i).toNat)
      case atStart => exact ⟨0, Nat.zero_le _, rfl, by simp [sumTo], by simpa [sumTo] using h2⟩
      case round =>
        obtain ⟨k, hk, rfl, rfl, hs⟩ := hrel
        by_cases hlt : k < c.n
        · obtain rfl := hA (by omega)
          have hc := hv.pre k hlt
          have hpk := hp k hlt
          have hsum : Hid (sumTo c.pl (k + 1) = sumTo c.pl k + c.pl k) := rfl
          clear hv hp
          by_cases g1 : c.pl k ≤ 1048576
          · by_cases g2 : 40 * c.n + 16 * sumTo c.pl k + 16 * c.pl k ≤ 1048576
            · go_wp2
              go_round
              case rel => exact ⟨k + 1, by omega, by go_num, by rw [hsum.out]; go_num, by rw [hsum.out]; omega⟩
              case measure => simp [intOf]; omega
            · go_wp2
              go_ret
              exact ⟨⟨1048577, rfl, by omega, fun h => by omega⟩, rfl⟩
          · go_wp2
            go_ret
            exact ⟨⟨1048577, rfl, by omega, fun h => by omega⟩, rfl⟩
        · obtain rfl : k = c.n := by omega
          go_wp2
          go_ret
          exact ⟨⟨40 * c.n + 16 * sumTo c.pl c.n, rfl, by omega, fun _ => rfl⟩, rfl⟩
    · go_enter Try.func10, Try.ntmps10
      go_wp2
      go_ret
      exact ⟨⟨1048577, rfl, by omega, fun h => by omega⟩, rfl⟩
  · go_enter Try.func10, Try.ntmps10
    go_wp2
    go_ret
    exact ⟨⟨1048577, rfl, by omega, fun h => by omega⟩, rfl⟩

set_option maxHeartbeats 400000 in
theorem inRange (x n : Int) (w : World) : Calls Try.prog 22 #[.int .i64 x, .int .i64 n] w fun e w' => e = .returned (.bool (decide (0 ≤ x ∧ x < n))) ∧ w = w' := by
  by_cases h1 : 0 ≤ x
  · have d1 : decide (0 ≤ x) = true := by simp; omega
    go_enter Try.func22, Try.ntmps22
    go_wp2
    go_ret
    exact ⟨congrArg (fun b => Ending.returned (.bool b)) (by simp [h1]), rfl⟩
  · have d1 : decide (0 ≤ x) = false := by simp; omega
    go_enter Try.func22, Try.ntmps22
    go_wp2
    go_ret
    exact ⟨congrArg (fun b => Ending.returned (.bool b)) (by simp), rfl⟩

/-- x is a place below n. -/
def inB (x n : Int) : Bool := decide (0 ≤ x ∧ x < n)
theorem inB_iff (x n : Int) : inB x n = true ↔ 0 ≤ x ∧ x < n := by simp [inB]

theorem inRange' (x n : Int) (w : World) : Calls Try.prog 22 #[.int .i64 x, .int .i64 n] w fun e w' => e = .returned (.bool (inB x n)) ∧ w = w' := inRange x n w

/-- Every role that the rules name is a place below n. -/
def CAin (c : CA) (n : Int) : Prop := ∀ i, i < c.n → (0 ≤ c.ad i ∧ c.ad i < n) ∧ (0 ≤ c.ro i ∧ c.ro i < n) ∧ ∀ j, j < c.pl i → 0 ≤ c.lr i j ∧ c.lr i j < n

/-- What zzCAInRange says. -/
def SaysIn (c : CA) (n : Int) (e : Ending) : Prop := ∃ r : Bool, e = .returned (.bool r) ∧ (r = true → CAin c n)
theorem SaysIn.no (c : CA) (n : Int) : SaysIn c n (.returned (.bool false)) := ⟨false, rfl, fun h => by cases h⟩
theorem SaysIn.yes {c : CA} {n : Int} (h : CAin c n) : SaysIn c n (.returned (.bool true)) := ⟨true, rfl, fun _ => h⟩

set_option maxHeartbeats 1000000 in
theorem caInRange (w : World) (a : Option Addr) (b o cap : Nat) (c : CA) (n : Int) (hA : 0 < c.n → a = some ⟨b, o, none⟩) (hv : CAv w b o c) (hn : c.n ≤ 65536) (hp : ∀ i, i < c.n → c.pl i ≤ 1048576) :
    Calls Try.prog 11 #[.slice a c.n cap, .int .i64 n] w fun e w' => SaysIn c n e ∧ w = w' := by
  go_enter Try.func11, Try.ntmps11
  go_wp2
  go_loop [5] (fun i => ∃ k : Nat, k ≤ c.n ∧ i = .int .i64 k ∧ ∀ i, i < k → (0 ≤ c.ad i ∧ c.ad i < n) ∧ (0 ≤ c.ro i ∧ c.ro i < n) ∧ ∀ j, j < c.pl i → 0 ≤ c.lr i j ∧ c.lr i j < n) (fun i => c.n - (intOf i).toNat)
  case atStart => exact ⟨0, Nat.zero_le _, rfl, fun i hi => by omega⟩
  case round =>
    obtain ⟨k, hk, rfl, hin⟩ := hrel
    have HIN := hid hin
    clear hin
    by_cases hlt : k < c.n
    · obtain rfl := hA (by omega)
      have c1 := hv.ad k hlt
      have c2 := hv.pre k hlt
      have c3 := hv.ro k hlt
      have hpk := hp k hlt
      by_cases g1 : inB (c.ad k) n = true
      · by_cases g2 : inB (c.ro k) n = true
        · have hat := hv.at_ k hlt
          have hl := hv.lr k hlt
          have HL := hid hl
          clear hv hl
          go_wp2_with (go_at_call 22; refine (inRange' _ _ _).mono ?_; rintro e w' ⟨rfl, rfl⟩)
          go_loop [6] (fun i => ∃ j : Nat, j ≤ c.pl k ∧ i = .int .i64 j ∧ ∀ i, i < j → 0 ≤ c.lr k i ∧ c.lr k i < n) (fun i => c.pl k - (intOf i).toNat)
          case atStart => exact ⟨0, Nat.zero_le _, rfl, fun i hi => by omega⟩
          case round =>
            obtain ⟨j, hj, rfl, hjn⟩ := hrel
            have HJN := hid hjn
            clear hjn
            by_cases hjt : j < c.pl k
            · have hpa := hat (by omega)
              rw [hpa] at c2
              have c4 := HL.out j hjt
              by_cases g3 : inB (c.lr k j) n = true
              · go_wp2_with (go_at_call 22; refine (inRange' _ _ _).mono ?_; rintro e w' ⟨rfl, rfl⟩)
                go_round
                case rel => exact ⟨j + 1, by omega, by go_num, fun i hi => by
                  by_cases e : i = j
                  · subst e; exact (inB_iff _ _).1 g3
                  · exact HJN.out i (by omega)⟩
                case measure => simp [intOf]; omega
              · have g3' : inB (c.lr k j) n = false := by simpa using g3
                go_wp2_with (go_at_call 22; refine (inRange' _ _ _).mono ?_; rintro e w' ⟨rfl, rfl⟩)
                go_ret
                exact ⟨SaysIn.no _ _, rfl⟩
            · obtain rfl : j = c.pl k := by omega
              go_wp2
              go_round
              case rel => exact ⟨k + 1, by omega, by go_num, fun i hi => by
                by_cases e : i = k
                · subst e; exact ⟨(inB_iff _ _).1 g1, (inB_iff _ _).1 g2, HJN.out⟩
                · exact HIN.out i (by omega)⟩
              case measure => simp [intOf]; omega
        · have g2' : inB (c.ro k) n = false := by simpa using g2
          clear hv
          go_wp2_with (go_at_call 22; refine (inRange' _ _ _).mono ?_; rintro e w' ⟨rfl, rfl⟩)
          go_ret
          exact ⟨SaysIn.no _ _, rfl⟩
      · have g1' : inB (c.ad k) n = false := by simpa using g1
        clear hv
        go_wp2_with (go_at_call 22; refine (inRange' _ _ _).mono ?_; rintro e w' ⟨rfl, rfl⟩)
        go_ret
        exact ⟨SaysIn.no _ _, rfl⟩
    · obtain rfl : k = c.n := by omega
      clear hv
      go_wp2
      go_ret
      exact ⟨SaysIn.yes HIN.out, rfl⟩

/-- It answers yes or no. -/
def SaysB (e : Ending) : Prop := ∃ r : Bool, e = .returned (.bool r)
theorem SaysB.mk (r : Bool) : SaysB (.returned (.bool r)) := ⟨r, rfl⟩

set_option maxHeartbeats 1000000 in
theorem bytes9 (w : World) (a : Option Addr) (b o cap : Nat) (c : CA) (a1 a2 : Option Addr) (n1 c1 n2 c2 : Nat) (hA : 0 < c.n → a = some ⟨b, o, none⟩) (hv : CAv w b o c) (hn : c.n ≤ 9223372036854775807) (hp : ∀ i, i < c.n → c.pl i ≤ 9223372036854775807) (hn1 : n1 ≤ 9223372036854775807) (hn2 : n2 ≤ 9223372036854775807) :
    Calls Try.prog 9 #[.slice a c.n cap, .slice a1 n1 c1, .slice a2 n2 c2] w fun e w' => SaysB e ∧ w = w' := by
  by_cases h1 : c.n ≤ 1048576
  · have d1 : decide ((1048576 : Int) < (c.n : Int)) = false := by simp; omega
    go_enter Try.func9, Try.ntmps9
    go_wp2
    go_loop [7, 8] (fun s i => ∃ k t : Nat, k ≤ c.n ∧ i = .int .i64 k ∧ s = .int .i64 t ∧ t ≤ 1048576) (fun _ i => c.n - (intOf i).toNat)
    case atStart => exact ⟨0, c.n, Nat.zero_le _, rfl, rfl, h1⟩
    case round =>
      obtain ⟨k, t, hk, rfl, rfl, ht⟩ := hrel
      by_cases hlt : k < c.n
      · obtain rfl := hA (by omega)
        have hc := hv.pre k hlt
        have hpk := hp k hlt
        clear hv hp
        by_cases g1 : c.pl k ≤ 1048576
        · by_cases g2 : t + c.pl k ≤ 1048576
          · go_wp2
            go_round
            case rel => exact ⟨k + 1, t + c.pl k, by omega, by go_num, by go_num, g2⟩
            case measure => simp [intOf]; omega
          · go_wp2
            go_ret
            exact ⟨SaysB.mk _, rfl⟩
        · go_wp2
          go_ret
          exact ⟨SaysB.mk _, rfl⟩
      · clear hv hp
        go_wp2
        all_goals
          go_ret
          exact ⟨SaysB.mk _, rfl⟩
  · go_enter Try.func9, Try.ntmps9
    go_wp2
    go_ret
    exact ⟨SaysB.mk _, rfl⟩

set_option maxHeartbeats 1000000 in
theorem bytes18 (w : World) (a : Option Addr) (b o cap : Nat) (c : CA) (a1 a2 : Option Addr) (n1 c1 n2 c2 : Nat) (hA : 0 < c.n → a = some ⟨b, o, none⟩) (hv : CAv w b o c) (hn : c.n ≤ 9223372036854775807) (hp : ∀ i, i < c.n → c.pl i ≤ 9223372036854775807) (hn1 : n1 ≤ 9223372036854775807) (hn2 : n2 ≤ 9223372036854775807) :
    Calls Try.prog 18 #[.slice a c.n cap, .slice a1 n1 c1, .slice a2 n2 c2] w fun e w' => SaysB e ∧ w = w' := by
  by_cases h1 : c.n ≤ 1048576
  · have d1 : decide ((1048576 : Int) < (c.n : Int)) = false := by simp; omega
    go_enter Try.func18, Try.ntmps18
    go_wp2
    go_loop [7, 8] (fun s i => ∃ k t : Nat, k ≤ c.n ∧ i = .int .i64 k ∧ s = .int .i64 t ∧ t ≤ 1048576) (fun _ i => c.n - (intOf i).toNat)
    case atStart => exact ⟨0, c.n, Nat.zero_le _, rfl, rfl, h1⟩
    case round =>
      obtain ⟨k, t, hk, rfl, rfl, ht⟩ := hrel
      by_cases hlt : k < c.n
      · obtain rfl := hA (by omega)
        have hc := hv.pre k hlt
        have hpk := hp k hlt
        clear hv hp
        by_cases g1 : c.pl k ≤ 1048576
        · by_cases g2 : t + c.pl k ≤ 1048576
          · go_wp2
            go_round
            case rel => exact ⟨k + 1, t + c.pl k, by omega, by go_num, by go_num, g2⟩
            case measure => simp [intOf]; omega
          · go_wp2
            go_ret
            exact ⟨SaysB.mk _, rfl⟩
        · go_wp2
          go_ret
          exact ⟨SaysB.mk _, rfl⟩
      · clear hv hp
        go_wp2
        all_goals
          go_ret
          exact ⟨SaysB.mk _, rfl⟩
  · go_enter Try.func18, Try.ntmps18
    go_wp2
    go_ret
    exact ⟨SaysB.mk _, rfl⟩

/-- Two slices of bools, told apart or not. -/
def eqB (n : Nat) (A B : Nat → Bool) : Bool := (List.range n).all fun i => A i == B i
theorem eqB_iff (n : Nat) (A B : Nat → Bool) : eqB n A B = true ↔ ∀ i, i < n → A i = B i := by simp [eqB]

set_option maxHeartbeats 400000 in
/-- Two slices of bools that are the same. -/
theorem sameBools (w : World) (a1 a2 : Option Addr) (b1 o1 b2 o2 n c1 c2 : Nat) (A B : Nat → Bool) (hA1 : 0 < n → a1 = some ⟨b1, o1, none⟩) (hA2 : 0 < n → a2 = some ⟨b2, o2, none⟩) (hv1 : Bv w b1 o1 n A) (hv2 : Bv w b2 o2 n B) (hn : n ≤ 65536) (heq : ∀ i, i < n → A i = B i) :
    Calls Try.prog 17 #[.slice a1 n c1, .slice a2 n c2] w fun e w' => e = .returned (.bool true) ∧ ∃ m, w' = w.drewN m := by
  have HEQ := hid heq
  clear heq
  go_enter Try.func17, Try.ntmps17
  go_wp2
  go_loopw [5] (fun i wr => ∃ k : Nat, k ≤ n ∧ i = .int .i64 k ∧ ∃ m, wr = w.drewN m) (fun i _ => n - (intOf i).toNat)
  case atStart => exact ⟨0, Nat.zero_le _, rfl, 0, rfl⟩
  case round =>
    obtain ⟨k, hk, rfl, m, rfl⟩ := hrel
    by_cases hlt : k < n
    · obtain rfl := hA1 (by omega)
      obtain rfl := hA2 (by omega)
      have e1 := hv1 k hlt
      have e2 := hv2 k hlt
      rw [← HEQ.out k hlt] at e2
      clear hv1 hv2
      go_wp2_with fail
      go_quiet (fail)
      go_wp2
      go_roundw
      case rel => exact ⟨k + 1, by omega, by go_num, _, rfl⟩
      case measure => simp [intOf]; omega
    · clear hv1 hv2
      go_wp2
      go_ret
      exact ⟨rfl, m, rfl⟩
end Go.Proofs.Qxb6605479a
