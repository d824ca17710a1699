/-
  THE WALKS of 'FnOrderingStringRoundTrips': Ordering.String, parseOrdering, the law. strconv.Itoa by the shelf's contract.
-/
import Derived.Test.Qxb6605454aDoorRows
import Derived.Test.Qxb6605454aDoorPlain
import Derived.Test.Qxb6605454aDoorShelf
import Derived.WalkKit
import Derived.WalkSpells
import Derived.WalkLawsBesides
import Derived.ProofKit
namespace Go.Proofs.Qxb6605454aDoor
open Go.ChangeShapes Go.WideShapes Go.ChangeAt Go.RowKit

/-- The four names. -/
def nameL (n : Int) : List UInt8 := if n = 1 then [98, 101, 102, 111, 114, 101] else if n = 2 then [97, 102, 116, 101, 114] else if n = 3 then [101, 113, 117, 97, 108] else [99, 111, 110, 99, 117, 114, 114, 101, 110, 116]

set_option maxHeartbeats 400000 in
theorem str_named (n : Int) (h1 : 1 ≤ n) (h4 : n ≤ 4) (w : World) :
    Calls Tryd.prog 4 #[.int .i64 n] w fun e w' => e = .returned (.string ⟨(nameL n).toArray⟩) ∧ w' = w := by
  have : n = 1 ∨ n = 2 ∨ n = 3 ∨ n = 4 := by omega
  rcases this with rfl | rfl | rfl | rfl
  all_goals
    go_enter Tryd.func4, Tryd.ntmps4
    go_wp2
    go_ret
    exact ⟨rfl, rfl⟩

/-- "Ordering(" n ")". -/
def otherB (n : Int) : ByteArray := ⟨#[79, 114, 100, 101, 114, 105, 110, 103, 40]⟩ ++ ⟨(Lib.itoa n).toArray⟩ ++ ⟨#[41]⟩

set_option maxHeartbeats 400000 in
theorem str_other (n : Int) (h0 : -9223372036854775808 ≤ n) (h1 : n ≤ 9223372036854775807) (hn : n ≤ 0 ∨ 5 ≤ n) (w : World) (htab : Lib.TabIs Tryd.prog w tabName .u64 Lib.pow10Tab) :
    Calls Tryd.prog 4 #[.int .i64 n] w fun e w' => e = .returned (.string (otherB n)) ∧ ∃ k os, w' = Sort.grow (w.drewN k) os := by
  have e1 : (n == 1) = false := beq_eq_false_iff_ne.2 (by omega)
  have e2 : (n == 2) = false := beq_eq_false_iff_ne.2 (by omega)
  have e3 : (n == 3) = false := beq_eq_false_iff_ne.2 (by omega)
  have e4 : (n == 4) = false := beq_eq_false_iff_ne.2 (by omega)
  have hl := Lib.itoa_length_le n h0 h1
  go_enter Tryd.func4, Tryd.ntmps4
  go_wp2_with (go_at_call 6; refine (Tryd.strconv_Itoa n h0 h1 _ htab).mono ?_; rintro e w' ⟨rfl, k, os, rfl⟩)
  go_ret
  exact ⟨rfl, k, os, rfl⟩

set_option maxHeartbeats 400000 in
theorem parse_named (n : Int) (h1 : 1 ≤ n) (h4 : n ≤ 4) (w : World) :
    Calls Tryd.prog 5 #[.string ⟨(nameL n).toArray⟩] w fun e w' => e = .returned (.tuple #[.int .i64 n, .bool true]) ∧ w' = w := by
  have : n = 1 ∨ n = 2 ∨ n = 3 ∨ n = 4 := by omega
  rcases this with rfl | rfl | rfl | rfl
  · show Calls Tryd.prog 5 #[.string ⟨#[98, 101, 102, 111, 114, 101]⟩] w _
    go_enter Tryd.func5, Tryd.ntmps5
    go_wp2
    go_ret2
    exact ⟨rfl, rfl⟩
  · show Calls Tryd.prog 5 #[.string ⟨#[97, 102, 116, 101, 114]⟩] w _
    go_enter Tryd.func5, Tryd.ntmps5
    go_wp2
    go_ret2
    exact ⟨rfl, rfl⟩
  · show Calls Tryd.prog 5 #[.string ⟨#[101, 113, 117, 97, 108]⟩] w _
    go_enter Tryd.func5, Tryd.ntmps5
    go_wp2
    go_ret2
    exact ⟨rfl, rfl⟩
  · show Calls Tryd.prog 5 #[.string ⟨#[99, 111, 110, 99, 117, 114, 114, 101, 110, 116]⟩] w _
    go_enter Tryd.func5, Tryd.ntmps5
    go_wp2
    go_ret2
    exact ⟨rfl, rfl⟩

/-- A byte of a string, by its place. -/
theorem idx (s : ByteArray) (z : Int) (i : Nat) (c : Int) (hz : z = i) (hi : i < s.size) (hb : ((s[i]).toNat : Int) = c) (w : World) :
    (Instr.index 9 (.string s) (.int .i64 z)).run Tryd.prog w = .ok (.int .u8 c) w := by
  subst hz
  rw [run_index_string w 9 s .i64 _ Tryd.underlying9, dif_pos ⟨by omega, by omega⟩]
  have e : ((i : Int)).toNat = i := by omega
  simp only [e, hb]

set_option maxHeartbeats 1000000 in
set_option maxRecDepth 100000 in
theorem parse_pos (u : Nat) (hu : u ≤ 9223372036854775807) (x D : ByteArray) (h11 : 11 ≤ x.size) (h31 : x.size ≤ 31)
    (t1 : (x.toList == [98, 101, 102, 111, 114, 101]) = false) (t2 : (x.toList == [97, 102, 116, 101, 114]) = false) (t3 : (x.toList == [101, 113, 117, 97, 108]) = false) (t4 : (x.toList == [99, 111, 110, 99, 117, 114, 114, 101, 110, 116]) = false)
    (t5 : ((x.extract 0 9).toList == [79, 114, 100, 101, 114, 105, 110, 103, 40]) = true)
    (il : ∀ w, (Instr.index 9 (.string x) (.int .i64 ((x.size : Int) - 1))).run Tryd.prog w = .ok (.int .u8 41) w)
    (hsl : ∀ w, (Instr.slice 9 (.string x) (some (.int .i64 9)) (some (.int .i64 ((x.size : Int) - 1))) none).run Tryd.prog w = .ok (.string D) w)
    (hD1 : 1 ≤ D.size) (hD20 : D.size ≤ 20)
    (c0 : Int) (hc0 : 48 ≤ c0) (hc0' : c0 ≤ 57) (i0 : ∀ w, (Instr.index 9 (.string D) (.int .i64 0)).run Tryd.prog w = .ok (.int .u8 c0) w) (hz : 1 < D.size → (c0 == 48) = false)
    (hk : ∀ k, k < D.size → ∃ c : Int, 48 ≤ c ∧ c ≤ 57 ∧ (Plain.pre u (k + 1) : Int) = 10 * (Plain.pre u k : Int) + (c - 48) ∧ ∀ w, (Instr.index 9 (.string D) (.int .i64 (k : Int))).run Tryd.prog w = .ok (.int .u8 c) w)
    (hend : Plain.pre u D.size = u) (hun : u = 0 ∨ 5 ≤ u) (w : World) :
    Calls Tryd.prog 5 #[.string x] w fun e w' => e = .returned (.tuple #[.int .i64 u, .bool true]) ∧ w' = w := by
  have h9 : (9 : Int) ≤ (x.size : Int) := by omega
  have d1 : decide ((x.size : Int) < 11) = false := by simp; omega
  have e1 : (c0 == 45) = false := beq_eq_false_iff_ne.2 (by omega)
  have e2 : ((D.size : Int) == 0) = false := beq_eq_false_iff_ne.2 (by omega)
  have HE : Hid (Plain.pre u D.size = u) := hend
  have HK : Hid _ := hk
  clear hend hk
  by_cases h1 : 1 < D.size
  · have d2 : decide ((1 : Int) < (D.size : Int)) = true := by simp; omega
    have hz' := hz h1
    clear hz
    go_enter Tryd.func5, Tryd.ntmps5
    go_wp2
    go_loop [6, 7] (fun v i => ∃ k : Nat, k ≤ D.size ∧ i = .int .i64 k ∧ v = .int .i64 (Plain.pre u k)) (fun _ i => D.size - (intOf i).toNat)
    case atStart => exact ⟨0, Nat.zero_le _, rfl, by rw [Plain.pre_zero]; rfl⟩
    case round =>
      obtain ⟨k, hk, rfl, rfl⟩ := hrel
      by_cases hlt : k < D.size
      · obtain ⟨c, hc1, hc2, hs, ik⟩ := HK.out k hlt
        have hle := Plain.pre_le u (k + 1)
        have hle' : 10 * (Plain.pre u k : Int) + (c - 48) ≤ 9223372036854775807 := by omega
        have HS : Hid ((Plain.pre u (k + 1) : Int) = 10 * (Plain.pre u k : Int) + (c - 48)) := hs
        clear hs hle HK HE
        generalize Plain.pre u k = p at *
        have f1 : decide (c < 48) = false := by simp; omega
        go_wp2
        go_round
        case rel => exact ⟨k + 1, by omega, by go_num, by rw [HS.out]; go_num⟩
        case measure => simp [intOf]; omega
      · obtain rfl : k = D.size := by omega
        rw [HE.out]
        clear HK HE
        have g1 : ((u : Int) == 1) = false := beq_eq_false_iff_ne.2 (by omega)
        have g2 : ((u : Int) == 2) = false := beq_eq_false_iff_ne.2 (by omega)
        have g3 : ((u : Int) == 3) = false := beq_eq_false_iff_ne.2 (by omega)
        have g4 : ((u : Int) == 4) = false := beq_eq_false_iff_ne.2 (by omega)
        go_wp2
        go_ret2
        exact ⟨rfl, rfl⟩
  · have d2 : decide ((1 : Int) < (D.size : Int)) = false := by simp; omega
    clear hz
    go_enter Tryd.func5, Tryd.ntmps5
    go_wp2
    go_loop [6, 7] (fun v i => ∃ k : Nat, k ≤ D.size ∧ i = .int .i64 k ∧ v = .int .i64 (Plain.pre u k)) (fun _ i => D.size - (intOf i).toNat)
    case atStart => exact ⟨0, Nat.zero_le _, rfl, by rw [Plain.pre_zero]; rfl⟩
    case round =>
      obtain ⟨k, hk, rfl, rfl⟩ := hrel
      by_cases hlt : k < D.size
      · obtain ⟨c, hc1, hc2, hs, ik⟩ := HK.out k hlt
        have hle := Plain.pre_le u (k + 1)
        have hle' : 10 * (Plain.pre u k : Int) + (c - 48) ≤ 9223372036854775807 := by omega
        have HS : Hid ((Plain.pre u (k + 1) : Int) = 10 * (Plain.pre u k : Int) + (c - 48)) := hs
        clear hs hle HK HE
        generalize Plain.pre u k = p at *
        have f1 : decide (c < 48) = false := by simp; omega
        go_wp2
        go_round
        case rel => exact ⟨k + 1, by omega, by go_num, by rw [HS.out]; go_num⟩
        case measure => simp [intOf]; omega
      · obtain rfl : k = D.size := by omega
        rw [HE.out]
        clear HK HE
        have g1 : ((u : Int) == 1) = false := beq_eq_false_iff_ne.2 (by omega)
        have g2 : ((u : Int) == 2) = false := beq_eq_false_iff_ne.2 (by omega)
        have g3 : ((u : Int) == 3) = false := beq_eq_false_iff_ne.2 (by omega)
        have g4 : ((u : Int) == 4) = false := beq_eq_false_iff_ne.2 (by omega)
        go_wp2
        go_ret2
        exact ⟨rfl, rfl⟩

set_option maxHeartbeats 1000000 in
set_option maxRecDepth 100000 in
theorem parse_neg (u : Nat) (hu : u ≤ 9223372036854775808) (x D0 D : ByteArray) (h11 : 11 ≤ x.size) (h31 : x.size ≤ 31)
    (t1 : (x.toList == [98, 101, 102, 111, 114, 101]) = false) (t2 : (x.toList == [97, 102, 116, 101, 114]) = false) (t3 : (x.toList == [101, 113, 117, 97, 108]) = false) (t4 : (x.toList == [99, 111, 110, 99, 117, 114, 114, 101, 110, 116]) = false)
    (t5 : ((x.extract 0 9).toList == [79, 114, 100, 101, 114, 105, 110, 103, 40]) = true)
    (il : ∀ w, (Instr.index 9 (.string x) (.int .i64 ((x.size : Int) - 1))).run Tryd.prog w = .ok (.int .u8 41) w)
    (hsl : ∀ w, (Instr.slice 9 (.string x) (some (.int .i64 9)) (some (.int .i64 ((x.size : Int) - 1))) none).run Tryd.prog w = .ok (.string D0) w)
    (im : ∀ w, (Instr.index 9 (.string D0) (.int .i64 0)).run Tryd.prog w = .ok (.int .u8 45) w)
    (hsm : ∀ w, (Instr.slice 9 (.string D0) (some (.int .i64 1)) none none).run Tryd.prog w = .ok (.string D) w)
    (hD1 : 1 ≤ D.size) (hD20 : D.size ≤ 20)
    (c0 : Int) (i0 : ∀ w, (Instr.index 9 (.string D) (.int .i64 0)).run Tryd.prog w = .ok (.int .u8 c0) w) (hz : 1 < D.size → (c0 == 48) = false)
    (t6 : (D.toList == [48]) = false)
    (hk : ∀ k, k < D.size → ∃ c : Int, 48 ≤ c ∧ c ≤ 57 ∧ (Plain.pre u (k + 1) : Int) = 10 * (Plain.pre u k : Int) + (c - 48) ∧ ∀ w, (Instr.index 9 (.string D) (.int .i64 (k : Int))).run Tryd.prog w = .ok (.int .u8 c) w)
    (hend : Plain.pre u D.size = u) (w : World) :
    Calls Tryd.prog 5 #[.string x] w fun e w' => e = .returned (.tuple #[.int .i64 (-(u : Int)), .bool true]) ∧ w' = w := by
  have h9 : (9 : Int) ≤ (x.size : Int) := by omega
  have d1 : decide ((x.size : Int) < 11) = false := by simp; omega
  have e2 : ((D.size : Int) == 0) = false := beq_eq_false_iff_ne.2 (by omega)
  have HE : Hid (Plain.pre u D.size = u) := hend
  have HK : Hid _ := hk
  clear hend hk
  by_cases h1 : 1 < D.size
  · have d2 : decide ((1 : Int) < (D.size : Int)) = true := by simp; omega
    have hz' := hz h1
    clear hz
    go_enter Tryd.func5, Tryd.ntmps5
    go_wp2
    go_loop [6, 7] (fun v i => ∃ k : Nat, k ≤ D.size ∧ i = .int .i64 k ∧ v = .int .i64 (-(Plain.pre u k : Int))) (fun _ i => D.size - (intOf i).toNat)
    case atStart => exact ⟨0, Nat.zero_le _, rfl, by rw [Plain.pre_zero]; rfl⟩
    case round =>
      obtain ⟨k, hk, rfl, rfl⟩ := hrel
      by_cases hlt : k < D.size
      · obtain ⟨c, hc1, hc2, hs, ik⟩ := HK.out k hlt
        have hle := Plain.pre_le u (k + 1)
        have hle' : 10 * (Plain.pre u k : Int) + (c - 48) ≤ 9223372036854775808 := by omega
        have HS : Hid ((Plain.pre u (k + 1) : Int) = 10 * (Plain.pre u k : Int) + (c - 48)) := hs
        clear hs hle HK HE
        generalize Plain.pre u k = p at *
        have f1 : decide (c < 48) = false := by simp; omega
        go_wp2
        go_round
        case rel => exact ⟨k + 1, by omega, by go_num, by rw [HS.out]; go_num⟩
        case measure => simp [intOf]; omega
      · obtain rfl : k = D.size := by omega
        rw [HE.out]
        clear HK HE
        have g1 : (-(u : Int) == 1) = false := beq_eq_false_iff_ne.2 (by omega)
        have g2 : (-(u : Int) == 2) = false := beq_eq_false_iff_ne.2 (by omega)
        have g3 : (-(u : Int) == 3) = false := beq_eq_false_iff_ne.2 (by omega)
        have g4 : (-(u : Int) == 4) = false := beq_eq_false_iff_ne.2 (by omega)
        go_wp2
        go_ret2
        exact ⟨rfl, rfl⟩
  · have d2 : decide ((1 : Int) < (D.size : Int)) = false := by simp; omega
    clear hz
    go_enter Tryd.func5, Tryd.ntmps5
    go_wp2
    go_loop [6, 7] (fun v i => ∃ k : Nat, k ≤ D.size ∧ i = .int .i64 k ∧ v = .int .i64 (-(Plain.pre u k : Int))) (fun _ i => D.size - (intOf i).toNat)
    case atStart => exact ⟨0, Nat.zero_le _, rfl, by rw [Plain.pre_zero]; rfl⟩
    case round =>
      obtain ⟨k, hk, rfl, rfl⟩ := hrel
      by_cases hlt : k < D.size
      · obtain ⟨c, hc1, hc2, hs, ik⟩ := HK.out k hlt
        have hle := Plain.pre_le u (k + 1)
        have hle' : 10 * (Plain.pre u k : Int) + (c - 48) ≤ 9223372036854775808 := by omega
        have HS : Hid ((Plain.pre u (k + 1) : Int) = 10 * (Plain.pre u k : Int) + (c - 48)) := hs
        clear hs hle HK HE
        generalize Plain.pre u k = p at *
        have f1 : decide (c < 48) = false := by simp; omega
        go_wp2
        go_round
        case rel => exact ⟨k + 1, by omega, by go_num, by rw [HS.out]; go_num⟩
        case measure => simp [intOf]; omega
      · obtain rfl : k = D.size := by omega
        rw [HE.out]
        clear HK HE
        have g1 : (-(u : Int) == 1) = false := beq_eq_false_iff_ne.2 (by omega)
        have g2 : (-(u : Int) == 2) = false := beq_eq_false_iff_ne.2 (by omega)
        have g3 : (-(u : Int) == 3) = false := beq_eq_false_iff_ne.2 (by omega)
        have g4 : (-(u : Int) == 4) = false := beq_eq_false_iff_ne.2 (by omega)
        go_wp2
        go_ret2
        exact ⟨rfl, rfl⟩
end Go.Proofs.Qxb6605454aDoor
