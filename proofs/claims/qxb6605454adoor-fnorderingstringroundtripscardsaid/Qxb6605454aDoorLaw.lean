/-
  THE LAW of 'FnOrderingStringRoundTrips': its walk, out of String's and parseOrdering's.
-/
import Derived.Test.Qxb6605454aDoorWalks
import Derived.Lib.Strings
import Derived.Lib.IndexBytes
namespace Go.Proofs.Qxb6605454aDoor
open Go.ChangeShapes Go.WideShapes Go.ChangeAt Go.RowKit

def pre9 : List UInt8 := [79, 114, 100, 101, 114, 105, 110, 103, 40]

theorem other_list (n : Int) : (otherB n).data.toList = pre9 ++ Lib.itoa n ++ [41] := by
  unfold otherB
  rw [ByteArray.data_append, ByteArray.data_append, Array.toList_append, Array.toList_append]
  rfl

theorem other_size (n : Int) : (otherB n).size = (Lib.itoa n).length + 10 := by
  have h := congrArg List.length (other_list n)
  have e : (otherB n).size = (otherB n).data.toList.length := rfl
  rw [e, h]
  simp [pre9]

theorem ne_short (x : ByteArray) (l : List UInt8) (h : l.length < x.size) : (x.toList == l) = false := by
  rw [beq_eq_false_iff_ne]
  intro e
  rw [Lib.toList_data] at e
  have e2 : x.size = x.data.toList.length := rfl
  rw [e2, e] at h
  omega

/-- A byte of a string that is told as a list. -/
theorem get_list (s : ByteArray) (l : List UInt8) (hs : s.data.toList = l) (i : Nat) (hi : i < s.size) (hi' : i < l.length) : s[i] = l[i] := by
  subst hs
  rfl

theorem bytes_ext (s : ByteArray) (l : List UInt8) (hs : s.data.toList = l) : s = ⟨l.toArray⟩ := by
  subst hs
  rfl

theorem mk_size (l : List UInt8) : (⟨l.toArray⟩ : ByteArray).size = l.length := by
  show l.toArray.size = _
  simp

/-- What parseOrdering meets in a numeral's digits. -/
theorem digits_met (u : Nat) (D : ByteArray) (hD : D.data.toList = Lib.decDigits u) (k : Nat) (hk : k < D.size) :
    ∃ c : Int, 48 ≤ c ∧ c ≤ 57 ∧ (Plain.pre u (k + 1) : Int) = 10 * (Plain.pre u k : Int) + (c - 48) ∧ ∀ w, (Instr.index 9 (.string D) (.int .i64 (k : Int))).run Tryd.prog w = .ok (.int .u8 c) w := by
  have hl : k < (Lib.decDigits u).length := by
    have e : D.size = D.data.toList.length := rfl
    rw [← hD, ← e]
    exact hk
  have hr := Plain.digit_range u k hl
  have hs := Plain.pre_step u k hl
  refine ⟨(((Lib.decDigits u)[k]).toNat : Int), by omega, by omega, by omega, fun w => ?_⟩
  exact idx D k k _ rfl hk (by rw [get_list D _ hD k hk hl]) w

theorem first_met (u : Nat) (D : ByteArray) (hD : D.data.toList = Lib.decDigits u) :
    ∃ c : Int, 48 ≤ c ∧ c ≤ 57 ∧ (∀ w, (Instr.index 9 (.string D) (.int .i64 0)).run Tryd.prog w = .ok (.int .u8 c) w) ∧ (1 < D.size → (c == 48) = false) := by
  have e : D.size = (Lib.decDigits u).length := by
    have e : D.size = D.data.toList.length := rfl
    rw [e, hD]
  have hl : 0 < (Lib.decDigits u).length := Plain.digits_pos u
  have hr := Plain.digit_range u 0 hl
  refine ⟨(((Lib.decDigits u)[0]).toNat : Int), by omega, by omega, fun w => ?_, fun h1 => ?_⟩
  · exact idx D 0 0 _ rfl (by omega) (by rw [get_list D _ hD 0 (by omega) hl]) w
  · have := Plain.first_digit u (by omega)
    rw [beq_eq_false_iff_ne]
    omega

theorem slice_run (s : ByteArray) (lo hi : Int) (D : ByteArray) (l : List UInt8) (h0 : 0 ≤ lo) (h1 : lo ≤ hi) (h2 : hi ≤ s.size) (hl : (s.data.toList.drop lo.toNat).take (hi.toNat - lo.toNat) = l) (hD : D.data.toList = l) (w : World) :
    (Instr.slice 9 (.string s) (some (.int .i64 lo)) (some (.int .i64 hi)) none).run Tryd.prog w = .ok (.string D) w := by
  rw [run_slice_string w 9 s .i64 .i64 lo hi Tryd.underlying9 h0 h1 h2, bytes_ext D l hD, bytes_ext (s.extract lo.toNat hi.toNat) l (by rw [Lib.extract_data, hl])]

theorem slice_from (s : ByteArray) (lo : Int) (D : ByteArray) (l : List UInt8) (h0 : 0 ≤ lo) (h1 : lo ≤ s.size) (hl : s.data.toList.drop lo.toNat = l) (hD : D.data.toList = l) (w : World) :
    (Instr.slice 9 (.string s) (some (.int .i64 lo)) none none).run Tryd.prog w = .ok (.string D) w := by
  rw [run_slice_string_from_if w 9 s .i64 lo Tryd.underlying9, if_pos ⟨h0, h1⟩, bytes_ext D l hD, bytes_ext (s.extract lo.toNat s.size) l (by rw [Lib.extract_to_end, hl])]

theorem parse_other (n : Int) (h0 : -9223372036854775808 ≤ n) (h1 : n ≤ 9223372036854775807) (hn : n ≤ 0 ∨ 5 ≤ n) (w : World) :
    Calls Tryd.prog 5 #[.string (otherB n)] w fun e w' => e = .returned (.tuple #[.int .i64 n, .bool true]) ∧ w' = w := by
  have hsz := other_size n
  have hli := other_list n
  have hle := Lib.itoa_length_le n h0 h1
  have hpos : 1 ≤ (Lib.itoa n).length := by
    unfold Lib.itoa
    split
    · simp
    · exact Plain.digits_pos _
  have t5 : (((otherB n).extract 0 9).toList == [79, 114, 100, 101, 114, 105, 110, 103, 40]) = true := by
    rw [Lib.toList_data, Lib.extract_data, hli, beq_iff_eq]
    simp [pre9]
  have il : ∀ w, (Instr.index 9 (.string (otherB n)) (.int .i64 (((otherB n).size : Int) - 1))).run Tryd.prog w = .ok (.int .u8 41) w := by
    intro w
    refine idx _ _ ((otherB n).size - 1) _ (by omega) (by omega) ?_ w
    rw [get_list _ _ hli _ (by omega) (by simp [pre9]; omega)]
    have e : (otherB n).size - 1 = (pre9 ++ Lib.itoa n).length := by simp [pre9]; omega
    simp only [e, List.getElem_concat_length]
    rfl
  have hsl : ∀ w, (Instr.slice 9 (.string (otherB n)) (some (.int .i64 9)) (some (.int .i64 (((otherB n).size : Int) - 1))) none).run Tryd.prog w = .ok (.string ⟨(Lib.itoa n).toArray⟩) w := by
    intro w
    refine slice_run _ _ _ _ (Lib.itoa n) (by omega) (by omega) (by omega) ?_ (by simp) w
    rw [hli, hsz]
    have e : (((((Lib.itoa n).length + 10 : Nat) : Int) - 1).toNat - (9 : Int).toNat) = (Lib.itoa n).length := by omega
    rw [e]
    have e2 : (9 : Int).toNat = pre9.length := rfl
    rw [e2, List.append_assoc, List.drop_left, List.take_left]
  by_cases hneg : n < 0
  · obtain ⟨u, rfl⟩ : ∃ u : Nat, n = -(u : Int) := ⟨n.natAbs, by omega⟩
    have hit : Lib.itoa (-(u : Int)) = 45 :: Lib.decDigits u := by
      unfold Lib.itoa
      rw [if_pos hneg]
      simp
    have hdl : (Lib.decDigits u).length ≤ 20 := Plain.digits_le u (by omega)
    obtain ⟨c0, hc0, hc0', i0, hz⟩ := first_met u ⟨(Lib.decDigits u).toArray⟩ (by simp)
    refine parse_neg u (by omega) (otherB (-(u : Int))) ⟨(Lib.itoa (-(u : Int))).toArray⟩ ⟨(Lib.decDigits u).toArray⟩ (by omega) (by omega) (ne_short _ _ (by simp; omega)) (ne_short _ _ (by simp; omega)) (ne_short _ _ (by simp; omega)) (ne_short _ _ (by simp; omega)) t5 il hsl ?_ ?_ ?_ ?_ c0 i0 hz ?_ ?_ ?_ w
    · intro w
      refine idx _ _ 0 _ rfl (by rw [mk_size]; omega) ?_ w
      rw [get_list _ (45 :: Lib.decDigits u) (by simp [hit]) 0 (by rw [mk_size]; omega) (by simp)]
      rfl
    · intro w
      exact slice_from _ _ _ (Lib.decDigits u) (by omega) (by rw [mk_size]; omega) (by simp [hit]) (by simp) w
    · rw [mk_size]; exact Plain.digits_pos u
    · rw [mk_size]; exact hdl
    · rw [beq_eq_false_iff_ne]
      intro e
      rw [ByteArray.toList_mk] at e
      have := Plain.zero_only u e
      omega
    · intro k hk
      exact digits_met u _ (by simp) k hk
    · rw [mk_size, Lib.decDigits_length]
      exact Plain.pre_all u
  · obtain ⟨u, rfl⟩ : ∃ u : Nat, n = (u : Int) := ⟨n.toNat, by omega⟩
    have hit : Lib.itoa (u : Int) = Lib.decDigits u := by
      unfold Lib.itoa
      rw [if_neg hneg]
      simp
    have hdl : (Lib.decDigits u).length ≤ 20 := Plain.digits_le u (by omega)
    obtain ⟨c0, hc0, hc0', i0, hz⟩ := first_met u ⟨(Lib.itoa (u : Int)).toArray⟩ (by simp [hit])
    refine parse_pos u (by omega) (otherB (u : Int)) ⟨(Lib.itoa (u : Int)).toArray⟩ (by omega) (by omega) (ne_short _ _ (by simp; omega)) (ne_short _ _ (by simp; omega)) (ne_short _ _ (by simp; omega)) (ne_short _ _ (by simp; omega)) t5 il hsl ?_ ?_ c0 hc0 hc0' i0 hz ?_ ?_ (by omega) w
    · rw [mk_size, hit]; exact Plain.digits_pos u
    · rw [mk_size, hit]; exact hdl
    · intro k hk
      exact digits_met u _ (by simp [hit]) k hk
    · rw [mk_size, hit, Lib.decDigits_length]
      exact Plain.pre_all u

theorem below_grow (w : World) (k : Nat) (os : Array Obj) : Below w.heap.size w (Sort.grow (w.drewN k) os) :=
  ⟨rfl, rfl, rfl, by simp [Sort.grow], fun i hi => by
    show (w.heap ++ os)[i]? = _
    rw [Array.getElem?_append, if_pos hi]⟩

set_option maxHeartbeats 400000 in
theorem law_walk (n : Int) (h0 : -9223372036854775808 ≤ n) (h1 : n ≤ 9223372036854775807) (w : World) (htab : Lib.TabIs Tryd.prog w tabName .u64 Lib.pow10Tab) :
    Calls Tryd.prog 3 #[.int .i64 n] w fun e w' => e = .returned (.bool true) ∧ Below w.heap.size w w' := by
  by_cases hn : 1 ≤ n ∧ n ≤ 4
  · go_enter Tryd.func3, Tryd.ntmps3
    go_wp2_with (first | (go_at_call 4; refine (str_named n hn.1 hn.2 _).mono ?_; rintro e w' ⟨rfl, rfl⟩) | (go_at_call 5; refine (parse_named n hn.1 hn.2 _).mono ?_; rintro e w' ⟨rfl, rfl⟩))
    go_ret
    exact ⟨by simp, Below.refl _ _⟩
  · have hn' : n ≤ 0 ∨ 5 ≤ n := by omega
    clear hn
    go_enter Tryd.func3, Tryd.ntmps3
    go_wp2_with (first | (go_at_call 4; refine (str_other n h0 h1 hn' _ htab).mono ?_; rintro e w' ⟨rfl, k, os, rfl⟩) | (go_at_call 5; refine (parse_other n h0 h1 hn' _).mono ?_; rintro e w' ⟨rfl, rfl⟩))
    go_ret
    exact ⟨by simp, below_grow w k os⟩
end Go.Proofs.Qxb6605454aDoor
