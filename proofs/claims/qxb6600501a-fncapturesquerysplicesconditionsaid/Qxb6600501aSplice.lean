/-
  THE WALK of 'FnCapturesQuerySplicesCondition': one loop that finds the place, tests on cuts of three queries.
-/
import Derived.Test.Qxb6600501aRows
import Derived.Test.Qxb6600501aQuery
import Derived.WalkKit
import Derived.ProofKit
import Derived.WalkSpells
import Derived.WalkLawsBesides
import Derived.Deep.QuietTactic
import Derived.BigQuiet
import Derived.Deep.RegionWith
import Derived.Lib.Strings
import Derived.Lib.IndexBytes
namespace Go.Proofs.Qxb6600501a
open Go.ChangeShapes Go.WideShapes Go.ChangeAt Go.RowKit

theorem grown_drewN (w : World) : ∀ n, Grown w (w.drewN n)
  | 0 => Grown.refl _
  | n + 1 => (grown_drewN w n).drew

theorem idx (s : ByteArray) (z : Int) (i : Nat) (c : Int) (hz : z = i) (hi : i < s.size) (hb : ((s[i]).toNat : Int) = c) (w : World) :
    (Instr.index 9 (.string s) (.int .i64 z)).run Try.prog w = .ok (.int .u8 c) w := by
  subst hz
  rw [run_index_string w 9 s .i64 _ Try.underlying9, dif_pos ⟨by omega, by omega⟩]
  have e : ((i : Int)).toNat = i := by omega
  simp only [e, hb]

theorem get_list (s : ByteArray) (l : List UInt8) (hs : s.data.toList = l) (i : Nat) (hi : i < s.size) (hi' : i < l.length) : s[i] = l[i] := by
  subst hs
  rfl

theorem bytes_ext (s : ByteArray) (l : List UInt8) (hs : s.data.toList = l) : s = ⟨l.toArray⟩ := by
  subst hs
  rfl

theorem slice_run (s : ByteArray) (lo hi : Int) (D : ByteArray) (l : List UInt8) (h0 : 0 ≤ lo) (h1 : lo ≤ hi) (h2 : hi ≤ s.size) (hl : (s.data.toList.drop lo.toNat).take (hi.toNat - lo.toNat) = l) (hD : D.data.toList = l) (w : World) :
    (Instr.slice 9 (.string s) (some (.int .i64 lo)) (some (.int .i64 hi)) none).run Try.prog w = .ok (.string D) w := by
  rw [run_slice_string w 9 s .i64 .i64 lo hi Try.underlying9 h0 h1 h2, bytes_ext D l hD, bytes_ext (s.extract lo.toNat hi.toNat) l (by rw [Lib.extract_data, hl])]

theorem slice_upto (s : ByteArray) (hi : Int) (D : ByteArray) (l : List UInt8) (h0 : 0 ≤ hi) (h2 : hi ≤ s.size) (hl : s.data.toList.take hi.toNat = l) (hD : D.data.toList = l) (w : World) :
    (Instr.slice 9 (.string s) none (some (.int .i64 hi)) none).run Try.prog w = .ok (.string D) w := by
  rw [run_slice_string_h w 9 s Try.underlying9 .i64 hi h0 h2, bytes_ext D l hD, bytes_ext (s.extract 0 hi.toNat) l (by rw [Lib.extract_data]; simpa using hl)]

theorem slice_from (s : ByteArray) (lo : Int) (D : ByteArray) (l : List UInt8) (h0 : 0 ≤ lo) (h1 : lo ≤ s.size) (hl : s.data.toList.drop lo.toNat = l) (hD : D.data.toList = l) (w : World) :
    (Instr.slice 9 (.string s) (some (.int .i64 lo)) none none).run Try.prog w = .ok (.string D) w := by
  rw [run_slice_string_from_if w 9 s .i64 lo Try.underlying9, if_pos ⟨h0, h1⟩, bytes_ext D l hD, bytes_ext (s.extract lo.toNat s.size) l (by rw [Lib.extract_to_end, hl])]

set_option maxHeartbeats 400000 in
/-- hasSuffix says yes. -/
theorem suffix_yes (s p : ByteArray) (h : p.size ≤ s.size) (hs : s.size ≤ 1048576) (hcut : s.data.toList.drop (s.size - p.size) = p.data.toList) (w : World) :
    Calls Try.prog 9 #[.string s, .string p] w fun e w' => e = .returned (.bool true) ∧ w' = w := by
  have hsl : ∀ w, (Instr.slice 9 (.string s) (some (.int .i64 ((s.size : Int) - (p.size : Int)))) none none).run Try.prog w = .ok (.string p) w := fun w =>
    slice_from s _ p _ (by omega) (by omega) (by rw [show ((s.size : Int) - (p.size : Int)).toNat = s.size - p.size by omega]; exact hcut) rfl w
  have d1 : decide ((p.size : Int) ≤ (s.size : Int)) = true := by simp; omega
  clear hcut
  go_enter Try.func9, Try.ntmps9
  go_wp2
  go_ret
  exact ⟨by simp, rfl⟩

set_option maxHeartbeats 400000 in
theorem prefix_yes (s p : ByteArray) (h : p.size ≤ s.size) (hcut : s.data.toList.take p.size = p.data.toList) (w : World) :
    Calls Try.prog 10 #[.string s, .string p] w fun e w' => e = .returned (.bool true) ∧ w' = w := by
  have hsl : ∀ w, (Instr.slice 9 (.string s) none (some (.int .i64 (p.size : Int))) none).run Try.prog w = .ok (.string p) w := fun w =>
    slice_upto s _ p _ (by omega) (by omega) (by rw [show ((p.size : Int)).toNat = p.size by omega]; exact hcut) rfl w
  have d1 : decide ((p.size : Int) ≤ (s.size : Int)) = true := by simp; omega
  clear hcut
  go_enter Try.func10, Try.ntmps10
  go_wp2
  go_ret
  exact ⟨by simp, rfl⟩

def whereB : ByteArray := ⟨#[119, 104, 101, 114, 101, 32]⟩
def selectB : ByteArray := ⟨#[115, 101, 108, 101, 99, 116, 32]⟩
def orderB : ByteArray := ⟨#[111, 114, 100, 101, 114, 32, 98, 121, 32, 109, 46, 105, 100, 44, 32, 116, 46, 112, 111, 115, 105, 116, 105, 111, 110]⟩

theorem head_where : headB.data.toList.drop (headB.size - whereB.size) = whereB.data.toList := by decide +kernel
theorem e_list : (query ⟨#[]⟩).data.toList = headL ++ tailL := by rw [query_list]; simp
theorem z_list : (query ⟨#[0]⟩).data.toList = headL ++ (0 :: tailL) := by rw [query_list]; simp
theorem e_select : (headL ++ tailL).take selectB.size = selectB.data.toList := by decide +kernel
theorem e_order : (headL ++ tailL).drop (319 - orderB.size) = orderB.data.toList := by decide +kernel
theorem where_size : whereB.size = 6 := rfl
theorem select_size : selectB.size = 7 := rfl
theorem order_size : orderB.size = 25 := rfl

/-- The walk over letters: E the query for "", Z the query for a nought, G the query for s; H, T the bytes ahead of and behind the place. -/
theorem core (s E Z G H T : ByteArray) (hs : s.size ≤ 1048576) (hE : E.size = 319) (hZ : Z.size = 320) (hG : G.size = s.size + 319)
    (cE : ∀ w, Calls Try.prog 8 #[.string ⟨#[]⟩] w fun e w' => e = .returned (.string E) ∧ w = w')
    (cZ : ∀ w, Calls Try.prog 8 #[.string ⟨#[0]⟩] w fun e w' => e = .returned (.string Z) ∧ w = w')
    (cG : ∀ w, Calls Try.prog 8 #[.string s] w fun e w' => e = .returned (.string G) ∧ w = w')
    (hsame : ∀ k : Nat, k < 291 → ∃ c : Int, (∀ w, (Instr.index 9 (.string Z) (.int .i64 (k : Int))).run Try.prog w = .ok (.int .u8 c) w) ∧ (∀ w, (Instr.index 9 (.string E) (.int .i64 (k : Int))).run Try.prog w = .ok (.int .u8 c) w))
    (iZ : ∀ w, (Instr.index 9 (.string Z) (.int .i64 291)).run Try.prog w = .ok (.int .u8 0) w)
    (iE : ∀ w, (Instr.index 9 (.string E) (.int .i64 291)).run Try.prog w = .ok (.int .u8 10) w)
    (sZ : ∀ w, (Instr.slice 9 (.string Z) (some (.int .i64 292)) none none).run Try.prog w = .ok (.string T) w)
    (sE : ∀ w, (Instr.slice 9 (.string E) (some (.int .i64 291)) none none).run Try.prog w = .ok (.string T) w)
    (uE : ∀ w, (Instr.slice 9 (.string E) none (some (.int .i64 291)) none).run Try.prog w = .ok (.string H) w)
    (uG : ∀ w, (Instr.slice 9 (.string G) none (some (.int .i64 291)) none).run Try.prog w = .ok (.string H) w)
    (mG : ∀ w, (Instr.slice 9 (.string G) (some (.int .i64 291)) (some (.int .i64 (291 + (s.size : Int)))) none).run Try.prog w = .ok (.string s) w)
    (sG : ∀ w, (Instr.slice 9 (.string G) (some (.int .i64 (291 + (s.size : Int)))) none none).run Try.prog w = .ok (.string T) w)
    (cH : ∀ w, Calls Try.prog 9 #[.string H, .string ⟨#[119, 104, 101, 114, 101, 32]⟩] w fun e w' => e = .returned (.bool true) ∧ w = w')
    (cS : ∀ w, Calls Try.prog 10 #[.string E, .string ⟨#[115, 101, 108, 101, 99, 116, 32]⟩] w fun e w' => e = .returned (.bool true) ∧ w = w')
    (cO : ∀ w, Calls Try.prog 9 #[.string E, .string ⟨#[111, 114, 100, 101, 114, 32, 98, 121, 32, 109, 46, 105, 100, 44, 32, 116, 46, 112, 111, 115, 105, 116, 105, 111, 110]⟩] w fun e w' => e = .returned (.bool true) ∧ w = w')
    (w : World) : Calls Try.prog 3 #[.string s] w fun e w' => e = .returned (.bool true) ∧ ∃ n, w' = w.drewN n := by
  have CE : Hid _ := cE
  have CZ : Hid _ := cZ
  have CG : Hid _ := cG
  have CH : Hid _ := cH
  have CS : Hid _ := cS
  have CO : Hid _ := cO
  have SM : Hid _ := hsame
  clear cE cZ cG cH cS cO hsame
  have d0 : decide ((1048576 : Int) < (s.size : Int)) = false := by simp; omega
  go_enter Try.func3, Try.ntmps3
  go_wp2_with (first | (go_at_call_of 8 (Value.string { data := #[] }); refine (CE.out _).mono ?_; rintro e w' ⟨rfl, rfl⟩) | (go_at_call_of 8 (Value.string { data := #[0] }); refine (CZ.out _).mono ?_; rintro e w' ⟨rfl, rfl⟩) | (go_at_call 7; go_in))
  go_loopw [5] (fun i wr => ∃ k : Nat, k ≤ 291 ∧ i = .int .i64 k ∧ ∃ m, wr = w.drewN m) (fun i _ => 291 - (intOf i).toNat)
  case atStart => exact ⟨0, by omega, rfl, 0, rfl⟩
  case round =>
    obtain ⟨k, hk, rfl, m, rfl⟩ := hrel
    by_cases hlt : k < 291
    · obtain ⟨c, i1, i2⟩ := SM.out k hlt
      have g1 : decide ((k : Int) < 319) = true := by simp; omega
      clear SM CE CZ CG CH CS CO
      go_wp2_with fail
      go_quiet (fail)
      go_wp2
      go_roundw
      case rel => exact ⟨k + 1, by omega, by go_num, _, rfl⟩
      case measure => simp [intOf]; omega
    · obtain rfl : k = 291 := by omega
      clear SM
      rw [show ((291 : Nat) : Int) = 291 from rfl]
      go_wp2_with fail
      go_quiet (fail)
      go_wp2_with fail
      go_quiet (fail)
      go_wp2_with (first | (go_at_call_of 9 H; refine (CH.out _).mono ?_; rintro e w' ⟨rfl, rfl⟩) | (go_at_call_of 9 E; refine (CO.out _).mono ?_; rintro e w' ⟨rfl, rfl⟩) | (go_at_call 10; refine (CS.out _).mono ?_; rintro e w' ⟨rfl, rfl⟩) | (go_at_call 8; refine (CG.out _).mono ?_; rintro e w' ⟨rfl, rfl⟩))
      go_quiet (fail)
      go_wp2
      go_ret
      exact ⟨by simp, _, World.drewN_drewN _ _ _⟩

theorem splice_walk (a0 : ByteArray) (w0 : a0.size ≤ maxLen) (w : World) :
    Calls Try.prog 3 #[.string a0] w fun e w' => e = .returned (.bool true) ∧ ∃ n, w' = w.drewN n := by
  unfold maxLen at w0
  by_cases hs : a0.size ≤ 1048576
  · have hl := query_list a0
    have es : (query ⟨#[]⟩).size = 319 := by rw [query_size]; rfl
    have zs : (query ⟨#[0]⟩).size = 320 := by rw [query_size]; rfl
    have gs : (query a0).size = a0.size + 319 := query_size a0
    refine core a0 (query ⟨#[]⟩) (query ⟨#[0]⟩) (query a0) headB tailB hs es zs gs
      (fun w => (cq8 _ (by decide) w).mono fun e w' ⟨h1, h2⟩ => ⟨h1, h2.symm⟩) (fun w => (cq8 _ (by decide) w).mono fun e w' ⟨h1, h2⟩ => ⟨h1, h2.symm⟩) (fun w => (cq8 _ hs w).mono fun e w' ⟨h1, h2⟩ => ⟨h1, h2.symm⟩)
      ?_ ?_ ?_ ?_ ?_ ?_ ?_ ?_ ?_ ?_ ?_ ?_ w
    · intro k hk
      have hk' : k < headL.length := by rw [headL_length]; exact hk
      refine ⟨((headL[k]).toNat : Int), fun w => idx _ _ k _ rfl (by omega) ?_ w, fun w => idx _ _ k _ rfl (by omega) ?_ w⟩
      · rw [get_list _ _ z_list k (by omega) (by rw [List.length_append]; omega), List.getElem_append_left hk']
      · rw [get_list _ _ e_list k (by omega) (by rw [List.length_append]; omega), List.getElem_append_left hk']
    · intro w
      refine idx _ _ 291 _ rfl (by omega) ?_ w
      rw [get_list _ _ z_list 291 (by omega) (by rw [List.length_append, headL_length, List.length_cons, tailL_length]; omega), List.getElem_append_right (by rw [headL_length]; omega)]
      simp only [headL_length]
      rfl
    · intro w
      refine idx _ _ 291 _ rfl (by omega) ?_ w
      rw [get_list _ _ e_list 291 (by omega) (by rw [List.length_append, headL_length, tailL_length]; omega), List.getElem_append_right (by rw [headL_length]; omega)]
      simp only [headL_length]
      rfl
    · intro w
      refine slice_from _ _ _ tailL (by omega) (by omega) ?_ rfl w
      rw [z_list, show ((292 : Int)).toNat = headL.length + 1 by rw [headL_length]; rfl, List.drop_append]
      simp
    · intro w
      refine slice_from _ _ _ tailL (by omega) (by omega) ?_ rfl w
      rw [e_list, show ((291 : Int)).toNat = headL.length by rw [headL_length]; rfl, List.drop_left]
    · intro w
      refine slice_upto _ _ _ headL (by omega) (by omega) ?_ rfl w
      rw [e_list, show ((291 : Int)).toNat = headL.length by rw [headL_length]; rfl, List.take_left]
    · intro w
      refine slice_upto _ _ _ headL (by omega) (by omega) ?_ rfl w
      rw [hl, show ((291 : Int)).toNat = headL.length by rw [headL_length]; rfl, List.append_assoc, List.take_left]
    · intro w
      refine slice_run _ _ _ _ a0.data.toList (by omega) (by omega) (by omega) ?_ rfl w
      have e : a0.size = a0.data.toList.length := rfl
      rw [hl, show (291 + (a0.size : Int)).toNat - ((291 : Int)).toNat = a0.data.toList.length by omega, show ((291 : Int)).toNat = headL.length by rw [headL_length]; rfl, List.append_assoc, List.drop_left, List.take_left]
    · intro w
      refine slice_from _ _ _ tailL (by omega) (by omega) ?_ rfl w
      have e : a0.size = a0.data.toList.length := rfl
      rw [hl, show (291 + (a0.size : Int)).toNat = (headL ++ a0.data.toList).length by rw [List.length_append, headL_length]; omega, List.drop_left]
    · intro w
      refine (suffix_yes headB whereB ?_ ?_ head_where w).mono fun e w' ⟨h1, h2⟩ => ⟨h1, h2.symm⟩
      · rw [headB_size, where_size]; omega
      · rw [headB_size]; omega
    · intro w
      refine (prefix_yes (query ⟨#[]⟩) selectB ?_ ?_ w).mono fun e w' ⟨h1, h2⟩ => ⟨h1, h2.symm⟩
      · rw [es, select_size]; omega
      · rw [e_list]; exact e_select
    · intro w
      refine (suffix_yes (query ⟨#[]⟩) orderB ?_ ?_ ?_ w).mono fun e w' ⟨h1, h2⟩ => ⟨h1, h2.symm⟩
      · rw [es, order_size]; omega
      · rw [es]; omega
      · rw [e_list, es]; exact e_order
  · go_enter Try.func3, Try.ntmps3
    go_wp2
    go_ret
    exact ⟨rfl, 0, rfl⟩
end Go.Proofs.Qxb6600501a
