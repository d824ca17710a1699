/-
  THE QUERY's TWO CONSTANTS and the contract of 'capturesQuery': the query is head ++ where ++ tail.
-/
import Derived.Test.Qxb6600501aRows
import Derived.WalkKit
import Derived.ProofKit
import Derived.ShutString
namespace Go.Proofs.Qxb6600501a
open Go.ChangeShapes Go.WideShapes Go.ChangeAt Go.RowKit

/-- The bytes ahead of the condition (291). -/
def headL : List UInt8 := [115, 101, 108, 101, 99, 116, 32, 109, 46, 105, 100, 44, 32, 109, 46, 116, 101, 110, 97, 110, 116, 95, 99, 111, 108, 117, 109, 110, 44, 32, 109, 46, 116, 101, 110, 97, 110, 116, 44, 32, 115, 114, 99, 46, 110, 97, 109, 101, 44, 32, 115, 114, 99, 46, 117, 114, 108, 44, 32, 100, 115, 116, 46, 110, 97, 109, 101, 44, 32, 100, 115, 116, 46, 117, 114, 108, 44, 32, 116, 46, 110, 97, 109, 101, 44, 32, 116, 46, 107, 101, 121, 95, 99, 111, 108, 117, 109, 110, 115, 10, 9, 9, 102, 114, 111, 109, 32, 119, 97, 100, 100, 101, 110, 46, 109, 111, 118, 101, 115, 32, 109, 10, 9, 9, 106, 111, 105, 110, 32, 119, 97, 100, 100, 101, 110, 46, 115, 104, 97, 114, 100, 115, 32, 115, 114, 99, 32, 111, 110, 32, 115, 114, 99, 46, 110, 97, 109, 101, 32, 61, 32, 109, 46, 115, 111, 117, 114, 99, 101, 95, 115, 104, 97, 114, 100, 10, 9, 9, 106, 111, 105, 110, 32, 119, 97, 100, 100, 101, 110, 46, 115, 104, 97, 114, 100, 115, 32, 100, 115, 116, 32, 111, 110, 32, 100, 115, 116, 46, 110, 97, 109, 101, 32, 61, 32, 109, 46, 100, 101, 115, 116, 105, 110, 97, 116, 105, 111, 110, 95, 115, 104, 97, 114, 100, 10, 9, 9, 106, 111, 105, 110, 32, 119, 97, 100, 100, 101, 110, 46, 109, 111, 118, 101, 95, 116, 97, 98, 108, 101, 115, 32, 116, 32, 111, 110, 32, 116, 46, 109, 111, 118, 101, 95, 105, 100, 32, 61, 32, 109, 46, 105, 100, 10, 9, 9, 119, 104, 101, 114, 101, 32]
/-- The bytes behind it (28). -/
def tailL : List UInt8 := [10, 9, 9, 111, 114, 100, 101, 114, 32, 98, 121, 32, 109, 46, 105, 100, 44, 32, 116, 46, 112, 111, 115, 105, 116, 105, 111, 110]
def headB : ByteArray := ⟨headL.toArray⟩
def tailB : ByteArray := ⟨tailL.toArray⟩
/-- The query for a condition. -/
def query (s : ByteArray) : ByteArray := headB ++ s ++ tailB

theorem headL_length : headL.length = 291 := by decide +kernel
theorem tailL_length : tailL.length = 28 := by decide +kernel
theorem headB_size : headB.size = 291 := by show headL.toArray.size = _; rw [List.size_toArray]; exact headL_length
theorem tailB_size : tailB.size = 28 := by show tailL.toArray.size = _; rw [List.size_toArray]; exact tailL_length
theorem query_size (s : ByteArray) : (query s).size = s.size + 319 := by
  unfold query
  rw [ByteArray.size_append, ByteArray.size_append, headB_size, tailB_size]
  omega
theorem query_list (s : ByteArray) : (query s).data.toList = headL ++ s.data.toList ++ tailL := by
  unfold query headB tailB
  rw [ByteArray.data_append, ByteArray.data_append, Array.toList_append, Array.toList_append]
theorem query_beq (a b : ByteArray) : ((query a).data.toList == (query b).data.toList) = (a.data.toList == b.data.toList) := by
  rw [query_list, query_list, Bool.eq_iff_iff, beq_iff_eq, beq_iff_eq]
  constructor
  · intro h
    exact List.append_cancel_left (List.append_cancel_right h)
  · intro h
    rw [h]

set_option maxHeartbeats 400000 in
set_option maxRecDepth 100000 in
theorem cq18 (s : ByteArray) (h : s.size ≤ 1048576) (w : World) :
    Calls Try.prog 18 #[.string s] w fun e w' => e = .returned (.string (query s)) ∧ w' = w := by
  go_enter Try.func18, Try.ntmps18
  go_wp2
  go_ret
  exact ⟨rfl, rfl⟩
set_option maxHeartbeats 400000 in
theorem cq8 (s : ByteArray) (h : s.size ≤ 1048576) (w : World) :
    Calls Try.prog 8 #[.string s] w fun e w' => e = .returned (.string (query s)) ∧ w' = w := by
  go_enter Try.func8, Try.ntmps8
  go_wp2_with (go_at_call 18; refine (cq18 _ h _).mono ?_; rintro e w' ⟨rfl, rfl⟩)
  go_ret
  exact ⟨rfl, rfl⟩
end Go.Proofs.Qxb6600501a
