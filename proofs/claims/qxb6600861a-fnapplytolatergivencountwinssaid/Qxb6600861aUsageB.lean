import Derived.Test.Qxb6600861aUsageA
namespace Go.Proofs.Qxb6600861a
open Go.RowKit

set_option maxHeartbeats 400000 in
theorem usage_FFFF (v0 v1 v2 v3 : Int) (w : World) :
    Calls Try.prog 11 #[.bool false, .bool false, .bool false, .bool false, .int .i64 v0, .int .i64 v1, .int .i64 v2, .int .i64 v3] w fun e w' => ∃ f, e = .returned (.agg #[.pointer (f 0), .pointer (f 1), .pointer (f 2), .pointer (f 3)]) ∧ Given w (seq4 false false false false) (seq4 v0 v1 v2 v3) f w' := by
  go_enter Try.func11, Try.ntmps11
  go_wp2
  refine bodyPost_ret (v := .agg #[.pointer none, .pointer none, .pointer none, .pointer none]) (by simp [results, Try.results11, go_sem]) rfl ?_
  refine ⟨seq4 none none none none, rfl, ⟨all4 ?_ ?_ ?_ ?_, ?_, ?_⟩⟩
  · exact givenAt_no _ _ _
  · exact givenAt_no _ _ _
  · exact givenAt_no _ _ _
  · exact givenAt_no _ _ _
  · repeat (first | exact Below.refl _ _ | refine Below.alloc ?_ (by simp <;> omega) _)
  · repeat (first | exact Grown.refl _ | apply Grown.alloc)
set_option maxHeartbeats 400000 in
theorem usage_FFFT (v0 v1 v2 v3 : Int) (w : World) :
    Calls Try.prog 11 #[.bool false, .bool false, .bool false, .bool true, .int .i64 v0, .int .i64 v1, .int .i64 v2, .int .i64 v3] w fun e w' => ∃ f, e = .returned (.agg #[.pointer (f 0), .pointer (f 1), .pointer (f 2), .pointer (f 3)]) ∧ Given w (seq4 false false false true) (seq4 v0 v1 v2 v3) f w' := by
  go_enter Try.func11, Try.ntmps11
  go_wp2_with (go_at_call 22; refine (ptr_any _ _).mono ?_; rintro e w' ⟨rfl, rfl⟩)
  refine bodyPost_ret (v := .agg #[.pointer none, .pointer none, .pointer none, .pointer (some ⟨w.heap.size + 1 + 1, 0, none⟩)]) (by simp [results, Try.results11, go_sem]) rfl ?_
  refine ⟨seq4 none none none (some ⟨w.heap.size + 1 + 1, 0, none⟩), rfl, ⟨all4 ?_ ?_ ?_ ?_, ?_, ?_⟩⟩
  · exact givenAt_no _ _ _
  · exact givenAt_no _ _ _
  · exact givenAt_no _ _ _
  · exact givenAt_yes (by omega) (by simp) (by simp [go_sem, seq4])
  · repeat (first | exact Below.refl _ _ | refine Below.alloc ?_ (by simp <;> omega) _)
  · repeat (first | exact Grown.refl _ | apply Grown.alloc)
set_option maxHeartbeats 400000 in
theorem usage_FFTF (v0 v1 v2 v3 : Int) (w : World) :
    Calls Try.prog 11 #[.bool false, .bool false, .bool true, .bool false, .int .i64 v0, .int .i64 v1, .int .i64 v2, .int .i64 v3] w fun e w' => ∃ f, e = .returned (.agg #[.pointer (f 0), .pointer (f 1), .pointer (f 2), .pointer (f 3)]) ∧ Given w (seq4 false false true false) (seq4 v0 v1 v2 v3) f w' := by
  go_enter Try.func11, Try.ntmps11
  go_wp2_with (go_at_call 22; refine (ptr_any _ _).mono ?_; rintro e w' ⟨rfl, rfl⟩)
  refine bodyPost_ret (v := .agg #[.pointer none, .pointer none, .pointer (some ⟨w.heap.size + 1 + 1, 0, none⟩), .pointer none]) (by simp [results, Try.results11, go_sem]) rfl ?_
  refine ⟨seq4 none none (some ⟨w.heap.size + 1 + 1, 0, none⟩) none, rfl, ⟨all4 ?_ ?_ ?_ ?_, ?_, ?_⟩⟩
  · exact givenAt_no _ _ _
  · exact givenAt_no _ _ _
  · exact givenAt_yes (by omega) (by simp) (by simp [go_sem, seq4])
  · exact givenAt_no _ _ _
  · repeat (first | exact Below.refl _ _ | refine Below.alloc ?_ (by simp <;> omega) _)
  · repeat (first | exact Grown.refl _ | apply Grown.alloc)
set_option maxHeartbeats 400000 in
theorem usage_FFTT (v0 v1 v2 v3 : Int) (w : World) :
    Calls Try.prog 11 #[.bool false, .bool false, .bool true, .bool true, .int .i64 v0, .int .i64 v1, .int .i64 v2, .int .i64 v3] w fun e w' => ∃ f, e = .returned (.agg #[.pointer (f 0), .pointer (f 1), .pointer (f 2), .pointer (f 3)]) ∧ Given w (seq4 false false true true) (seq4 v0 v1 v2 v3) f w' := by
  go_enter Try.func11, Try.ntmps11
  go_wp2_with (go_at_call 22; refine (ptr_any _ _).mono ?_; rintro e w' ⟨rfl, rfl⟩)
  refine bodyPost_ret (v := .agg #[.pointer none, .pointer none, .pointer (some ⟨w.heap.size + 1 + 1, 0, none⟩), .pointer (some ⟨w.heap.size + 1 + 1 + 1, 0, none⟩)]) (by simp [results, Try.results11, go_sem]) rfl ?_
  refine ⟨seq4 none none (some ⟨w.heap.size + 1 + 1, 0, none⟩) (some ⟨w.heap.size + 1 + 1 + 1, 0, none⟩), rfl, ⟨all4 ?_ ?_ ?_ ?_, ?_, ?_⟩⟩
  · exact givenAt_no _ _ _
  · exact givenAt_no _ _ _
  · exact givenAt_yes (by omega) (by simp <;> omega) (by simp [go_sem, seq4])
  · exact givenAt_yes (by omega) (by simp) (by simp [go_sem, seq4])
  · repeat (first | exact Below.refl _ _ | refine Below.alloc ?_ (by simp <;> omega) _)
  · repeat (first | exact Grown.refl _ | apply Grown.alloc)
set_option maxHeartbeats 400000 in
theorem usage_FTFF (v0 v1 v2 v3 : Int) (w : World) :
    Calls Try.prog 11 #[.bool false, .bool true, .bool false, .bool false, .int .i64 v0, .int .i64 v1, .int .i64 v2, .int .i64 v3] w fun e w' => ∃ f, e = .returned (.agg #[.pointer (f 0), .pointer (f 1), .pointer (f 2), .pointer (f 3)]) ∧ Given w (seq4 false true false false) (seq4 v0 v1 v2 v3) f w' := by
  go_enter Try.func11, Try.ntmps11
  go_wp2_with (go_at_call 22; refine (ptr_any _ _).mono ?_; rintro e w' ⟨rfl, rfl⟩)
  refine bodyPost_ret (v := .agg #[.pointer none, .pointer (some ⟨w.heap.size + 1 + 1, 0, none⟩), .pointer none, .pointer none]) (by simp [results, Try.results11, go_sem]) rfl ?_
  refine ⟨seq4 none (some ⟨w.heap.size + 1 + 1, 0, none⟩) none none, rfl, ⟨all4 ?_ ?_ ?_ ?_, ?_, ?_⟩⟩
  · exact givenAt_no _ _ _
  · exact givenAt_yes (by omega) (by simp) (by simp [go_sem, seq4])
  · exact givenAt_no _ _ _
  · exact givenAt_no _ _ _
  · repeat (first | exact Below.refl _ _ | refine Below.alloc ?_ (by simp <;> omega) _)
  · repeat (first | exact Grown.refl _ | apply Grown.alloc)
set_option maxHeartbeats 400000 in
theorem usage_FTFT (v0 v1 v2 v3 : Int) (w : World) :
    Calls Try.prog 11 #[.bool false, .bool true, .bool false, .bool true, .int .i64 v0, .int .i64 v1, .int .i64 v2, .int .i64 v3] w fun e w' => ∃ f, e = .returned (.agg #[.pointer (f 0), .pointer (f 1), .pointer (f 2), .pointer (f 3)]) ∧ Given w (seq4 false true false true) (seq4 v0 v1 v2 v3) f w' := by
  go_enter Try.func11, Try.ntmps11
  go_wp2_with (go_at_call 22; refine (ptr_any _ _).mono ?_; rintro e w' ⟨rfl, rfl⟩)
  refine bodyPost_ret (v := .agg #[.pointer none, .pointer (some ⟨w.heap.size + 1 + 1, 0, none⟩), .pointer none, .pointer (some ⟨w.heap.size + 1 + 1 + 1, 0, none⟩)]) (by simp [results, Try.results11, go_sem]) rfl ?_
  refine ⟨seq4 none (some ⟨w.heap.size + 1 + 1, 0, none⟩) none (some ⟨w.heap.size + 1 + 1 + 1, 0, none⟩), rfl, ⟨all4 ?_ ?_ ?_ ?_, ?_, ?_⟩⟩
  · exact givenAt_no _ _ _
  · exact givenAt_yes (by omega) (by simp <;> omega) (by simp [go_sem, seq4])
  · exact givenAt_no _ _ _
  · exact givenAt_yes (by omega) (by simp) (by simp [go_sem, seq4])
  · repeat (first | exact Below.refl _ _ | refine Below.alloc ?_ (by simp <;> omega) _)
  · repeat (first | exact Grown.refl _ | apply Grown.alloc)
set_option maxHeartbeats 400000 in
theorem usage_FTTF (v0 v1 v2 v3 : Int) (w : World) :
    Calls Try.prog 11 #[.bool false, .bool true, .bool true, .bool false, .int .i64 v0, .int .i64 v1, .int .i64 v2, .int .i64 v3] w fun e w' => ∃ f, e = .returned (.agg #[.pointer (f 0), .pointer (f 1), .pointer (f 2), .pointer (f 3)]) ∧ Given w (seq4 false true true false) (seq4 v0 v1 v2 v3) f w' := by
  go_enter Try.func11, Try.ntmps11
  go_wp2_with (go_at_call 22; refine (ptr_any _ _).mono ?_; rintro e w' ⟨rfl, rfl⟩)
  refine bodyPost_ret (v := .agg #[.pointer none, .pointer (some ⟨w.heap.size + 1 + 1, 0, none⟩), .pointer (some ⟨w.heap.size + 1 + 1 + 1, 0, none⟩), .pointer none]) (by simp [results, Try.results11, go_sem]) rfl ?_
  refine ⟨seq4 none (some ⟨w.heap.size + 1 + 1, 0, none⟩) (some ⟨w.heap.size + 1 + 1 + 1, 0, none⟩) none, rfl, ⟨all4 ?_ ?_ ?_ ?_, ?_, ?_⟩⟩
  · exact givenAt_no _ _ _
  · exact givenAt_yes (by omega) (by simp <;> omega) (by simp [go_sem, seq4])
  · exact givenAt_yes (by omega) (by simp) (by simp [go_sem, seq4])
  · exact givenAt_no _ _ _
  · repeat (first | exact Below.refl _ _ | refine Below.alloc ?_ (by simp <;> omega) _)
  · repeat (first | exact Grown.refl _ | apply Grown.alloc)
set_option maxHeartbeats 400000 in
theorem usage_FTTT (v0 v1 v2 v3 : Int) (w : World) :
    Calls Try.prog 11 #[.bool false, .bool true, .bool true, .bool true, .int .i64 v0, .int .i64 v1, .int .i64 v2, .int .i64 v3] w fun e w' => ∃ f, e = .returned (.agg #[.pointer (f 0), .pointer (f 1), .pointer (f 2), .pointer (f 3)]) ∧ Given w (seq4 false true true true) (seq4 v0 v1 v2 v3) f w' := by
  go_enter Try.func11, Try.ntmps11
  go_wp2_with (go_at_call 22; refine (ptr_any _ _).mono ?_; rintro e w' ⟨rfl, rfl⟩)
  refine bodyPost_ret (v := .agg #[.pointer none, .pointer (some ⟨w.heap.size + 1 + 1, 0, none⟩), .pointer (some ⟨w.heap.size + 1 + 1 + 1, 0, none⟩), .pointer (some ⟨w.heap.size + 1 + 1 + 1 + 1, 0, none⟩)]) (by simp [results, Try.results11, go_sem]) rfl ?_
  refine ⟨seq4 none (some ⟨w.heap.size + 1 + 1, 0, none⟩) (some ⟨w.heap.size + 1 + 1 + 1, 0, none⟩) (some ⟨w.heap.size + 1 + 1 + 1 + 1, 0, none⟩), rfl, ⟨all4 ?_ ?_ ?_ ?_, ?_, ?_⟩⟩
  · exact givenAt_no _ _ _
  · exact givenAt_yes (by omega) (by simp <;> omega) (by simp [go_sem, seq4])
  · exact givenAt_yes (by omega) (by simp <;> omega) (by simp [go_sem, seq4])
  · exact givenAt_yes (by omega) (by simp) (by simp [go_sem, seq4])
  · repeat (first | exact Below.refl _ _ | refine Below.alloc ?_ (by simp <;> omega) _)
  · repeat (first | exact Grown.refl _ | apply Grown.alloc)
set_option maxHeartbeats 400000 in
theorem usage_TFFF (v0 v1 v2 v3 : Int) (w : World) :
    Calls Try.prog 11 #[.bool true, .bool false, .bool false, .bool false, .int .i64 v0, .int .i64 v1, .int .i64 v2, .int .i64 v3] w fun e w' => ∃ f, e = .returned (.agg #[.pointer (f 0), .pointer (f 1), .pointer (f 2), .pointer (f 3)]) ∧ Given w (seq4 true false false false) (seq4 v0 v1 v2 v3) f w' := by
  go_enter Try.func11, Try.ntmps11
  go_wp2_with (go_at_call 22; refine (ptr_any _ _).mono ?_; rintro e w' ⟨rfl, rfl⟩)
  refine bodyPost_ret (v := .agg #[.pointer (some ⟨w.heap.size + 1 + 1, 0, none⟩), .pointer none, .pointer none, .pointer none]) (by simp [results, Try.results11, go_sem]) rfl ?_
  refine ⟨seq4 (some ⟨w.heap.size + 1 + 1, 0, none⟩) none none none, rfl, ⟨all4 ?_ ?_ ?_ ?_, ?_, ?_⟩⟩
  · exact givenAt_yes (by omega) (by simp) (by simp [go_sem, seq4])
  · exact givenAt_no _ _ _
  · exact givenAt_no _ _ _
  · exact givenAt_no _ _ _
  · repeat (first | exact Below.refl _ _ | refine Below.alloc ?_ (by simp <;> omega) _)
  · repeat (first | exact Grown.refl _ | apply Grown.alloc)
set_option maxHeartbeats 400000 in
theorem usage_TFFT (v0 v1 v2 v3 : Int) (w : World) :
    Calls Try.prog 11 #[.bool true, .bool false, .bool false, .bool true, .int .i64 v0, .int .i64 v1, .int .i64 v2, .int .i64 v3] w fun e w' => ∃ f, e = .returned (.agg #[.pointer (f 0), .pointer (f 1), .pointer (f 2), .pointer (f 3)]) ∧ Given w (seq4 true false false true) (seq4 v0 v1 v2 v3) f w' := by
  go_enter Try.func11, Try.ntmps11
  go_wp2_with (go_at_call 22; refine (ptr_any _ _).mono ?_; rintro e w' ⟨rfl, rfl⟩)
  refine bodyPost_ret (v := .agg #[.pointer (some ⟨w.heap.size + 1 + 1, 0, none⟩), .pointer none, .pointer none, .pointer (some ⟨w.heap.size + 1 + 1 + 1, 0, none⟩)]) (by simp [results, Try.results11, go_sem]) rfl ?_
  refine ⟨seq4 (some ⟨w.heap.size + 1 + 1, 0, none⟩) none none (some ⟨w.heap.size + 1 + 1 + 1, 0, none⟩), rfl, ⟨all4 ?_ ?_ ?_ ?_, ?_, ?_⟩⟩
  · exact givenAt_yes (by omega) (by simp <;> omega) (by simp [go_sem, seq4])
  · exact givenAt_no _ _ _
  · exact givenAt_no _ _ _
  · exact givenAt_yes (by omega) (by simp) (by simp [go_sem, seq4])
  · repeat (first | exact Below.refl _ _ | refine Below.alloc ?_ (by simp <;> omega) _)
  · repeat (first | exact Grown.refl _ | apply Grown.alloc)
set_option maxHeartbeats 400000 in
theorem usage_TFTF (v0 v1 v2 v3 : Int) (w : World) :
    Calls Try.prog 11 #[.bool true, .bool false, .bool true, .bool false, .int .i64 v0, .int .i64 v1, .int .i64 v2, .int .i64 v3] w fun e w' => ∃ f, e = .returned (.agg #[.pointer (f 0), .pointer (f 1), .pointer (f 2), .pointer (f 3)]) ∧ Given w (seq4 true false true false) (seq4 v0 v1 v2 v3) f w' := by
  go_enter Try.func11, Try.ntmps11
  go_wp2_with (go_at_call 22; refine (ptr_any _ _).mono ?_; rintro e w' ⟨rfl, rfl⟩)
  refine bodyPost_ret (v := .agg #[.pointer (some ⟨w.heap.size + 1 + 1, 0, none⟩), .pointer none, .pointer (some ⟨w.heap.size + 1 + 1 + 1, 0, none⟩), .pointer none]) (by simp [results, Try.results11, go_sem]) rfl ?_
  refine ⟨seq4 (some ⟨w.heap.size + 1 + 1, 0, none⟩) none (some ⟨w.heap.size + 1 + 1 + 1, 0, none⟩) none, rfl, ⟨all4 ?_ ?_ ?_ ?_, ?_, ?_⟩⟩
  · exact givenAt_yes (by omega) (by simp <;> omega) (by simp [go_sem, seq4])
  · exact givenAt_no _ _ _
  · exact givenAt_yes (by omega) (by simp) (by simp [go_sem, seq4])
  · exact givenAt_no _ _ _
  · repeat (first | exact Below.refl _ _ | refine Below.alloc ?_ (by simp <;> omega) _)
  · repeat (first | exact Grown.refl _ | apply Grown.alloc)
set_option maxHeartbeats 400000 in
theorem usage_TFTT (v0 v1 v2 v3 : Int) (w : World) :
    Calls Try.prog 11 #[.bool true, .bool false, .bool true, .bool true, .int .i64 v0, .int .i64 v1, .int .i64 v2, .int .i64 v3] w fun e w' => ∃ f, e = .returned (.agg #[.pointer (f 0), .pointer (f 1), .pointer (f 2), .pointer (f 3)]) ∧ Given w (seq4 true false true true) (seq4 v0 v1 v2 v3) f w' := by
  go_enter Try.func11, Try.ntmps11
  go_wp2_with (go_at_call 22; refine (ptr_any _ _).mono ?_; rintro e w' ⟨rfl, rfl⟩)
  refine bodyPost_ret (v := .agg #[.pointer (some ⟨w.heap.size + 1 + 1, 0, none⟩), .pointer none, .pointer (some ⟨w.heap.size + 1 + 1 + 1, 0, none⟩), .pointer (some ⟨w.heap.size + 1 + 1 + 1 + 1, 0, none⟩)]) (by simp [results, Try.results11, go_sem]) rfl ?_
  refine ⟨seq4 (some ⟨w.heap.size + 1 + 1, 0, none⟩) none (some ⟨w.heap.size + 1 + 1 + 1, 0, none⟩) (some ⟨w.heap.size + 1 + 1 + 1 + 1, 0, none⟩), rfl, ⟨all4 ?_ ?_ ?_ ?_, ?_, ?_⟩⟩
  · exact givenAt_yes (by omega) (by simp <;> omega) (by simp [go_sem, seq4])
  · exact givenAt_no _ _ _
  · exact givenAt_yes (by omega) (by simp <;> omega) (by simp [go_sem, seq4])
  · exact givenAt_yes (by omega) (by simp) (by simp [go_sem, seq4])
  · repeat (first | exact Below.refl _ _ | refine Below.alloc ?_ (by simp <;> omega) _)
  · repeat (first | exact Grown.refl _ | apply Grown.alloc)
set_option maxHeartbeats 400000 in
theorem usage_TTFF (v0 v1 v2 v3 : Int) (w : World) :
    Calls Try.prog 11 #[.bool true, .bool true, .bool false, .bool false, .int .i64 v0, .int .i64 v1, .int .i64 v2, .int .i64 v3] w fun e w' => ∃ f, e = .returned (.agg #[.pointer (f 0), .pointer (f 1), .pointer (f 2), .pointer (f 3)]) ∧ Given w (seq4 true true false false) (seq4 v0 v1 v2 v3) f w' := by
  go_enter Try.func11, Try.ntmps11
  go_wp2_with (go_at_call 22; refine (ptr_any _ _).mono ?_; rintro e w' ⟨rfl, rfl⟩)
  refine bodyPost_ret (v := .agg #[.pointer (some ⟨w.heap.size + 1 + 1, 0, none⟩), .pointer (some ⟨w.heap.size + 1 + 1 + 1, 0, none⟩), .pointer none, .pointer none]) (by simp [results, Try.results11, go_sem]) rfl ?_
  refine ⟨seq4 (some ⟨w.heap.size + 1 + 1, 0, none⟩) (some ⟨w.heap.size + 1 + 1 + 1, 0, none⟩) none none, rfl, ⟨all4 ?_ ?_ ?_ ?_, ?_, ?_⟩⟩
  · exact givenAt_yes (by omega) (by simp <;> omega) (by simp [go_sem, seq4])
  · exact givenAt_yes (by omega) (by simp) (by simp [go_sem, seq4])
  · exact givenAt_no _ _ _
  · exact givenAt_no _ _ _
  · repeat (first | exact Below.refl _ _ | refine Below.alloc ?_ (by simp <;> omega) _)
  · repeat (first | exact Grown.refl _ | apply Grown.alloc)
set_option maxHeartbeats 400000 in
theorem usage_TTFT (v0 v1 v2 v3 : Int) (w : World) :
    Calls Try.prog 11 #[.bool true, .bool true, .bool false, .bool true, .int .i64 v0, .int .i64 v1, .int .i64 v2, .int .i64 v3] w fun e w' => ∃ f, e = .returned (.agg #[.pointer (f 0), .pointer (f 1), .pointer (f 2), .pointer (f 3)]) ∧ Given w (seq4 true true false true) (seq4 v0 v1 v2 v3) f w' := by
  go_enter Try.func11, Try.ntmps11
  go_wp2_with (go_at_call 22; refine (ptr_any _ _).mono ?_; rintro e w' ⟨rfl, rfl⟩)
  refine bodyPost_ret (v := .agg #[.pointer (some ⟨w.heap.size + 1 + 1, 0, none⟩), .pointer (some ⟨w.heap.size + 1 + 1 + 1, 0, none⟩), .pointer none, .pointer (some ⟨w.heap.size + 1 + 1 + 1 + 1, 0, none⟩)]) (by simp [results, Try.results11, go_sem]) rfl ?_
  refine ⟨seq4 (some ⟨w.heap.size + 1 + 1, 0, none⟩) (some ⟨w.heap.size + 1 + 1 + 1, 0, none⟩) none (some ⟨w.heap.size + 1 + 1 + 1 + 1, 0, none⟩), rfl, ⟨all4 ?_ ?_ ?_ ?_, ?_, ?_⟩⟩
  · exact givenAt_yes (by omega) (by simp <;> omega) (by simp [go_sem, seq4])
  · exact givenAt_yes (by omega) (by simp <;> omega) (by simp [go_sem, seq4])
  · exact givenAt_no _ _ _
  · exact givenAt_yes (by omega) (by simp) (by simp [go_sem, seq4])
  · repeat (first | exact Below.refl _ _ | refine Below.alloc ?_ (by simp <;> omega) _)
  · repeat (first | exact Grown.refl _ | apply Grown.alloc)
set_option maxHeartbeats 400000 in
theorem usage_TTTF (v0 v1 v2 v3 : Int) (w : World) :
    Calls Try.prog 11 #[.bool true, .bool true, .bool true, .bool false, .int .i64 v0, .int .i64 v1, .int .i64 v2, .int .i64 v3] w fun e w' => ∃ f, e = .returned (.agg #[.pointer (f 0), .pointer (f 1), .pointer (f 2), .pointer (f 3)]) ∧ Given w (seq4 true true true false) (seq4 v0 v1 v2 v3) f w' := by
  go_enter Try.func11, Try.ntmps11
  go_wp2_with (go_at_call 22; refine (ptr_any _ _).mono ?_; rintro e w' ⟨rfl, rfl⟩)
  refine bodyPost_ret (v := .agg #[.pointer (some ⟨w.heap.size + 1 + 1, 0, none⟩), .pointer (some ⟨w.heap.size + 1 + 1 + 1, 0, none⟩), .pointer (some ⟨w.heap.size + 1 + 1 + 1 + 1, 0, none⟩), .pointer none]) (by simp [results, Try.results11, go_sem]) rfl ?_
  refine ⟨seq4 (some ⟨w.heap.size + 1 + 1, 0, none⟩) (some ⟨w.heap.size + 1 + 1 + 1, 0, none⟩) (some ⟨w.heap.size + 1 + 1 + 1 + 1, 0, none⟩) none, rfl, ⟨all4 ?_ ?_ ?_ ?_, ?_, ?_⟩⟩
  · exact givenAt_yes (by omega) (by simp <;> omega) (by simp [go_sem, seq4])
  · exact givenAt_yes (by omega) (by simp <;> omega) (by simp [go_sem, seq4])
  · exact givenAt_yes (by omega) (by simp) (by simp [go_sem, seq4])
  · exact givenAt_no _ _ _
  · repeat (first | exact Below.refl _ _ | refine Below.alloc ?_ (by simp <;> omega) _)
  · repeat (first | exact Grown.refl _ | apply Grown.alloc)
set_option maxHeartbeats 400000 in
theorem usage_TTTT (v0 v1 v2 v3 : Int) (w : World) :
    Calls Try.prog 11 #[.bool true, .bool true, .bool true, .bool true, .int .i64 v0, .int .i64 v1, .int .i64 v2, .int .i64 v3] w fun e w' => ∃ f, e = .returned (.agg #[.pointer (f 0), .pointer (f 1), .pointer (f 2), .pointer (f 3)]) ∧ Given w (seq4 true true true true) (seq4 v0 v1 v2 v3) f w' := by
  go_enter Try.func11, Try.ntmps11
  go_wp2_with (go_at_call 22; refine (ptr_any _ _).mono ?_; rintro e w' ⟨rfl, rfl⟩)
  refine bodyPost_ret (v := .agg #[.pointer (some ⟨w.heap.size + 1 + 1, 0, none⟩), .pointer (some ⟨w.heap.size + 1 + 1 + 1, 0, none⟩), .pointer (some ⟨w.heap.size + 1 + 1 + 1 + 1, 0, none⟩), .pointer (some ⟨w.heap.size + 1 + 1 + 1 + 1 + 1, 0, none⟩)]) (by simp [results, Try.results11, go_sem]) rfl ?_
  refine ⟨seq4 (some ⟨w.heap.size + 1 + 1, 0, none⟩) (some ⟨w.heap.size + 1 + 1 + 1, 0, none⟩) (some ⟨w.heap.size + 1 + 1 + 1 + 1, 0, none⟩) (some ⟨w.heap.size + 1 + 1 + 1 + 1 + 1, 0, none⟩), rfl, ⟨all4 ?_ ?_ ?_ ?_, ?_, ?_⟩⟩
  · exact givenAt_yes (by omega) (by simp <;> omega) (by simp [go_sem, seq4])
  · exact givenAt_yes (by omega) (by simp <;> omega) (by simp [go_sem, seq4])
  · exact givenAt_yes (by omega) (by simp <;> omega) (by simp [go_sem, seq4])
  · exact givenAt_yes (by omega) (by simp) (by simp [go_sem, seq4])
  · repeat (first | exact Below.refl _ _ | refine Below.alloc ?_ (by simp <;> omega) _)
  · repeat (first | exact Grown.refl _ | apply Grown.alloc)

theorem usage_any (h0 h1 h2 h3 : Bool) (v0 v1 v2 v3 : Int) (w : World) :
    Calls Try.prog 11 #[.bool h0, .bool h1, .bool h2, .bool h3, .int .i64 v0, .int .i64 v1, .int .i64 v2, .int .i64 v3] w fun e w' => ∃ f, e = .returned (.agg #[.pointer (f 0), .pointer (f 1), .pointer (f 2), .pointer (f 3)]) ∧ Given w (seq4 h0 h1 h2 h3) (seq4 v0 v1 v2 v3) f w' := by
  cases h0 <;> cases h1 <;> cases h2 <;> cases h3
  · exact usage_FFFF v0 v1 v2 v3 w
  · exact usage_FFFT v0 v1 v2 v3 w
  · exact usage_FFTF v0 v1 v2 v3 w
  · exact usage_FFTT v0 v1 v2 v3 w
  · exact usage_FTFF v0 v1 v2 v3 w
  · exact usage_FTFT v0 v1 v2 v3 w
  · exact usage_FTTF v0 v1 v2 v3 w
  · exact usage_FTTT v0 v1 v2 v3 w
  · exact usage_TFFF v0 v1 v2 v3 w
  · exact usage_TFFT v0 v1 v2 v3 w
  · exact usage_TFTF v0 v1 v2 v3 w
  · exact usage_TFTT v0 v1 v2 v3 w
  · exact usage_TTFF v0 v1 v2 v3 w
  · exact usage_TTFT v0 v1 v2 v3 w
  · exact usage_TTTF v0 v1 v2 v3 w
  · exact usage_TTTT v0 v1 v2 v3 w
end Go.Proofs.Qxb6600861a
