import Derived.Test.Qxb6600861aWalkA
import Derived.Test.Qxb6600861aEq
namespace Go.Proofs.Qxb6600861a
open Go.RowKit

/-! ### the callees -/
theorem newUsage_any (a b c d : Int) (w : World) :
    Calls Try.prog 16 #[.agg #[.int .i64 a, .int .i64 b, .int .i64 c, .int .i64 d]] w fun e w' =>
      e = .returned (.agg #[.pointer (some ⟨w.heap.size, 0, none⟩), .pointer (some ⟨w.heap.size, 1, none⟩), .pointer (some ⟨w.heap.size, 2, none⟩), .pointer (some ⟨w.heap.size, 3, none⟩)]) ∧
      w' = (w.alloc (.cells #[.int .i64 a, .int .i64 b, .int .i64 c, .int .i64 d] 27)).alloc (.cells #[.pointer (some ⟨w.heap.size, 0, none⟩), .pointer (some ⟨w.heap.size, 1, none⟩), .pointer (some ⟨w.heap.size, 2, none⟩), .pointer (some ⟨w.heap.size, 3, none⟩)] 24) := by
  go_enter Try.func16, Try.ntmps16
  go_wp2
  exact bodyPost_ret (v := .agg #[.pointer (some ⟨w.heap.size, 0, none⟩), .pointer (some ⟨w.heap.size, 1, none⟩), .pointer (some ⟨w.heap.size, 2, none⟩), .pointer (some ⟨w.heap.size, 3, none⟩)]) (by simp [results, Try.results16, go_sem]) rfl ⟨rfl, rfl⟩

def four (a b c d : Int) : Nat → Int
  | 0 => a
  | 1 => b
  | 2 => c
  | _ => d

theorem four_all {p : Nat → Prop} (h0 : p 0) (h1 : p 1) (h2 : p 2) (h3 : p 3) : ∀ j, j < 4 → p j := fun j hj => by
  match j, hj with
  | 0, _ => exact h0
  | 1, _ => exact h1
  | 2, _ => exact h2
  | 3, _ => exact h3

theorem setsAll_apply (a0 a1 a2 a3 a4 a5 a6 a7 : Int) (w : World) (c : Array Value) :
    Calls Try.prog 12 #[.agg #[.pointer (some ⟨w.heap.size + 1 + 1, 0, none⟩), .pointer (some ⟨w.heap.size + 1 + 1, 1, none⟩), .pointer (some ⟨w.heap.size + 1 + 1, 2, none⟩), .pointer (some ⟨w.heap.size + 1 + 1, 3, none⟩)], .pointer (some ⟨w.heap.size + 1, 0, none⟩)]
      ((((w.alloc (.cells #[.int .i64 a0, .int .i64 a1, .int .i64 a2, .int .i64 a3] 27)).alloc (.cells #[.int .i64 a4, .int .i64 a5, .int .i64 a6, .int .i64 a7] 27)).alloc (.cells #[.int .i64 a0, .int .i64 a1, .int .i64 a2, .int .i64 a3] 27)).alloc (.cells c 24))
      fun e w' => e = .returned (.tuple #[]) ∧ Grown w w'
        ∧ w'.cell? ⟨w.heap.size + 1, 0, none⟩ = some (.int .i64 a0) ∧ w'.cell? ⟨w.heap.size + 1, 1, none⟩ = some (.int .i64 a1) ∧ w'.cell? ⟨w.heap.size + 1, 2, none⟩ = some (.int .i64 a2) ∧ w'.cell? ⟨w.heap.size + 1, 3, none⟩ = some (.int .i64 a3)
        ∧ w'.cell? ⟨w.heap.size, 0, none⟩ = some (.int .i64 a0) ∧ w'.cell? ⟨w.heap.size, 1, none⟩ = some (.int .i64 a1) ∧ w'.cell? ⟨w.heap.size, 2, none⟩ = some (.int .i64 a2) ∧ w'.cell? ⟨w.heap.size, 3, none⟩ = some (.int .i64 a3) := by
  refine (apply_any w _ (w.heap.size + 1) (fun j => some ⟨w.heap.size + 1 + 1, j, none⟩) (four a0 a1 a2 a3) (four a4 a5 a6 a7) (by omega) ?h1 ?h2 ?h3 ?h4 ?h5).mono ?_
  case h1 => simp
  case h2 => exact four_all (fun a ha => ⟨_, _, (Option.some.inj ha).symm, by omega, by simp [go_sem, four]⟩) (fun a ha => ⟨_, _, (Option.some.inj ha).symm, by omega, by simp [go_sem, four]⟩) (fun a ha => ⟨_, _, (Option.some.inj ha).symm, by omega, by simp [go_sem, four]⟩) (fun a ha => ⟨_, _, (Option.some.inj ha).symm, by omega, by simp [go_sem, four]⟩)
  case h3 => exact four_all (by simp [go_sem, four]) (by simp [go_sem, four]) (by simp [go_sem, four]) (by simp [go_sem, four])
  case h4 => exact four_all (by simp [go_sem]) (by simp [go_sem]) (by simp [go_sem]) (by simp [go_sem])
  case h5 => exact ((((Grown.refl _).alloc _ _).alloc _ _).alloc _ _).alloc _ _
  rintro e w1 ⟨rfl, hd⟩
  refine ⟨rfl, hd.grown, hd.tot 0 (by omega), hd.tot 1 (by omega), hd.tot 2 (by omega), hd.tot 3 (by omega), ?_, ?_, ?_, ?_⟩
  · rw [hd.old ⟨w.heap.size, 0, none⟩ (by simp; omega) (by simp)]; simp [go_sem]
  · rw [hd.old ⟨w.heap.size, 1, none⟩ (by simp; omega) (by simp)]; simp [go_sem]
  · rw [hd.old ⟨w.heap.size, 2, none⟩ (by simp; omega) (by simp)]; simp [go_sem]
  · rw [hd.old ⟨w.heap.size, 3, none⟩ (by simp; omega) (by simp)]; simp [go_sem]

set_option maxHeartbeats 1000000 in
theorem setsAll_any (a0 a1 a2 a3 a4 a5 a6 a7 : Int) (w : World) :
    Calls Try.prog 6 #[.int .i64 a0, .int .i64 a1, .int .i64 a2, .int .i64 a3, .int .i64 a4, .int .i64 a5, .int .i64 a6, .int .i64 a7] w fun e w' => e = .returned (.bool true) ∧ Grown w w' := by
  have hap := setsAll_apply a0 a1 a2 a3 a4 a5 a6 a7 w
  have heq : ∀ w, (binOp .eql 27 (.agg #[.int .i64 a0, .int .i64 a1, .int .i64 a2, .int .i64 a3]) (.agg #[.int .i64 a0, .int .i64 a1, .int .i64 a2, .int .i64 a3])).run Try.prog w = .ok (.bool true) w := fun w => by
    rw [run_eql_struct, eq27]; simp
  go_enter Try.func6, Try.ntmps6
  go_wp2_with fail
  go_at_call 16
  refine (newUsage_any _ _ _ _ _).mono ?_
  rintro e w1 ⟨rfl, rfl⟩
  go_wp2_with fail
  go_at_call 12
  refine (hap _).mono ?_
  rintro e w1 ⟨rfl, hg, q0, q1, q2, q3, r0, r1, r2, r3⟩
  clear hap
  go_wp2
  go_ret
  exact ⟨rfl, hg⟩
end Go.Proofs.Qxb6600861a
