import Derived.Test.Qxb6600861aUsageB
import Derived.Test.Qxb6600861aWalkA
import Derived.Test.Qxb6600861aEq
namespace Go.Proofs.Qxb6600861a
open Go.RowKit

/-- What stands behind 'u := zzUsageOf(..); total := ..; u.ApplyTo(&total)': w1: behind zzUsageOf; w3: behind ApplyTo. U = w1.heap.size: u's block; U + 1: total's. -/
structure After (w : World) (h : Nat → Bool) (v t : Nat → Int) (f : Nat → Option Addr) (w1 w3 : World) : Prop where
  size : w1.heap.size + 2 ≤ w3.heap.size
  tot : ∀ j, j < 4 → w3.cell? ⟨w1.heap.size + 1, j, none⟩ = some (.int .i64 (pickB (h j) (v j) (t j)))
  use : ∀ j, j < 4 → w3.cell? ⟨w1.heap.size, j, none⟩ = some (.pointer (f j))
  holds : ∀ (c : Array Value) (ty : TypeId) j, j < 4 → HoldsAt (w3.alloc (.cells c ty)) (f j) (h j) (v j)
  grown : Grown w w3

theorem apply_given (w w1 : World) (h : Nat → Bool) (v : Nat → Int) (f : Nat → Option Addr) (t0 t1 t2 t3 : Int) (g : Given w h v f w1) :
    Calls Try.prog 12 #[.agg #[.pointer (f 0), .pointer (f 1), .pointer (f 2), .pointer (f 3)], .pointer (some ⟨w1.heap.size + 1, 0, none⟩)]
      ((w1.alloc (.cells #[.pointer (f 0), .pointer (f 1), .pointer (f 2), .pointer (f 3)] 24)).alloc (.cells #[.int .i64 t0, .int .i64 t1, .int .i64 t2, .int .i64 t3] 27))
      fun e w3 => e = .returned (.tuple #[]) ∧ After w h v (seq4 t0 t1 t2 t3) f w1 w3 := by
  have hws : w.heap.size ≤ w1.heap.size := g.below.size
  have hx : ∀ b, b < w1.heap.size → ((w1.alloc (.cells #[.pointer (f 0), .pointer (f 1), .pointer (f 2), .pointer (f 3)] 24)).alloc (.cells #[.int .i64 t0, .int .i64 t1, .int .i64 t2, .int .i64 t3] 27)).cell? ⟨b, 0, none⟩ = w1.cell? ⟨b, 0, none⟩ := fun b hb => by
    rw [World.cell?_alloc_past _ _ _ (by simp; omega), World.cell?_alloc_past _ _ _ hb]
  refine (apply_any w _ (w1.heap.size + 1) f v (seq4 t0 t1 t2 t3) (by omega) ?h1 ?h2 ?h3 ?h4 ?h5).mono ?_
  case h1 => simp
  case h2 => exact fun j hj => (g.all j hj).src (by omega) hx
  case h3 => exact all4 (by simp [go_sem, seq4]) (by simp [go_sem, seq4]) (by simp [go_sem, seq4]) (by simp [go_sem, seq4])
  case h4 => exact all4 (by simp [go_sem]) (by simp [go_sem]) (by simp [go_sem]) (by simp [go_sem])
  case h5 => exact (g.grown.alloc _ _).alloc _ _
  rintro e w3 ⟨rfl, hd⟩
  have hs : w1.heap.size + 2 ≤ w3.heap.size := by have := hd.size; simp at this; omega
  have ho : ∀ b, b < w1.heap.size → w3.cell? ⟨b, 0, none⟩ = w1.cell? ⟨b, 0, none⟩ := fun b hb => by
    rw [hd.old ⟨b, 0, none⟩ (by simp; omega) (by show b ≠ w1.heap.size + 1; omega)]; exact hx b hb
  refine ⟨rfl, hs, fun j hj => by rw [hd.tot j hj, pick_given (g.all j hj)], ?_, fun c ty j hj => (g.all j hj).holds fun b hb => ?_, hd.grown⟩
  · refine all4 ?_ ?_ ?_ ?_
    · rw [hd.old ⟨w1.heap.size, 0, none⟩ (by simp; omega) (by simp)]; simp [go_sem]
    · rw [hd.old ⟨w1.heap.size, 1, none⟩ (by simp; omega) (by simp)]; simp [go_sem]
    · rw [hd.old ⟨w1.heap.size, 2, none⟩ (by simp; omega) (by simp)]; simp [go_sem]
    · rw [hd.old ⟨w1.heap.size, 3, none⟩ (by simp; omega) (by simp)]; simp [go_sem]
  · rw [World.cell?_alloc_past _ _ _ (by omega)]; exact ho b hb

set_option maxHeartbeats 1000000 in
theorem keeps_any (h0 h1 h2 h3 : Bool) (v0 v1 v2 v3 t0 t1 t2 t3 : Int) (w : World) :
    Calls Try.prog 3 #[.bool h0, .bool h1, .bool h2, .bool h3, .int .i64 v0, .int .i64 v1, .int .i64 v2, .int .i64 v3, .int .i64 t0, .int .i64 t1, .int .i64 t2, .int .i64 t3] w fun e w' => e = .returned (.bool true) ∧ Grown w w' := by
  generalize e0 : pickB h0 v0 t0 = x0
  generalize e1 : pickB h1 v1 t1 = x1
  generalize e2 : pickB h2 v2 t2 = x2
  generalize e3 : pickB h3 v3 t3 = x3
  have p0 := pick_any h0 v0 t0
  have p1 := pick_any h1 v1 t1
  have p2 := pick_any h2 v2 t2
  have p3 := pick_any h3 v3 t3
  rw [e0] at p0
  rw [e1] at p1
  rw [e2] at p2
  rw [e3] at p3
  have heq : ∀ w, (binOp .neq 27 (.agg #[.int .i64 x0, .int .i64 x1, .int .i64 x2, .int .i64 x3]) (.agg #[.int .i64 x0, .int .i64 x1, .int .i64 x2, .int .i64 x3])).run Try.prog w = .ok (.bool false) w := fun w => by
    rw [run_neq_struct, eq27]; simp
  have E0 : Hid (pickB h0 v0 t0 = x0) := e0
  have E1 : Hid (pickB h1 v1 t1 = x1) := e1
  have E2 : Hid (pickB h2 v2 t2 = x2) := e2
  have E3 : Hid (pickB h3 v3 t3 = x3) := e3
  clear e0 e1 e2 e3
  go_enter Try.func3, Try.ntmps3
  go_wp2_with fail
  go_at_call 11
  refine (usage_any h0 h1 h2 h3 v0 v1 v2 v3 _).mono ?_
  rintro e w1 ⟨f, rfl, hgiv⟩
  go_wp2_with fail
  go_at_call 12
  refine (apply_given w w1 _ _ f t0 t1 t2 t3 hgiv).mono ?_
  rintro e w3 ⟨rfl, ha⟩
  have q0 := ha.tot 0 (by omega)
  have q1 := ha.tot 1 (by omega)
  have q2 := ha.tot 2 (by omega)
  have q3 := ha.tot 3 (by omega)
  simp only [seq4, E0.out, E1.out, E2.out, E3.out] at q0 q1 q2 q3
  have r0 := ha.use 0 (by omega)
  have r1 := ha.use 1 (by omega)
  have r2 := ha.use 2 (by omega)
  have r3 := ha.use 3 (by omega)
  have hs := ha.size
  have hz0 : w1.heap.size < w3.heap.size := by omega
  have hz1 : w1.heap.size + 1 < w3.heap.size := by omega
  go_wp2_with fail
  go_at_call 13
  refine (p0 _).mono ?_
  rintro e w4 ⟨rfl, rfl⟩
  go_wp2_with fail
  go_at_call 13
  refine (p1 _).mono ?_
  rintro e w4 ⟨rfl, rfl⟩
  go_wp2_with fail
  go_at_call 13
  refine (p2 _).mono ?_
  rintro e w4 ⟨rfl, rfl⟩
  go_wp2_with fail
  go_at_call 13
  refine (p3 _).mono ?_
  rintro e w4 ⟨rfl, rfl⟩
  clear p0 p1 p2 p3
  go_wp2_with fail
  go_at_call 14
  refine (holds_any _ _ _ _ (ha.holds _ _ 0 (by omega))).mono ?_
  rintro e w4 ⟨rfl, rfl⟩
  go_wp2_with fail
  go_at_call 14
  refine (holds_any _ _ _ _ (ha.holds _ _ 1 (by omega))).mono ?_
  rintro e w4 ⟨rfl, rfl⟩
  go_wp2_with fail
  go_at_call 14
  refine (holds_any _ _ _ _ (ha.holds _ _ 2 (by omega))).mono ?_
  rintro e w4 ⟨rfl, rfl⟩
  go_wp2_with fail
  go_at_call 14
  refine (holds_any _ _ _ _ (ha.holds _ _ 3 (by omega))).mono ?_
  rintro e w4 ⟨rfl, rfl⟩
  go_wp2
  go_ret
  exact ⟨rfl, ha.grown.alloc _ _⟩
end Go.Proofs.Qxb6600861a
