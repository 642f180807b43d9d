import Derived.Test.Qxb6600861aImageD
namespace Go.Proofs.Qxb6600861a
open Go.RowKit

set_option maxHeartbeats 2000000 in
theorem same_b64_some_ed (m1 d1 m2 d2 u t : ByteArray) (h : m1.size + d1.size + m2.size + d2.size + u.size + t.size ≤ 1048576) (hu : u.size = 0) (em : (m1.toList == m2.toList) = true) (ed : (d1.toList == d2.toList) = false) (w : World) :
    Calls Try.prog 9 #[.string m1, .string d1, .string m2, .string d2, .string u, .bool true, .string t] w fun e w' => e = .returned (.bool true) ∧ Grown w w' := by
  have hblk1 := img_b64_some m1 d1 u t hu w
  have hblk2 := img_b64_some m2 d2 u t hu ((((((w.alloc (.cells #[.string m1, .string d1, .string u, .pointer (some ⟨w.heap.size + 1, 0, none⟩)] 52)).alloc (.cells #[.string t] 54)).alloc (.cells #[.string ⟨#[105, 109, 97, 103, 101]⟩, .string ⟨#[98, 97, 115, 101, 54, 52]⟩, .string m1, .string d1, .string ⟨#[]⟩, .pointer (some ⟨w.heap.size + 1 + 1 + 1 + 1, 0, none⟩)] 46)).alloc (.cells #[.string ⟨#[98, 97, 115, 101, 54, 52]⟩, .string m1, .string d1, .string ⟨#[]⟩] 43)).alloc (.cells #[.string ⟨#[101, 112, 104, 101, 109, 101, 114, 97, 108]⟩, .string t] 49)).alloc (.cells #[.string ⟨#[105, 109, 97, 103, 101]⟩, .string ⟨#[98, 97, 115, 101, 54, 52]⟩, .string m1, .string d1, .string ⟨#[]⟩, .pointer (some ⟨w.heap.size + 1 + 1 + 1 + 1, 0, none⟩)] 46)).drew.drew
  simp only [World.size_alloc, World.size_drew, World.alloc_drew] at hblk2
  have heq : ∀ w, (binOp .eql 43 (.agg #[.string ⟨#[98, 97, 115, 101, 54, 52]⟩, .string m1, .string d1, .string ⟨#[]⟩]) (.agg #[.string ⟨#[98, 97, 115, 101, 54, 52]⟩, .string m2, .string d2, .string ⟨#[]⟩])).run Try.prog w = .ok (.bool false) w := fun w => by
    rw [run_eql_struct, eq43]; simp only [em, ed, beq_self_eq_true, Bool.and_true, Bool.and_false, Result.andThen_ok]
  have heq2 : ∀ w, (binOp .neq 49 (.agg #[.string ⟨#[101, 112, 104, 101, 109, 101, 114, 97, 108]⟩, .string t]) (.agg #[.string ⟨#[101, 112, 104, 101, 109, 101, 114, 97, 108]⟩, .string t])).run Try.prog w = .ok (.bool false) w := fun w => by
    rw [run_neq_struct, eq49]; simp
  go_enter Try.func9, Try.ntmps9
  go_wp2_with fail
  go_at_call 20
  refine (bytes20_yes m1 d1 m2 d2 u t _ h _).mono ?_
  rintro e w' ⟨rfl, rfl⟩
  go_wp2_with fail
  go_at_call 18
  refine (image_cache m1 d1 u t _).mono ?_
  rintro e w' ⟨rfl, rfl⟩
  go_wp2_with fail
  go_at_call 19
  refine hblk1.mono ?_
  rintro e w' ⟨rfl, rfl⟩
  go_wp2_with fail
  go_at_call 18
  refine (image_cache m2 d2 u t _).mono ?_
  rintro e w' ⟨rfl, rfl⟩
  go_wp2_with fail
  go_at_call 19
  refine hblk2.mono ?_
  rintro e w' ⟨rfl, rfl⟩
  clear hblk1 hblk2
  go_wp2
  go_quiet (fail)
  go_wp2
  go_ret
  exact ⟨rfl, by repeat (first | exact Grown.refl _ | apply grown_drewN | apply Grown.drew | apply Grown.alloc)⟩

set_option maxHeartbeats 2000000 in
theorem same_b64_some_em (m1 d1 m2 d2 u t : ByteArray) (h : m1.size + d1.size + m2.size + d2.size + u.size + t.size ≤ 1048576) (hu : u.size = 0) (em : (m1.toList == m2.toList) = false) (w : World) :
    Calls Try.prog 9 #[.string m1, .string d1, .string m2, .string d2, .string u, .bool true, .string t] w fun e w' => e = .returned (.bool true) ∧ Grown w w' := by
  have hblk1 := img_b64_some m1 d1 u t hu w
  have hblk2 := img_b64_some m2 d2 u t hu ((((((w.alloc (.cells #[.string m1, .string d1, .string u, .pointer (some ⟨w.heap.size + 1, 0, none⟩)] 52)).alloc (.cells #[.string t] 54)).alloc (.cells #[.string ⟨#[105, 109, 97, 103, 101]⟩, .string ⟨#[98, 97, 115, 101, 54, 52]⟩, .string m1, .string d1, .string ⟨#[]⟩, .pointer (some ⟨w.heap.size + 1 + 1 + 1 + 1, 0, none⟩)] 46)).alloc (.cells #[.string ⟨#[98, 97, 115, 101, 54, 52]⟩, .string m1, .string d1, .string ⟨#[]⟩] 43)).alloc (.cells #[.string ⟨#[101, 112, 104, 101, 109, 101, 114, 97, 108]⟩, .string t] 49)).alloc (.cells #[.string ⟨#[105, 109, 97, 103, 101]⟩, .string ⟨#[98, 97, 115, 101, 54, 52]⟩, .string m1, .string d1, .string ⟨#[]⟩, .pointer (some ⟨w.heap.size + 1 + 1 + 1 + 1, 0, none⟩)] 46)).drew.drew
  simp only [World.size_alloc, World.size_drew, World.alloc_drew] at hblk2
  have heq : ∀ w, (binOp .eql 43 (.agg #[.string ⟨#[98, 97, 115, 101, 54, 52]⟩, .string m1, .string d1, .string ⟨#[]⟩]) (.agg #[.string ⟨#[98, 97, 115, 101, 54, 52]⟩, .string m2, .string d2, .string ⟨#[]⟩])).run Try.prog w = .ok (.bool false) w := fun w => by
    rw [run_eql_struct, eq43]; simp only [em, beq_self_eq_true, Bool.and_true, Bool.and_false, Bool.false_and, Result.andThen_ok]
  have heq2 : ∀ w, (binOp .neq 49 (.agg #[.string ⟨#[101, 112, 104, 101, 109, 101, 114, 97, 108]⟩, .string t]) (.agg #[.string ⟨#[101, 112, 104, 101, 109, 101, 114, 97, 108]⟩, .string t])).run Try.prog w = .ok (.bool false) w := fun w => by
    rw [run_neq_struct, eq49]; simp
  go_enter Try.func9, Try.ntmps9
  go_wp2_with fail
  go_at_call 20
  refine (bytes20_yes m1 d1 m2 d2 u t _ h _).mono ?_
  rintro e w' ⟨rfl, rfl⟩
  go_wp2_with fail
  go_at_call 18
  refine (image_cache m1 d1 u t _).mono ?_
  rintro e w' ⟨rfl, rfl⟩
  go_wp2_with fail
  go_at_call 19
  refine hblk1.mono ?_
  rintro e w' ⟨rfl, rfl⟩
  go_wp2_with fail
  go_at_call 18
  refine (image_cache m2 d2 u t _).mono ?_
  rintro e w' ⟨rfl, rfl⟩
  go_wp2_with fail
  go_at_call 19
  refine hblk2.mono ?_
  rintro e w' ⟨rfl, rfl⟩
  clear hblk1 hblk2
  go_wp2
  go_quiet (fail)
  go_wp2
  go_ret
  exact ⟨rfl, by repeat (first | exact Grown.refl _ | apply grown_drewN | apply Grown.drew | apply Grown.alloc)⟩
end Go.Proofs.Qxb6600861a
