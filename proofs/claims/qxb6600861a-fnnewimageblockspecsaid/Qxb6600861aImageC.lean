import Derived.Test.Qxb6600861aImageB
namespace Go.Proofs.Qxb6600861a
open Go.RowKit

set_option maxHeartbeats 1000000 in
theorem spec_url_none (m d u t : ByteArray) (h : m.size + d.size + u.size + t.size ≤ 1048576) (hu : 0 < u.size) (w : World) :
    Calls Try.prog 8 #[.string m, .string d, .string u, .bool false, .string t] w fun e w' => e = .returned (.bool true) ∧ Grown w w' := by
  have hblk := img_url_none m d u hu w
  have heq : ∀ w, (binOp .neq 43 (.agg #[.string ⟨#[117, 114, 108]⟩, .string ⟨#[]⟩, .string ⟨#[]⟩, .string u]) (.agg #[.string ⟨#[117, 114, 108]⟩, .string ⟨#[]⟩, .string ⟨#[]⟩, .string u])).run Try.prog w = .ok (.bool false) w := fun w => by
    rw [run_neq_struct, eq43]; simp
  go_enter Try.func8, Try.ntmps8
  go_wp2_with fail
  go_at_call 17
  refine (bytes17_yes m d u t _ h _).mono ?_
  rintro e w' ⟨rfl, rfl⟩
  go_wp2_with fail
  go_at_call 18
  refine (image_bare m d u t _).mono ?_
  rintro e w' ⟨rfl, rfl⟩
  go_wp2_with fail
  go_at_call 19
  refine hblk.mono ?_
  rintro e w' ⟨rfl, rfl⟩
  clear hblk
  go_wp2
  go_ret
  exact ⟨rfl, by repeat (first | exact Grown.refl _ | apply Grown.drew | apply Grown.alloc)⟩

set_option maxHeartbeats 1000000 in
theorem spec_url_some (m d u t : ByteArray) (h : m.size + d.size + u.size + t.size ≤ 1048576) (hu : 0 < u.size) (w : World) :
    Calls Try.prog 8 #[.string m, .string d, .string u, .bool true, .string t] w fun e w' => e = .returned (.bool true) ∧ Grown w w' := by
  have hblk := img_url_some m d u t hu w
  have heq : ∀ w, (binOp .neq 43 (.agg #[.string ⟨#[117, 114, 108]⟩, .string ⟨#[]⟩, .string ⟨#[]⟩, .string u]) (.agg #[.string ⟨#[117, 114, 108]⟩, .string ⟨#[]⟩, .string ⟨#[]⟩, .string u])).run Try.prog w = .ok (.bool false) w := fun w => by
    rw [run_neq_struct, eq43]; simp
  go_enter Try.func8, Try.ntmps8
  go_wp2_with fail
  go_at_call 17
  refine (bytes17_yes m d u t _ h _).mono ?_
  rintro e w' ⟨rfl, rfl⟩
  go_wp2_with fail
  go_at_call 18
  refine (image_cache m d u t _).mono ?_
  rintro e w' ⟨rfl, rfl⟩
  go_wp2_with fail
  go_at_call 19
  refine hblk.mono ?_
  rintro e w' ⟨rfl, rfl⟩
  clear hblk
  go_wp2
  go_ret
  exact ⟨rfl, by repeat (first | exact Grown.refl _ | apply Grown.drew | apply Grown.alloc)⟩

set_option maxHeartbeats 1000000 in
theorem spec_b64_none (m d u t : ByteArray) (h : m.size + d.size + u.size + t.size ≤ 1048576) (hu : u.size = 0) (w : World) :
    Calls Try.prog 8 #[.string m, .string d, .string u, .bool false, .string t] w fun e w' => e = .returned (.bool true) ∧ Grown w w' := by
  have hblk := img_b64_none m d u hu w
  have heq : ∀ w, (binOp .neq 43 (.agg #[.string ⟨#[98, 97, 115, 101, 54, 52]⟩, .string m, .string d, .string ⟨#[]⟩]) (.agg #[.string ⟨#[98, 97, 115, 101, 54, 52]⟩, .string m, .string d, .string ⟨#[]⟩])).run Try.prog w = .ok (.bool false) w := fun w => by
    rw [run_neq_struct, eq43]; simp
  go_enter Try.func8, Try.ntmps8
  go_wp2_with fail
  go_at_call 17
  refine (bytes17_yes m d u t _ h _).mono ?_
  rintro e w' ⟨rfl, rfl⟩
  go_wp2_with fail
  go_at_call 18
  refine (image_bare m d u t _).mono ?_
  rintro e w' ⟨rfl, rfl⟩
  go_wp2_with fail
  go_at_call 19
  refine hblk.mono ?_
  rintro e w' ⟨rfl, rfl⟩
  clear hblk
  go_wp2
  go_ret
  exact ⟨rfl, by repeat (first | exact Grown.refl _ | apply Grown.drew | apply Grown.alloc)⟩

set_option maxHeartbeats 1000000 in
theorem spec_b64_some (m d u t : ByteArray) (h : m.size + d.size + u.size + t.size ≤ 1048576) (hu : u.size = 0) (w : World) :
    Calls Try.prog 8 #[.string m, .string d, .string u, .bool true, .string t] w fun e w' => e = .returned (.bool true) ∧ Grown w w' := by
  have hblk := img_b64_some m d u t hu w
  have heq : ∀ w, (binOp .neq 43 (.agg #[.string ⟨#[98, 97, 115, 101, 54, 52]⟩, .string m, .string d, .string ⟨#[]⟩]) (.agg #[.string ⟨#[98, 97, 115, 101, 54, 52]⟩, .string m, .string d, .string ⟨#[]⟩])).run Try.prog w = .ok (.bool false) w := fun w => by
    rw [run_neq_struct, eq43]; simp
  go_enter Try.func8, Try.ntmps8
  go_wp2_with fail
  go_at_call 17
  refine (bytes17_yes m d u t _ h _).mono ?_
  rintro e w' ⟨rfl, rfl⟩
  go_wp2_with fail
  go_at_call 18
  refine (image_cache m d u t _).mono ?_
  rintro e w' ⟨rfl, rfl⟩
  go_wp2_with fail
  go_at_call 19
  refine hblk.mono ?_
  rintro e w' ⟨rfl, rfl⟩
  clear hblk
  go_wp2
  go_ret
  exact ⟨rfl, by repeat (first | exact Grown.refl _ | apply Grown.drew | apply Grown.alloc)⟩
end Go.Proofs.Qxb6600861a
