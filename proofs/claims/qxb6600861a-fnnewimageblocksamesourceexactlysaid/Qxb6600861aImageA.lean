import Derived.Test.Qxb6600861aRows
import Derived.Test.Qxb6600861aParts
import Derived.WalkKit
import Derived.WalkSpells
import Derived.BigRegion
import Derived.Deep.RegionWith
namespace Go.Proofs.Qxb6600861a
open Go.RowKit

theorem image_bare (m d u t : ByteArray) (w : World) :
    Calls Try.prog 18 #[.string m, .string d, .string u, .bool false, .string t] w fun e w' =>
      e = .returned (.pointer (some ⟨w.heap.size, 0, none⟩)) ∧ w' = w.alloc (.cells #[.string m, .string d, .string u, .pointer none] 52) := by
  go_enter Try.func18, Try.ntmps18
  go_wp2
  go_ret
  exact ⟨rfl, rfl⟩
theorem image_cache (m d u t : ByteArray) (w : World) :
    Calls Try.prog 18 #[.string m, .string d, .string u, .bool true, .string t] w fun e w' =>
      e = .returned (.pointer (some ⟨w.heap.size, 0, none⟩)) ∧ w' = (w.alloc (.cells #[.string m, .string d, .string u, .pointer (some ⟨w.heap.size + 1, 0, none⟩)] 52)).alloc (.cells #[.string t] 54) := by
  go_enter Try.func18, Try.ntmps18
  go_wp2
  go_ret
  exact ⟨rfl, rfl⟩
theorem cc_none (w : World) : Calls Try.prog 23 #[.pointer none] w fun e w' => e = .returned (.pointer none) ∧ w' = w := by
  go_enter Try.func23, Try.ntmps23
  go_wp2
  go_ret
  exact ⟨rfl, rfl⟩
theorem cc_some (w : World) (b : Nat) (t : ByteArray) (h : w.cell? ⟨b, 0, none⟩ = some (.string t)) :
    Calls Try.prog 23 #[.pointer (some ⟨b, 0, none⟩)] w fun e w' => e = .returned (.pointer (some ⟨w.heap.size, 0, none⟩)) ∧ w' = w.alloc (.cells #[.string ⟨#[101, 112, 104, 101, 109, 101, 114, 97, 108]⟩, .string t] 49) := by
  go_enter Try.func23, Try.ntmps23
  go_wp2
  go_ret
  exact ⟨rfl, rfl⟩

set_option maxHeartbeats 1000000 in
theorem block_url_none (w : World) (b : Nat) (m d u : ByteArray) (hb : b < w.heap.size) (c0 : w.cell? ⟨b, 0, none⟩ = some (.string m)) (c1 : w.cell? ⟨b, 1, none⟩ = some (.string d)) (c2 : w.cell? ⟨b, 2, none⟩ = some (.string u)) (c3 : w.cell? ⟨b, 3, none⟩ = some (.pointer none)) (hu : u.toList.isEmpty = false) :
    Calls Try.prog 19 #[.pointer (some ⟨b, 0, none⟩)] w fun e w' => e = .returned (.agg #[.string ⟨#[105, 109, 97, 103, 101]⟩, .string ⟨#[117, 114, 108]⟩, .string ⟨#[]⟩, .string ⟨#[]⟩, .string u, .pointer none]) ∧ w' = ((w.alloc (.cells #[.string ⟨#[105, 109, 97, 103, 101]⟩, .string ⟨#[117, 114, 108]⟩, .string ⟨#[]⟩, .string ⟨#[]⟩, .string u, .pointer none] 46)).alloc (.cells #[.string ⟨#[117, 114, 108]⟩, .string ⟨#[]⟩, .string ⟨#[]⟩, .string u] 43)).drew.drew := by
  go_enter Try.func19, Try.ntmps19
  go_wp2
  go_region
  go_wp2
  go_region_with (go_at_call 23; refine (cc_none _).mono ?_; rintro e w' ⟨rfl, rfl⟩)
  all_goals go_wp2
  all_goals exact bodyPost_ret (v := .agg #[.string ⟨#[105, 109, 97, 103, 101]⟩, .string ⟨#[117, 114, 108]⟩, .string ⟨#[]⟩, .string ⟨#[]⟩, .string u, .pointer none]) (by simp [results, Try.results19, go_sem]) rfl ⟨rfl, rfl⟩

set_option maxHeartbeats 1000000 in
theorem block_url_some (w : World) (b : Nat) (m d u : ByteArray) (hb : b < w.heap.size) (c0 : w.cell? ⟨b, 0, none⟩ = some (.string m)) (c1 : w.cell? ⟨b, 1, none⟩ = some (.string d)) (c2 : w.cell? ⟨b, 2, none⟩ = some (.string u)) (k : Nat) (t : ByteArray) (hk : k < w.heap.size) (c3 : w.cell? ⟨b, 3, none⟩ = some (.pointer (some ⟨k, 0, none⟩))) (c4 : w.cell? ⟨k, 0, none⟩ = some (.string t)) (hu : u.toList.isEmpty = false) :
    Calls Try.prog 19 #[.pointer (some ⟨b, 0, none⟩)] w fun e w' => e = .returned (.agg #[.string ⟨#[105, 109, 97, 103, 101]⟩, .string ⟨#[117, 114, 108]⟩, .string ⟨#[]⟩, .string ⟨#[]⟩, .string u, .pointer (some ⟨w.heap.size + 1 + 1, 0, none⟩)]) ∧ w' = (((w.alloc (.cells #[.string ⟨#[105, 109, 97, 103, 101]⟩, .string ⟨#[117, 114, 108]⟩, .string ⟨#[]⟩, .string ⟨#[]⟩, .string u, .pointer (some ⟨w.heap.size + 1 + 1, 0, none⟩)] 46)).alloc (.cells #[.string ⟨#[117, 114, 108]⟩, .string ⟨#[]⟩, .string ⟨#[]⟩, .string u] 43)).alloc (.cells #[.string ⟨#[101, 112, 104, 101, 109, 101, 114, 97, 108]⟩, .string t] 49)).drew.drew := by
  go_enter Try.func19, Try.ntmps19
  go_wp2
  go_region
  go_wp2
  go_region_with (go_at_call 23; refine (cc_some _ k t ?_).mono ?_; go_simp; rintro e w' ⟨rfl, rfl⟩)
  all_goals go_wp2
  all_goals exact bodyPost_ret (v := .agg #[.string ⟨#[105, 109, 97, 103, 101]⟩, .string ⟨#[117, 114, 108]⟩, .string ⟨#[]⟩, .string ⟨#[]⟩, .string u, .pointer (some ⟨w.heap.size + 1 + 1, 0, none⟩)]) (by simp [results, Try.results19, go_sem]) rfl ⟨rfl, rfl⟩

set_option maxHeartbeats 1000000 in
theorem block_b64_none (w : World) (b : Nat) (m d u : ByteArray) (hb : b < w.heap.size) (c0 : w.cell? ⟨b, 0, none⟩ = some (.string m)) (c1 : w.cell? ⟨b, 1, none⟩ = some (.string d)) (c2 : w.cell? ⟨b, 2, none⟩ = some (.string u)) (c3 : w.cell? ⟨b, 3, none⟩ = some (.pointer none)) (hu : u.toList.isEmpty = true) :
    Calls Try.prog 19 #[.pointer (some ⟨b, 0, none⟩)] w fun e w' => e = .returned (.agg #[.string ⟨#[105, 109, 97, 103, 101]⟩, .string ⟨#[98, 97, 115, 101, 54, 52]⟩, .string m, .string d, .string ⟨#[]⟩, .pointer none]) ∧ w' = ((w.alloc (.cells #[.string ⟨#[105, 109, 97, 103, 101]⟩, .string ⟨#[98, 97, 115, 101, 54, 52]⟩, .string m, .string d, .string ⟨#[]⟩, .pointer none] 46)).alloc (.cells #[.string ⟨#[98, 97, 115, 101, 54, 52]⟩, .string m, .string d, .string ⟨#[]⟩] 43)).drew.drew := by
  go_enter Try.func19, Try.ntmps19
  go_wp2
  go_region
  go_wp2
  go_region_with (go_at_call 23; refine (cc_none _).mono ?_; rintro e w' ⟨rfl, rfl⟩)
  all_goals go_wp2
  all_goals exact bodyPost_ret (v := .agg #[.string ⟨#[105, 109, 97, 103, 101]⟩, .string ⟨#[98, 97, 115, 101, 54, 52]⟩, .string m, .string d, .string ⟨#[]⟩, .pointer none]) (by simp [results, Try.results19, go_sem]) rfl ⟨rfl, rfl⟩

set_option maxHeartbeats 1000000 in
theorem block_b64_some (w : World) (b : Nat) (m d u : ByteArray) (hb : b < w.heap.size) (c0 : w.cell? ⟨b, 0, none⟩ = some (.string m)) (c1 : w.cell? ⟨b, 1, none⟩ = some (.string d)) (c2 : w.cell? ⟨b, 2, none⟩ = some (.string u)) (k : Nat) (t : ByteArray) (hk : k < w.heap.size) (c3 : w.cell? ⟨b, 3, none⟩ = some (.pointer (some ⟨k, 0, none⟩))) (c4 : w.cell? ⟨k, 0, none⟩ = some (.string t)) (hu : u.toList.isEmpty = true) :
    Calls Try.prog 19 #[.pointer (some ⟨b, 0, none⟩)] w fun e w' => e = .returned (.agg #[.string ⟨#[105, 109, 97, 103, 101]⟩, .string ⟨#[98, 97, 115, 101, 54, 52]⟩, .string m, .string d, .string ⟨#[]⟩, .pointer (some ⟨w.heap.size + 1 + 1, 0, none⟩)]) ∧ w' = (((w.alloc (.cells #[.string ⟨#[105, 109, 97, 103, 101]⟩, .string ⟨#[98, 97, 115, 101, 54, 52]⟩, .string m, .string d, .string ⟨#[]⟩, .pointer (some ⟨w.heap.size + 1 + 1, 0, none⟩)] 46)).alloc (.cells #[.string ⟨#[98, 97, 115, 101, 54, 52]⟩, .string m, .string d, .string ⟨#[]⟩] 43)).alloc (.cells #[.string ⟨#[101, 112, 104, 101, 109, 101, 114, 97, 108]⟩, .string t] 49)).drew.drew := by
  go_enter Try.func19, Try.ntmps19
  go_wp2
  go_region
  go_wp2
  go_region_with (go_at_call 23; refine (cc_some _ k t ?_).mono ?_; go_simp; rintro e w' ⟨rfl, rfl⟩)
  all_goals go_wp2
  all_goals exact bodyPost_ret (v := .agg #[.string ⟨#[105, 109, 97, 103, 101]⟩, .string ⟨#[98, 97, 115, 101, 54, 52]⟩, .string m, .string d, .string ⟨#[]⟩, .pointer (some ⟨w.heap.size + 1 + 1, 0, none⟩)]) (by simp [results, Try.results19, go_sem]) rfl ⟨rfl, rfl⟩

end Go.Proofs.Qxb6600861a
