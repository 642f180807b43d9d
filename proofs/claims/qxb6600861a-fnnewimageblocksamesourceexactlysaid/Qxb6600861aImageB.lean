import Derived.Test.Qxb6600861aImageA
import Derived.Test.Qxb6600861aEqS
namespace Go.Proofs.Qxb6600861a
open Go.RowKit

theorem isEmpty_of {x : ByteArray} (h : x.size = 0) : x.toList.isEmpty = true := by
  rw [← decide_eq_emptyBytes]
  exact decide_eq_true (by cases x with | mk d => cases d with | mk l => cases l with
    | nil => rfl
    | cons a t => exact absurd h (by show ¬ (t.length + 1 = 0); omega))
theorem not_isEmpty_of {x : ByteArray} (h : 0 < x.size) : x.toList.isEmpty = false := by
  rw [← decide_eq_emptyBytes]
  exact decide_eq_false (fun e => by rw [e] at h; exact absurd h (by decide))

theorem bytes17_yes (m d u t : ByteArray) (c : Bool) (h : m.size + d.size + u.size + t.size ≤ 1048576) (w : World) :
    Calls Try.prog 17 #[.string m, .string d, .string u, .bool c, .string t] w fun e w' => e = .returned (.bool true) ∧ w = w' := by
  go_enter Try.func17, Try.ntmps17
  go_wp2
  go_ret
  exact ⟨rfl, rfl⟩
theorem bytes17_no (m d u t : ByteArray) (c : Bool) (h : ¬ m.size + d.size + u.size + t.size ≤ 1048576) (w0 : m.size ≤ maxLen) (w1 : d.size ≤ maxLen) (w2 : u.size ≤ maxLen) (w3 : t.size ≤ maxLen) (w : World) :
    Calls Try.prog 17 #[.string m, .string d, .string u, .bool c, .string t] w fun e w' => e = .returned (.bool false) ∧ w = w' := by
  unfold maxLen at w0 w1 w2 w3
  by_cases k0 : m.size ≤ 1048576
  · by_cases k1 : d.size ≤ 1048576
    · by_cases k2 : m.size + d.size ≤ 1048576
      · by_cases k3 : u.size ≤ 1048576
        · by_cases k4 : m.size + d.size + u.size ≤ 1048576
          · by_cases k5 : t.size ≤ 1048576
            · go_enter Try.func17, Try.ntmps17
              go_wp2
              go_ret
              exact ⟨rfl, rfl⟩
            · go_enter Try.func17, Try.ntmps17
              go_wp2
              go_ret
              exact ⟨rfl, rfl⟩
          · go_enter Try.func17, Try.ntmps17
            go_wp2
            go_ret
            exact ⟨rfl, rfl⟩
        · go_enter Try.func17, Try.ntmps17
          go_wp2
          go_ret
          exact ⟨rfl, rfl⟩
      · go_enter Try.func17, Try.ntmps17
        go_wp2
        go_ret
        exact ⟨rfl, rfl⟩
    · go_enter Try.func17, Try.ntmps17
      go_wp2
      go_ret
      exact ⟨rfl, rfl⟩
  · go_enter Try.func17, Try.ntmps17
    go_wp2
    go_ret
    exact ⟨rfl, rfl⟩

theorem img_url_none (m d u : ByteArray) (hu : 0 < u.size) (w : World) :
    Calls Try.prog 19 #[.pointer (some ⟨w.heap.size, 0, none⟩)] (w.alloc (.cells #[.string m, .string d, .string u, .pointer none] 52)) fun e w' => e = .returned (.agg #[.string ⟨#[105, 109, 97, 103, 101]⟩, .string ⟨#[117, 114, 108]⟩, .string ⟨#[]⟩, .string ⟨#[]⟩, .string u, .pointer none]) ∧ w' = (((w.alloc (.cells #[.string m, .string d, .string u, .pointer none] 52)).alloc (.cells #[.string ⟨#[105, 109, 97, 103, 101]⟩, .string ⟨#[117, 114, 108]⟩, .string ⟨#[]⟩, .string ⟨#[]⟩, .string u, .pointer none] 46)).alloc (.cells #[.string ⟨#[117, 114, 108]⟩, .string ⟨#[]⟩, .string ⟨#[]⟩, .string u] 43)).drew.drew := by
  have h := block_url_none (w.alloc (.cells #[.string m, .string d, .string u, .pointer none] 52)) w.heap.size m d u (by simp) (by simp [go_sem]) (by simp [go_sem]) (by simp [go_sem]) (by simp [go_sem]) (not_isEmpty_of hu)
  exact h

theorem img_url_some (m d u t : ByteArray) (hu : 0 < u.size) (w : World) :
    Calls Try.prog 19 #[.pointer (some ⟨w.heap.size, 0, none⟩)] ((w.alloc (.cells #[.string m, .string d, .string u, .pointer (some ⟨w.heap.size + 1, 0, none⟩)] 52)).alloc (.cells #[.string t] 54)) fun e w' => e = .returned (.agg #[.string ⟨#[105, 109, 97, 103, 101]⟩, .string ⟨#[117, 114, 108]⟩, .string ⟨#[]⟩, .string ⟨#[]⟩, .string u, .pointer (some ⟨w.heap.size + 1 + 1 + 1 + 1, 0, none⟩)]) ∧ w' = (((((w.alloc (.cells #[.string m, .string d, .string u, .pointer (some ⟨w.heap.size + 1, 0, none⟩)] 52)).alloc (.cells #[.string t] 54)).alloc (.cells #[.string ⟨#[105, 109, 97, 103, 101]⟩, .string ⟨#[117, 114, 108]⟩, .string ⟨#[]⟩, .string ⟨#[]⟩, .string u, .pointer (some ⟨w.heap.size + 1 + 1 + 1 + 1, 0, none⟩)] 46)).alloc (.cells #[.string ⟨#[117, 114, 108]⟩, .string ⟨#[]⟩, .string ⟨#[]⟩, .string u] 43)).alloc (.cells #[.string ⟨#[101, 112, 104, 101, 109, 101, 114, 97, 108]⟩, .string t] 49)).drew.drew := by
  have h := block_url_some ((w.alloc (.cells #[.string m, .string d, .string u, .pointer (some ⟨w.heap.size + 1, 0, none⟩)] 52)).alloc (.cells #[.string t] 54)) w.heap.size m d u (by simp; omega) (by simp [go_sem]) (by simp [go_sem]) (by simp [go_sem]) (w.heap.size + 1) t (by simp) (by simp [go_sem]) (by simp [go_sem]) (not_isEmpty_of hu)
  simp only [World.size_alloc] at h
  exact h

theorem img_b64_none (m d u : ByteArray) (hu : u.size = 0) (w : World) :
    Calls Try.prog 19 #[.pointer (some ⟨w.heap.size, 0, none⟩)] (w.alloc (.cells #[.string m, .string d, .string u, .pointer none] 52)) fun e w' => e = .returned (.agg #[.string ⟨#[105, 109, 97, 103, 101]⟩, .string ⟨#[98, 97, 115, 101, 54, 52]⟩, .string m, .string d, .string ⟨#[]⟩, .pointer none]) ∧ w' = (((w.alloc (.cells #[.string m, .string d, .string u, .pointer none] 52)).alloc (.cells #[.string ⟨#[105, 109, 97, 103, 101]⟩, .string ⟨#[98, 97, 115, 101, 54, 52]⟩, .string m, .string d, .string ⟨#[]⟩, .pointer none] 46)).alloc (.cells #[.string ⟨#[98, 97, 115, 101, 54, 52]⟩, .string m, .string d, .string ⟨#[]⟩] 43)).drew.drew := by
  have h := block_b64_none (w.alloc (.cells #[.string m, .string d, .string u, .pointer none] 52)) w.heap.size m d u (by simp) (by simp [go_sem]) (by simp [go_sem]) (by simp [go_sem]) (by simp [go_sem]) (isEmpty_of hu)
  exact h

theorem img_b64_some (m d u t : ByteArray) (hu : u.size = 0) (w : World) :
    Calls Try.prog 19 #[.pointer (some ⟨w.heap.size, 0, none⟩)] ((w.alloc (.cells #[.string m, .string d, .string u, .pointer (some ⟨w.heap.size + 1, 0, none⟩)] 52)).alloc (.cells #[.string t] 54)) fun e w' => e = .returned (.agg #[.string ⟨#[105, 109, 97, 103, 101]⟩, .string ⟨#[98, 97, 115, 101, 54, 52]⟩, .string m, .string d, .string ⟨#[]⟩, .pointer (some ⟨w.heap.size + 1 + 1 + 1 + 1, 0, none⟩)]) ∧ w' = (((((w.alloc (.cells #[.string m, .string d, .string u, .pointer (some ⟨w.heap.size + 1, 0, none⟩)] 52)).alloc (.cells #[.string t] 54)).alloc (.cells #[.string ⟨#[105, 109, 97, 103, 101]⟩, .string ⟨#[98, 97, 115, 101, 54, 52]⟩, .string m, .string d, .string ⟨#[]⟩, .pointer (some ⟨w.heap.size + 1 + 1 + 1 + 1, 0, none⟩)] 46)).alloc (.cells #[.string ⟨#[98, 97, 115, 101, 54, 52]⟩, .string m, .string d, .string ⟨#[]⟩] 43)).alloc (.cells #[.string ⟨#[101, 112, 104, 101, 109, 101, 114, 97, 108]⟩, .string t] 49)).drew.drew := by
  have h := block_b64_some ((w.alloc (.cells #[.string m, .string d, .string u, .pointer (some ⟨w.heap.size + 1, 0, none⟩)] 52)).alloc (.cells #[.string t] 54)) w.heap.size m d u (by simp; omega) (by simp [go_sem]) (by simp [go_sem]) (by simp [go_sem]) (w.heap.size + 1) t (by simp) (by simp [go_sem]) (by simp [go_sem]) (isEmpty_of hu)
  simp only [World.size_alloc] at h
  exact h
end Go.Proofs.Qxb6600861a
