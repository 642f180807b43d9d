import Derived.Test.Qxb6002791aRows
import Derived.Test.Qxb6002791aPlain
import Derived.WalkKit
import Derived.WalkSpells
namespace Go.Proofs.Qxb6002791a
open Go.RowKit Plain

theorem dig_iff (n : Nat) : dig n = true ↔ 48 ≤ n ∧ n ≤ 57 := by simp [dig]
theorem dig_not (n : Nat) : dig n = false ↔ n < 48 ∨ 57 < n := by
  rw [← Bool.not_eq_true, dig_iff]; omega

theorem two_ends {a c : Int} {x y : World} (h1 : a = c) (h2 : x = y) : Ending.returned (.int .i64 a) = .returned (.int .i64 c) ∧ x = y := ⟨by rw [h1], h2⟩

theorem lead_yes {t : ByteArray} {f k : Nat} (hk : k = digEnd t f) (h1 : f + 1 < k) (hs : f < t.size) (h2 : t[f].toNat = 48) : lead t f = true := by
  unfold lead; rw [← hk, bat_in hs, h2]; simp [h1]
theorem lead_no1 {t : ByteArray} {f k : Nat} (hk : k = digEnd t f) (h1 : ¬ f + 1 < k) : lead t f = false := by
  unfold lead; rw [← hk]; simp [h1]
theorem lead_no2 {t : ByteArray} {f : Nat} (hs : f < t.size) (h2 : ¬ t[f].toNat = 48) : lead t f = false := by
  unfold lead; rw [bat_in hs]; simp [h2]

set_option maxHeartbeats 1000000 in
theorem digits_any (t : ByteArray) (f : Nat) (b : Bool) (w : World) (ht : t.size ≤ 140737488355328) (hf : f ≤ 140737488355329) :
    Calls Try.prog 16 #[.int .i64 f, .pointer (some ⟨w.heap.size, 0, none⟩), .pointer (some ⟨w.heap.size + 1, 0, none⟩)] ((w.alloc (.cells #[.string t] 9)).alloc (.cells #[.bool b] 4)) fun e w' =>
      e = .returned (.int .i64 (digEnd t f)) ∧ w' = (w.alloc (.cells #[.string t] 9)).alloc (.cells #[.bool (b || lead t f)] 4) := by
  go_enter Try.func16, Try.ntmps16
  go_wp2
  go_loop [5] (fun i => ∃ k : Nat, f ≤ k ∧ k ≤ 140737488355329 ∧ (∀ j, f ≤ j → j < k → dig (bat t j) = true) ∧ i = .int .i64 k) (fun i => t.size - (intOf i).toNat)
  case atStart => exact ⟨f, Nat.le_refl _, hf, fun j h1 h2 => by omega, rfl⟩
  case round =>
    obtain ⟨k, hk1, hk2, hall, rfl⟩ := hrel
    have out : (k < t.size → dig (bat t k) = false) → k = digEnd t f := fun h => IsEnd.eq ⟨hk1, hall, by
      by_cases c : k < t.size
      · exact h c
      · exact dig_out (by omega)⟩
    have hfs : f + 1 < k → f < t.size := fun h => lt_of_dig (hall f (Nat.le_refl _) (by omega))
    have Hall : Hid (∀ j, f ≤ j → j < k → dig (bat t j) = true) := hall
    clear hall
    by_cases hlt : k < t.size
    · by_cases h48 : 48 ≤ t[k].toNat
      · by_cases h57 : t[k].toNat ≤ 57
        · clear out hfs
          have hd : Hid (dig (bat t k) = true) := by show dig (bat t k) = true; rw [bat_in hlt, dig_iff]; exact ⟨h48, h57⟩
          go_wp2
          go_round
          case rel => exact ⟨k + 1, by omega, by omega, fun j h1 h2 => by
            by_cases e : j = k
            · rw [e]; exact hd.out
            · exact Hall.out j h1 (by omega), by go_num⟩
          case measure => simp [intOf]; omega
        · have he : Hid (k = digEnd t f) := out fun h => by rw [bat_in hlt, dig_not]; omega
          clear out
          by_cases h1 : f + 1 < k
          · have hs := hfs h1
            clear hfs
            by_cases h2 : t[f].toNat = 48
            · go_wp2
              go_ret
              exact two_ends (by rw [← he.out]) (by rw [lead_yes he.out h1 hs h2, Bool.or_true])
            · go_wp2
              go_ret
              exact two_ends (by rw [← he.out]) (by rw [lead_no2 hs h2, Bool.or_false])
          · clear hfs
            go_wp2
            go_ret
            exact two_ends (by rw [← he.out]) (by rw [lead_no1 he.out h1, Bool.or_false])
      · have he : Hid (k = digEnd t f) := out fun h => by rw [bat_in hlt, dig_not]; omega
        clear out
        by_cases h1 : f + 1 < k
        · have hs := hfs h1
          clear hfs
          by_cases h2 : t[f].toNat = 48
          · go_wp2
            go_ret
            exact two_ends (by rw [← he.out]) (by rw [lead_yes he.out h1 hs h2, Bool.or_true])
          · go_wp2
            go_ret
            exact two_ends (by rw [← he.out]) (by rw [lead_no2 hs h2, Bool.or_false])
        · clear hfs
          go_wp2
          go_ret
          exact two_ends (by rw [← he.out]) (by rw [lead_no1 he.out h1, Bool.or_false])
    · have he : Hid (k = digEnd t f) := out fun h => by omega
      clear out
      by_cases h1 : f + 1 < k
      · have hs := hfs h1
        clear hfs
        by_cases h2 : t[f].toNat = 48
        · go_wp2
          go_ret
          exact two_ends (by rw [← he.out]) (by rw [lead_yes he.out h1 hs h2, Bool.or_true])
        · go_wp2
          go_ret
          exact two_ends (by rw [← he.out]) (by rw [lead_no2 hs h2, Bool.or_false])
      · clear hfs
        go_wp2
        go_ret
        exact two_ends (by rw [← he.out]) (by rw [lead_no1 he.out h1, Bool.or_false])
end Go.Proofs.Qxb6002791a
