import Derived.Test.Qxb6600861aImageB
import Derived.BigQuiet
import Derived.Deep.QuietTactic
namespace Go.Proofs.Qxb6600861a
open Go.RowKit

theorem bytes20_yes (m1 d1 m2 d2 u t : ByteArray) (c : Bool) (h : m1.size + d1.size + m2.size + d2.size + u.size + t.size ≤ 1048576) (w : World) :
    Calls Try.prog 20 #[.string m1, .string d1, .string m2, .string d2, .string u, .bool c, .string t] w fun e w' => e = .returned (.bool true) ∧ w = w' := by
  go_enter Try.func20, Try.ntmps20
  go_wp2
  go_ret
  exact ⟨rfl, rfl⟩
set_option maxHeartbeats 1000000 in
theorem bytes20_no (m1 d1 m2 d2 u t : ByteArray) (c : Bool) (h : ¬ m1.size + d1.size + m2.size + d2.size + u.size + t.size ≤ 1048576) (w0 : m1.size ≤ maxLen) (w1 : d1.size ≤ maxLen) (w2 : m2.size ≤ maxLen) (w3 : d2.size ≤ maxLen) (w4 : u.size ≤ maxLen) (w5 : t.size ≤ maxLen) (w : World) :
    Calls Try.prog 20 #[.string m1, .string d1, .string m2, .string d2, .string u, .bool c, .string t] w fun e w' => e = .returned (.bool false) ∧ w = w' := by
  unfold maxLen at w0 w1 w2 w3 w4 w5
  by_cases k0 : m1.size ≤ 1048576
  · by_cases k1 : d1.size ≤ 1048576
    · by_cases k2 : m1.size + d1.size ≤ 1048576
      · by_cases k3 : m2.size ≤ 1048576
        · by_cases k4 : m1.size + d1.size + m2.size ≤ 1048576
          · by_cases k5 : d2.size ≤ 1048576
            · by_cases k6 : m1.size + d1.size + m2.size + d2.size ≤ 1048576
              · by_cases k7 : u.size ≤ 1048576
                · by_cases k8 : m1.size + d1.size + m2.size + d2.size + u.size ≤ 1048576
                  · by_cases k9 : t.size ≤ 1048576
                    · go_enter Try.func20, Try.ntmps20
                      go_wp2
                      go_ret
                      exact ⟨rfl, rfl⟩
                    · go_enter Try.func20, Try.ntmps20
                      go_wp2
                      go_ret
                      exact ⟨rfl, rfl⟩
                  · go_enter Try.func20, Try.ntmps20
                    go_wp2
                    go_ret
                    exact ⟨rfl, rfl⟩
                · go_enter Try.func20, Try.ntmps20
                  go_wp2
                  go_ret
                  exact ⟨rfl, rfl⟩
              · go_enter Try.func20, Try.ntmps20
                go_wp2
                go_ret
                exact ⟨rfl, rfl⟩
            · go_enter Try.func20, Try.ntmps20
              go_wp2
              go_ret
              exact ⟨rfl, rfl⟩
          · go_enter Try.func20, Try.ntmps20
            go_wp2
            go_ret
            exact ⟨rfl, rfl⟩
        · go_enter Try.func20, Try.ntmps20
          go_wp2
          go_ret
          exact ⟨rfl, rfl⟩
      · go_enter Try.func20, Try.ntmps20
        go_wp2
        go_ret
        exact ⟨rfl, rfl⟩
    · go_enter Try.func20, Try.ntmps20
      go_wp2
      go_ret
      exact ⟨rfl, rfl⟩
  · go_enter Try.func20, Try.ntmps20
    go_wp2
    go_ret
    exact ⟨rfl, rfl⟩
end Go.Proofs.Qxb6600861a
