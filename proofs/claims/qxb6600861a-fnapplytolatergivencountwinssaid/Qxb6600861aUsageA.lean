import Derived.Test.Qxb6600861aRows
import Derived.Test.Qxb6600861aUsageP
import Derived.WalkKit
import Derived.WalkSpells
namespace Go.Proofs.Qxb6600861a
open Go.RowKit

theorem ptr_any (v : Int) (w : World) :
    Calls Try.prog 22 #[.int .i64 v] w fun e w' => e = .returned (.pointer (some ⟨w.heap.size, 0, none⟩)) ∧ w' = w.alloc (.cells #[.int .i64 v] 2) := by
  go_enter Try.func22, Try.ntmps22
  go_wp2
  go_ret
  exact ⟨rfl, rfl⟩
theorem pick_any (h : Bool) (v t : Int) (w : World) :
    Calls Try.prog 13 #[.bool h, .int .i64 v, .int .i64 t] w fun e w' => e = .returned (.int .i64 (pickB h v t)) ∧ w = w' := by
  cases h
  · go_enter Try.func13, Try.ntmps13
    go_wp2
    go_ret
    exact ⟨rfl, rfl⟩
  · go_enter Try.func13, Try.ntmps13
    go_wp2
    go_ret
    exact ⟨rfl, rfl⟩
theorem holds_any (p : Option Addr) (h : Bool) (v : Int) (w : World) (H : HoldsAt w p h v) :
    Calls Try.prog 14 #[.pointer p, .bool h, .int .i64 v] w fun e w' => e = .returned (.bool true) ∧ w = w' := by
  cases h
  · obtain rfl := H.2 rfl
    clear H
    go_enter Try.func14, Try.ntmps14
    go_wp2
    go_ret
    exact ⟨rfl, rfl⟩
  · obtain ⟨b, rfl, hc⟩ := H.1 rfl
    clear H
    go_enter Try.func14, Try.ntmps14
    go_wp2
    go_ret
    exact ⟨rfl, rfl⟩

end Go.Proofs.Qxb6600861a
