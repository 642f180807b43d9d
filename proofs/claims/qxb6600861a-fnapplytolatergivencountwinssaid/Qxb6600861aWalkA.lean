import Derived.Test.Qxb6600861aRows
import Derived.Test.Qxb6600861aParts
import Derived.WalkKit
import Derived.WalkSpells
import Derived.BigRegion
namespace Go.Proofs.Qxb6600861a
open Go.RowKit

set_option maxHeartbeats 2000000 in
theorem apply_any (W w : World) (T : Nat) (f : Nat → Option Addr) (v t : Nat → Int) (hW : W.heap.size ≤ T) (hT : T < w.heap.size)
    (hsrc : ∀ j, j < 4 → ∀ a, f j = some a → ∃ b o, a = ⟨b, o, none⟩ ∧ b ≠ T ∧ w.cell? ⟨b, o, none⟩ = some (.int .i64 (v j)))
    (ht : ∀ j, j < 4 → w.cell? ⟨T, j, none⟩ = some (.int .i64 (t j))) (hfz : ∀ j, j < 4 → w.frozen? ⟨T, j, none⟩ = false) (hg : Grown W w) :
    Calls Try.prog 12 #[.agg #[.pointer (f 0), .pointer (f 1), .pointer (f 2), .pointer (f 3)], .pointer (some ⟨T, 0, none⟩)] w fun e w' => e = .returned (.tuple #[]) ∧ Done W w T f v t w' := by
  go_enter Try.func12, Try.ntmps12
  go_wp2
  go_region
  go_wp2
  go_loopw [34] (fun i wr => ∃ k : Nat, k ≤ 4 ∧ i = .int .i64 k ∧ Inv W w T f v t k wr) (fun i _ => 4 - (intOf i).toNat)
  case atStart => exact ⟨0, Nat.zero_le _, rfl, (Inv.start hT ht hg _).drew⟩
  case round =>
    obtain ⟨k, hk, rfl, hinv⟩ := hrel
    by_cases hlt : k < 4
    · have hs := hinv.size
      have hs' : w.heap.size + 1 < wr.heap.size := by omega
      have c1 := hinv.frm k hlt
      have c2 := hinv.to k hlt
      have c3 := hinv.tot k hlt
      have c4 : wr.frozen? ⟨T, k, none⟩ = false := (hinv.frozen _).trans (hfz k hlt)
      cases hf : f k with
      | none =>
        rw [hf] at c1
        clear c3 c4
        go_wp2
        go_roundw
        case rel => exact ⟨k + 1, by omega, by go_num, (hinv.alloc hT _ _).skip hf⟩
        case measure => simp [intOf]; omega
      | some a =>
        obtain ⟨b, o, rfl, hbT, hcell⟩ := hsrc k hlt a hf
        have hb : b < w.heap.size := World.block_lt_of_cell? _ _ hcell
        have c5 : wr.cell? ⟨b, o, none⟩ = some (.int .i64 (v k)) := (hinv.old ⟨b, o, none⟩ hb hbT).trans hcell
        have hb' : b < wr.heap.size := by omega
        have hT' : T < wr.heap.size := by omega
        rw [hf] at c1
        have Hf : Hid (f k = some ⟨b, o, none⟩) := hf
        clear hf
        go_wp2
        go_region
        go_wp2
        go_roundw
        case rel => exact ⟨k + 1, by omega, by go_num, ((hinv.set hW hT Hf.out hlt).alloc hT _ _).drew⟩
        case measure => simp [intOf]; omega
    · have : k = 4 := by omega
      subst this
      go_wp2
      go_end0
      exact ⟨rfl, hinv.done⟩
end Go.Proofs.Qxb6600861a
