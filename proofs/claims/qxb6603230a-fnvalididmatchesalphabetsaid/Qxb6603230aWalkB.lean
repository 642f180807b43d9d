import Derived.Test.Qxb6603230aWalkA
import Derived.BigQuiet
import Derived.Deep.QuietTactic
namespace Go.Proofs.Qxb6603230a
open Go.RowKit Plain

/-- The alphabet as the program's text has it. -/
def alphabet : ByteArray := ⟨#[97, 98, 99, 100, 101, 102, 103, 104, 105, 106, 107, 108, 109, 110, 111, 112, 113, 114, 115, 116, 117, 118, 119, 120, 121, 122, 65, 66, 67, 68, 69, 70, 71, 72, 73, 74, 75, 76, 77, 78, 79, 80, 81, 82, 83, 84, 85, 86, 87, 88, 89, 90, 48, 49, 50, 51, 52, 53, 54, 55, 56, 57, 45]⟩
theorem alph_size : alphabet.size = 63 := rfl
theorem alph_ok : ∀ j, j < 63 → okb (bat alphabet j) = true := by decide +kernel
theorem alph_all : ∀ c, c < 123 → okb c = true → ∃ j, j < 63 ∧ bat alphabet j = c := by decide +kernel
theorem okb_lt {c : Nat} (h : okb c = true) : c < 123 := by
  by_cases e : c < 123
  · exact e
  · rw [okb_no (by omega) (by omega) (by omega) (by omega)] at h; cases h

theorem hit {j : Nat} (hj : j < alphabet.size) (c : UInt8) (h : (((alphabet[j]'hj).toNat : Int) == (c.toNat : Int)) = true) : okb c.toNat = true := by
  have e : (alphabet[j]'hj).toNat = c.toNat := by have := eq_of_beq h; omega
  rw [← e, ← bat_in hj]
  exact alph_ok j hj
theorem miss {j : Nat} (hj : j < alphabet.size) (c : UInt8) (h : (((alphabet[j]'hj).toNat : Int) == (c.toNat : Int)) = false) : ¬ bat alphabet j = c.toNat := by
  rw [bat_in hj]
  intro e
  rw [e] at h
  simp at h
theorem none_hit {c : Nat} (h : ∀ i, i < 63 → ¬ bat alphabet i = c) : okb c = false := by
  cases e : okb c
  · rfl
  · obtain ⟨j, hj, hc⟩ := alph_all c (okb_lt e) e
    exact (h j hj hc).elim

theorem below_drewN {B : Nat} {a x : World} (h : Below B a x) (n : Nat) : Below B a (x.drewN n) := ⟨h.os, h.tape, h.output, h.size, h.block⟩

set_option maxHeartbeats 1000000 in
theorem model_some (s : ByteArray) (w : World) (hs : s.size ≤ 1048576) (h0 : ¬ s.size = 0) :
    Calls Try.prog 7 #[.string s] w fun e w' => e = .returned (.bool (valid s)) ∧ Below w.heap.size w w' := by
  go_enter Try.func7, Try.ntmps7
  go_wp2
  go_loopw [3] (fun i wr => ∃ k : Nat, k ≤ s.size ∧ (∀ j, j < k → okb (bat s j) = true) ∧ i = .int .i64 k ∧ Below w.heap.size w wr) (fun i _ => s.size - (intOf i).toNat)
  case atStart => exact ⟨0, Nat.zero_le _, fun j h => by omega, rfl, Below.refl _ _⟩
  case round =>
    obtain ⟨k, hk, hall, rfl, hb⟩ := hrel
    have Hall : Hid (∀ j, j < k → okb (bat s j) = true) := hall
    clear hall
    by_cases hlt : k < s.size
    · have Next : Hid (okb s[k].toNat = true → ∀ j, j < k + 1 → okb (bat s j) = true) := fun h j hj => by
        by_cases e : j = k
        · subst e; rw [bat_in hlt]; exact h
        · exact Hall.out j (by omega)
      have Bad : Hid (okb s[k].toNat = false → valid s = false) := fun h => valid_no hlt (by rw [bat_in hlt]; exact h)
      go_wp2
      go_loopw [4, 5] (fun f i wx => ∃ j : Nat, j ≤ 63 ∧ f = .bool false ∧ i = .int .i64 j ∧ (∀ i, i < j → ¬ bat alphabet i = s[k].toNat) ∧ Below w.heap.size w wx) (fun _ i _ => 63 - (intOf i).toNat)
      case atStart => exact ⟨0, Nat.zero_le _, rfl, rfl, fun i hi => by omega, hb⟩
      case round =>
        obtain ⟨j, hj, rfl, rfl, hno, hb2⟩ := hrel
        have No : Hid (∀ i, i < j → ¬ bat alphabet i = s[k].toNat) := hno
        clear hno
        by_cases hj2 : j < 63
        · go_wp2
          go_quiet (fail)
          go_wp2
          · go_roundw
            case rel => exact ⟨k + 1, by omega, Next.out (hit (j := j) hj2 s[k] (by assumption)), by go_num, below_drewN hb2 _⟩
            case measure => simp [intOf]; omega
          · have hm := miss (j := j) hj2 s[k] (by assumption)
            go_roundw
            case rel => exact ⟨j + 1, by omega, rfl, by go_num, fun i hi => by
              by_cases e : i = j
              · subst e; exact hm
              · exact No.out i (by omega), below_drewN hb2 _⟩
            case measure => simp [intOf]; omega
        · have hje : j = 63 := by omega
          have Hv : Hid (valid s = false) := Bad.out (none_hit fun i hi => No.out i (by omega))
          go_wp2
          go_ret
          exact ret_bool Hv.out.symm hb2
    · have Hv : Hid (valid s = true) := valid_yes h0 fun j hj => Hall.out j (by omega)
      go_wp2
      go_ret
      exact ret_bool Hv.out.symm hb

theorem model_any (s : ByteArray) (w : World) (hs : s.size ≤ 1048576) :
    Calls Try.prog 7 #[.string s] w fun e w' => e = .returned (.bool (valid s)) ∧ Below w.heap.size w w' := by
  by_cases h0 : s.size = 0
  · have Hv : Hid (valid s = false) := valid_empty h0
    go_enter Try.func7, Try.ntmps7
    go_wp2
    go_ret
    exact ret_bool Hv.out.symm (Below.refl _ _)
  · exact model_some s w hs h0

theorem bytes_yes (s : ByteArray) (h : s.size ≤ 1048576) (w : World) : Calls Try.prog 5 #[.string s] w fun e w' => e = .returned (.bool true) ∧ w = w' := by
  go_enter Try.func5, Try.ntmps5
  go_wp2
  go_ret
  exact ⟨rfl, rfl⟩
theorem bytes_no (s : ByteArray) (h : ¬ s.size ≤ 1048576) (hm : s.size ≤ maxLen) (w : World) : Calls Try.prog 5 #[.string s] w fun e w' => e = .returned (.bool false) ∧ w = w' := by
  unfold maxLen at hm
  go_enter Try.func5, Try.ntmps5
  go_wp2
  go_ret
  exact ⟨rfl, rfl⟩
theorem zz_any (s : ByteArray) (h : s.size ≤ 1048576) (w : World) : Calls Try.prog 6 #[.string s] w fun e w' => e = .returned (.bool (valid s)) ∧ Below w.heap.size w w' := by
  go_enter Try.func6, Try.ntmps6
  go_wp2_with (go_at_call 9; refine (valid_any s _ h).mono ?_; rintro e w' ⟨rfl, hb⟩)
  go_ret
  exact ⟨rfl, by assumption⟩

set_option maxHeartbeats 400000 in
theorem law_any (s : ByteArray) (hm : s.size ≤ maxLen) (w : World) : Calls Try.prog 3 #[.string s] w fun e w' => e = .returned (.bool true) ∧ Below w.heap.size w w' := by
  by_cases h : s.size ≤ 1048576
  · have c1 := zz_any s h
    have c2 := fun w => model_any s w h
    generalize valid s = b at c1 c2
    go_enter Try.func3, Try.ntmps3
    go_wp2_with fail
    go_at_call 5
    refine (bytes_yes s h _).mono ?_
    rintro e w' ⟨rfl, rfl⟩
    go_wp2_with fail
    go_at_call 6
    refine (c1 _).mono ?_
    rintro e w1 ⟨rfl, hb1⟩
    go_wp2_with fail
    go_at_call 7
    refine (c2 _).mono ?_
    rintro e w2 ⟨rfl, hb2⟩
    clear c1 c2
    go_wp2
    go_ret
    exact ⟨by simp, hb1.trans (hb2.mono hb1.size)⟩
  · go_enter Try.func3, Try.ntmps3
    go_wp2_with (go_at_call 5; refine (bytes_no s h hm _).mono ?_; rintro e w' ⟨rfl, rfl⟩)
    go_ret
    exact ⟨rfl, Below.refl _ _⟩
end Go.Proofs.Qxb6603230a
