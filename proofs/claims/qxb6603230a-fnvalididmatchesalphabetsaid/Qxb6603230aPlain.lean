/-
  THE PLAIN LAW of the seat b6603230a: no Go in sight. 'okb': a byte of the alphabet; 'valid': every byte is one, and there is one.
-/
import Derived.WalkKit
namespace Go.Proofs.Qxb6603230a.Plain

def okb (c : Nat) : Bool := (decide (97 ≤ c) && decide (c ≤ 122)) || (decide (65 ≤ c) && decide (c ≤ 90)) || (decide (48 ≤ c) && decide (c ≤ 57)) || (c == 45)

def bat (t : ByteArray) (k : Nat) : Nat := if h : k < t.size then (t[k]).toNat else 256
theorem bat_in {t : ByteArray} {k : Nat} (h : k < t.size) : bat t k = (t[k]).toNat := by unfold bat; rw [dif_pos h]

def allOk (t : ByteArray) : Nat → Bool
  | 0 => true
  | n + 1 => allOk t n && okb (bat t n)
def valid (t : ByteArray) : Bool := (t.size != 0) && allOk t t.size

theorem allOk_iff (t : ByteArray) : ∀ n, allOk t n = true ↔ ∀ j, j < n → okb (bat t j) = true
  | 0 => by simp [allOk]
  | n + 1 => by
    unfold allOk
    rw [Bool.and_eq_true, allOk_iff t n]
    constructor
    · rintro ⟨h1, h2⟩ j hj
      by_cases e : j = n
      · rw [e]; exact h2
      · exact h1 j (by omega)
    · intro h
      exact ⟨fun j hj => h j (by omega), h n (by omega)⟩

theorem valid_yes {t : ByteArray} (h0 : ¬ t.size = 0) (h : ∀ j, j < t.size → okb (bat t j) = true) : valid t = true := by
  unfold valid; rw [(allOk_iff t _).2 h]; simp [h0]
theorem valid_no {t : ByteArray} {k : Nat} (hk : k < t.size) (h : okb (bat t k) = false) : valid t = false := by
  have : allOk t t.size = false := by
    cases c : allOk t t.size
    · rfl
    · have := (allOk_iff t _).1 c k hk; rw [h] at this; cases this
  unfold valid; rw [this, Bool.and_false]
theorem valid_empty {t : ByteArray} (h0 : t.size = 0) : valid t = false := by unfold valid; simp [h0]

end Go.Proofs.Qxb6603230a.Plain
