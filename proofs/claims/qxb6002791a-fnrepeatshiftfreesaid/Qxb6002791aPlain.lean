/-
  THE PLAIN LAW of the seat b6002791a: no Go in sight. 'bat': a byte by its place, 256 behind the end; 'digEnd': where a run of digits ends; 'rc': what repeatCount answers.
-/
import Derived.WalkKit
namespace Go.Proofs.Qxb6002791a.Plain

def bat (t : ByteArray) (k : Nat) : Nat := if h : k < t.size then (t[k]).toNat else 256
def dig (n : Nat) : Bool := decide (48 ≤ n) && decide (n ≤ 57)
def runEnd (t : ByteArray) : Nat → Nat → Nat
  | 0, k => k
  | f + 1, k => if dig (bat t k) then runEnd t f (k + 1) else k
def digEnd (t : ByteArray) (f : Nat) : Nat := runEnd t (t.size - f) f
def lead (t : ByteArray) (f : Nat) : Bool := decide (f + 1 < digEnd t f) && (bat t f == 48)
def rc (t : ByteArray) : Int × Bool :=
  if digEnd t 1 = 1 then (-1, false)
  else if bat t (digEnd t 1) = 44 then
    (if bat t (digEnd t (digEnd t 1 + 1)) = 125 then ((digEnd t (digEnd t 1 + 1) : Int) + 1, lead t 1 || lead t (digEnd t 1 + 1)) else (-1, false))
  else if bat t (digEnd t 1) = 125 then ((digEnd t 1 : Int) + 1, lead t 1)
  else (-1, false)

structure IsEnd (t : ByteArray) (f e : Nat) : Prop where
  le : f ≤ e
  all : ∀ j, f ≤ j → j < e → dig (bat t j) = true
  out : dig (bat t e) = false

theorem bat_out {t : ByteArray} {k : Nat} (h : t.size ≤ k) : bat t k = 256 := by
  unfold bat; rw [dif_neg (by omega)]
theorem bat_in {t : ByteArray} {k : Nat} (h : k < t.size) : bat t k = (t[k]).toNat := by
  unfold bat; rw [dif_pos h]
theorem dig_out {t : ByteArray} {k : Nat} (h : t.size ≤ k) : dig (bat t k) = false := by
  rw [bat_out h]; rfl
theorem lt_of_dig {t : ByteArray} {k : Nat} (h : dig (bat t k) = true) : k < t.size := by
  by_cases c : k < t.size
  · exact c
  · rw [dig_out (by omega)] at h; cases h
theorem lt_of_bat {t : ByteArray} {k : Nat} (h : bat t k < 256) : k < t.size := by
  by_cases c : k < t.size
  · exact c
  · rw [bat_out (by omega)] at h; omega

theorem runEnd_end (t : ByteArray) : ∀ (n k : Nat), t.size ≤ k + n → IsEnd t k (runEnd t n k)
  | 0, k, h => ⟨Nat.le_refl _, fun j h1 h2 => by simp only [runEnd] at h2; omega, dig_out (by simpa [runEnd] using h)⟩
  | n + 1, k, h => by
    unfold runEnd
    by_cases c : dig (bat t k) = true
    · rw [if_pos c]
      have r := runEnd_end t n (k + 1) (by omega)
      refine ⟨by have := r.le; omega, fun j h1 h2 => ?_, r.out⟩
      by_cases e : j = k
      · rw [e]; exact c
      · exact r.all j (by omega) h2
    · rw [if_neg c]
      exact ⟨Nat.le_refl _, fun j h1 h2 => by omega, by simpa using c⟩

theorem digEnd_end (t : ByteArray) (f : Nat) : IsEnd t f (digEnd t f) := runEnd_end t _ f (by omega)

theorem IsEnd.uniq {t : ByteArray} {f a b : Nat} (ha : IsEnd t f a) (hb : IsEnd t f b) : a = b := by
  by_cases h : a < b
  · have := hb.all a ha.le h; rw [ha.out] at this; cases this
  · by_cases h2 : b < a
    · have := ha.all b hb.le h2; rw [hb.out] at this; cases this
    · omega

theorem IsEnd.eq {t : ByteArray} {f a : Nat} (ha : IsEnd t f a) : a = digEnd t f := ha.uniq (digEnd_end t f)

theorem digEnd_ge (t : ByteArray) (f : Nat) : f ≤ digEnd t f := (digEnd_end t f).le
theorem digEnd_le (t : ByteArray) (f n : Nat) (h : f ≤ n) (hs : t.size ≤ n) : digEnd t f ≤ n := by
  have r := digEnd_end t f
  by_cases c : digEnd t f ≤ n
  · exact c
  · have := r.all n h (by omega); rw [dig_out hs] at this; cases this

/-! ### two texts that agree up to a place -/
def Agree (t u : ByteArray) (a b n : Nat) : Prop := ∀ k, k < n → bat u (b + k) = bat t (a + k)

theorem digEnd_agree {t u : ByteArray} {a b n f : Nat} (h : Agree t u a b n) (hf : a + f ≤ digEnd t (a + f)) (he : digEnd t (a + f) < a + n) :
    digEnd u (b + f) = b + (digEnd t (a + f) - a) := by
  have r := digEnd_end t (a + f)
  symm
  apply IsEnd.eq
  refine ⟨by omega, fun j h1 h2 => ?_, ?_⟩
  · have e := h (j - b) (by omega)
    rw [show b + (j - b) = j by omega] at e
    rw [e]; exact r.all _ (by omega) (by omega)
  · have e := h (digEnd t (a + f) - a) (by omega)
    rw [e, show a + (digEnd t (a + f) - a) = digEnd t (a + f) by omega]; exact r.out

end Go.Proofs.Qxb6002791a.Plain
