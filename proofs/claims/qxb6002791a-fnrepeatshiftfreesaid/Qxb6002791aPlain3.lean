/-
  THE PLAIN LAW of the seat b6002791a, third part: 'rp': what repeat answers at a place; text put before moves it.
-/
import Derived.Test.Qxb6002791aPlain2
namespace Go.Proofs.Qxb6002791a.Plain

/-- The index behind the lazy mark, if there is one. -/
def lazy (s : ByteArray) (n : Nat) : Nat := if bat s n = 63 then n + 1 else n

def rp (s : ByteArray) (i : Nat) : Int × ByteArray :=
  if bat s i = 123 then
    (if (rc (s.extract i s.size)).1 < 0 then (0, ⟨#[123]⟩)
     else if (rc (s.extract i s.size)).2 = true then (0, s.extract i (i + (rc (s.extract i s.size)).1.toNat))
     else ((lazy s (i + (rc (s.extract i s.size)).1.toNat) : Int), ByteArray.empty))
  else ((lazy s (i + 1) : Int), ByteArray.empty)

theorem size_tail (s : ByteArray) (i : Nat) : (s.extract i s.size).size = s.size - i := by
  rw [ByteArray.size_extract]; omega

theorem lazy_bounds {s : ByteArray} {n : Nat} (h : n ≤ s.size) : n ≤ lazy s n ∧ lazy s n ≤ s.size := by
  unfold lazy
  split
  · rename_i c
    have := lt_of_bat (t := s) (k := n) (by omega)
    omega
  · omega

theorem tail_shift (p s : ByteArray) (i : Nat) : (p ++ s).extract (p.size + i) (p ++ s).size = s.extract i s.size := by
  rw [ByteArray.size_append]
  have := @ByteArray.extract_append_size_add p s i s.size
  exact this

theorem bat_shift (p s : ByteArray) (k : Nat) : bat (p ++ s) (p.size + k) = bat s k := by
  by_cases h : k < s.size
  · rw [bat_in h, bat_in (by rw [ByteArray.size_append]; omega)]
    congr 1
    rw [ByteArray.getElem_append_right (by omega)]
    congr 1
    omega
  · rw [bat_out (t := s) (by omega), bat_out (t := p ++ s) (by rw [ByteArray.size_append]; omega)]

theorem lazy_shift (p s : ByteArray) (n : Nat) : lazy (p ++ s) (p.size + n) = p.size + lazy s n := by
  unfold lazy
  rw [bat_shift]
  split <;> omega

theorem one_brace {s : ByteArray} {i : Nat} (h : bat s i = 123) : (⟨#[123]⟩ : ByteArray) = s.extract i (i + 1) := by
  have hi : i < s.size := lt_of_bat (by omega)
  rw [bat_in hi] at h
  apply ByteArray.ext_getElem
  · rw [ByteArray.size_extract]; show 1 = _; omega
  · intro k h1 h2
    have hk : k = 0 := by have : k < 1 := h1; omega
    subst hk
    rw [ByteArray.getElem_extract]
    apply UInt8.toNat.inj
    exact h.symm

theorem rp_law (p s : ByteArray) (i : Nat) (hi : i < s.size) :
    (∃ n : Nat, i < n ∧ n ≤ s.size ∧ rp s i = ((n : Int), ByteArray.empty) ∧ rp (p ++ s) (p.size + i) = (((n + p.size : Nat) : Int), ByteArray.empty)) ∨
    (∃ m : Nat, 0 < m ∧ i + m ≤ s.size ∧ bat s i = 123 ∧ rp s i = (0, s.extract i (i + m)) ∧ rp (p ++ s) (p.size + i) = (0, s.extract i (i + m))) := by
  unfold rp
  rw [bat_shift, tail_shift]
  by_cases c : bat s i = 123
  · rw [if_pos c, if_pos c]
    by_cases n0 : (rc (s.extract i s.size)).1 < 0
    · rw [if_pos n0, if_pos n0]
      exact .inr ⟨1, by omega, by omega, c, by rw [one_brace c], by rw [one_brace c]⟩
    · rw [if_neg n0, if_neg n0]
      obtain ⟨e, he, h2, hb⟩ := rc_found (t := s.extract i s.size) (by omega)
      have hl := lt_of_bat (t := s.extract i s.size) (k := e) (by omega)
      rw [size_tail] at hl
      have ht : (rc (s.extract i s.size)).1.toNat = e + 1 := by omega
      rw [ht]
      by_cases z : (rc (s.extract i s.size)).2 = true
      · rw [if_pos z, if_pos z]
        refine .inr ⟨e + 1, by omega, by omega, c, rfl, ?_⟩
        rw [Nat.add_assoc, ByteArray.extract_append_size_add]
      · rw [if_neg z, if_neg z]
        have b := lazy_bounds (s := s) (n := i + (e + 1)) (by omega)
        exact .inl ⟨lazy s (i + (e + 1)), by omega, by omega, rfl, by rw [Nat.add_assoc, lazy_shift, Nat.add_comm]⟩
  · rw [if_neg c, if_neg c]
    have b := lazy_bounds (s := s) (n := i + 1) (by omega)
    exact .inl ⟨lazy s (i + 1), by omega, by omega, rfl, by rw [Nat.add_assoc, lazy_shift, Nat.add_comm]⟩

end Go.Proofs.Qxb6002791a.Plain
