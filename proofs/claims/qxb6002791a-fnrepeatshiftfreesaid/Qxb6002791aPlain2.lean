/-
  THE PLAIN LAW of the seat b6002791a, second part: what 'rc' answers, and that it looks no further than the '}' it finds.
-/
import Derived.Test.Qxb6002791aPlain
namespace Go.Proofs.Qxb6002791a.Plain

theorem rc_none {t : ByteArray} (h : (rc t).1 = -1) : (rc t).2 = false := by
  unfold rc at h ⊢
  split
  · rfl
  · rename_i n1
    rw [if_neg n1] at h
    split
    · rename_i n2
      rw [if_pos n2] at h
      split
      · rename_i n3
        rw [if_pos n3] at h
        simp only at h; omega
      · rfl
    · rename_i n2
      rw [if_neg n2] at h
      split
      · rename_i n3
        rw [if_pos n3] at h
        simp only at h; omega
      · rfl

theorem rc_found {t : ByteArray} (h : ¬ (rc t).1 = -1) : ∃ e : Nat, (rc t).1 = (e : Int) + 1 ∧ 2 ≤ e ∧ bat t e = 125 := by
  have g1 := digEnd_ge t 1
  have g2 := digEnd_ge t (digEnd t 1 + 1)
  unfold rc at h ⊢
  split at h
  · exact (h rfl).elim
  · rename_i n1
    rw [if_neg n1]
    split at h
    · rename_i n2
      rw [if_pos n2]
      split at h
      · rename_i n3
        rw [if_pos n3]
        exact ⟨_, rfl, by omega, n3⟩
      · exact (h rfl).elim
    · rename_i n2
      rw [if_neg n2]
      split at h
      · rename_i n3
        rw [if_pos n3]
        exact ⟨_, rfl, by omega, n3⟩
      · exact (h rfl).elim

theorem digEnd_ext {t u : ByteArray} {f : Nat} (h : ∀ k, k < t.size → bat u k = bat t k) (he : digEnd t f < t.size) : digEnd u f = digEnd t f := by
  have r := digEnd_end t f
  symm
  apply IsEnd.eq
  exact ⟨r.le, fun j h1 h2 => by rw [h j (by omega)]; exact r.all j h1 h2, by rw [h _ he]; exact r.out⟩

theorem lead_ext {t u : ByteArray} {f : Nat} (h : ∀ k, k < t.size → bat u k = bat t k) (he : digEnd t f < t.size) : lead u f = lead t f := by
  have r := digEnd_ge t f
  unfold lead
  rw [digEnd_ext h he, h f (by omega)]

theorem rc_ext {t u : ByteArray} (h : ∀ k, k < t.size → bat u k = bat t k) (hn : ¬ (rc t).1 = -1) : rc u = rc t := by
  have g2 := digEnd_ge t (digEnd t 1 + 1)
  unfold rc at hn
  split at hn
  · exact (hn rfl).elim
  · rename_i n1
    split at hn
    · rename_i n2
      split at hn
      · rename_i n3
        have l2 : digEnd t (digEnd t 1 + 1) < t.size := lt_of_bat (by omega)
        have e1 := digEnd_ext (f := 1) h (by omega)
        have e2 := digEnd_ext (f := digEnd t 1 + 1) h l2
        have z1 := lead_ext (f := 1) h (by omega)
        have z2 := lead_ext (f := digEnd t 1 + 1) h l2
        unfold rc
        rw [e1, h _ (show digEnd t 1 < t.size by omega), e2, h _ l2, z1, z2]
      · exact (hn rfl).elim
    · rename_i n2
      split at hn
      · rename_i n3
        have l1 : digEnd t 1 < t.size := lt_of_bat (by omega)
        have e1 := digEnd_ext (f := 1) h l1
        have z1 := lead_ext (f := 1) h l1
        unfold rc
        rw [e1, h _ l1, if_neg n1, if_neg n2, if_pos n3, if_neg n1, if_neg n2, if_pos n3, z1]
      · exact (hn rfl).elim

theorem bat_append {t u : ByteArray} {k : Nat} (h : k < t.size) : bat (t ++ u) k = bat t k := by
  rw [bat_in h, bat_in (by rw [ByteArray.size_append]; omega)]
  congr 1
  exact ByteArray.getElem_append_left h

theorem rc_append {t : ByteArray} (u : ByteArray) (hn : ¬ (rc t).1 = -1) : rc (t ++ u) = rc t := rc_ext (fun _ h => bat_append h) hn

end Go.Proofs.Qxb6002791a.Plain
