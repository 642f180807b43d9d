import Derived.Test.Qxb6603230aRows
import Derived.Test.Qxb6603230aPlain
import Derived.WalkKit
import Derived.WalkSpells
namespace Go.Proofs.Qxb6603230a
open Go.RowKit Plain

theorem isEmpty_of {x : ByteArray} (h : x.size = 0) : x.toList.isEmpty = true := by
  rw [← decide_eq_emptyBytes]
  exact decide_eq_true (by cases x with | mk d => cases d with | mk l => cases l with
    | nil => rfl
    | cons a t => exact absurd h (by show ¬ (t.length + 1 = 0); omega))
theorem not_isEmpty_of {x : ByteArray} (h : 0 < x.size) : x.toList.isEmpty = false := by
  rw [← decide_eq_emptyBytes]
  exact decide_eq_false (fun e => by rw [e] at h; exact absurd h (by decide))

/-- '[]byte(s)': new memory that holds the bytes. -/
theorem to_bytes (s : ByteArray) (w : World) : ∃ cap w1, (convert 9 24 (.string s)).run Try.prog w = .ok (.slice (some ⟨w.heap.size, 0, none⟩) s.size cap) w1
    ∧ (∀ k (h : k < s.size), w1.cell? ⟨w.heap.size, k, none⟩ = some (.int .u8 (s[k].toNat : Int))) ∧ Below w.heap.size w w1 := by
  refine ⟨_, _, run_bytes_of_string (P := Try.prog) w 9 24 5 s Try.underlying9 Try.underlying24 Try.underlying5, fun k h => ?_, ?_⟩
  · exact (World.cell?_alloc_mark w.drew _ _ _ k).trans (bytesRow_at s _ k h)
  · exact (Below.refl _ _).drew.alloc (Nat.le_refl _) _

theorem ret_bool {a b : Bool} {x y : World} {B : Nat} (h : a = b) (g : Below B x y) : Ending.returned (.bool a) = .returned (.bool b) ∧ Below B x y := ⟨by rw [h], g⟩

theorem okb_lower {c : UInt8} (h1 : 97 ≤ c.toNat) (h2 : c.toNat ≤ 122) : okb c.toNat = true := by simp [okb, h1, h2]
theorem okb_upper {c : UInt8} (h1 : 65 ≤ c.toNat) (h2 : c.toNat ≤ 90) : okb c.toNat = true := by simp [okb, h1, h2]
theorem okb_digit {c : UInt8} (h1 : 48 ≤ c.toNat) (h2 : c.toNat ≤ 57) : okb c.toNat = true := by simp [okb, h1, h2]
theorem okb_dash {c : UInt8} (h1 : c.toNat = 45) : okb c.toNat = true := by simp [okb, h1]

theorem okb_no {c : Nat} (h1 : c < 97 ∨ 122 < c) (h2 : c < 65 ∨ 90 < c) (h3 : c < 48 ∨ 57 < c) (h4 : ¬ c = 45) : okb c = false := by
  simp only [okb, Bool.or_eq_false_iff, Bool.and_eq_false_iff, decide_eq_false_iff_not, beq_eq_false_iff_ne]
  omega
theorem le_no {c : UInt8} {n : Nat} (h : n < c.toNat) : decide ((c.toNat : Int) ≤ (n : Int)) = false := decide_eq_false (by omega)
theorem bne_45 {c : UInt8} (h : ¬ c.toNat = 45) : ((c.toNat : Int) != 45) = true := by simp only [bne_iff_ne]; omega

set_option maxHeartbeats 2000000 in
theorem valid_any (s : ByteArray) (w : World) (hs : s.size ≤ 1048576) :
    Calls Try.prog 9 #[.string s] w fun e w' => e = .returned (.bool (valid s)) ∧ Below w.heap.size w w' := by
  by_cases h0 : s.size = 0
  · have he := isEmpty_of h0
    have Hv : Hid (valid s = false) := valid_empty h0
    clear h0
    go_enter Try.func9, Try.ntmps9
    go_wp2
    go_ret
    exact ret_bool Hv.out.symm (Below.refl _ _)
  · have he := not_isEmpty_of (x := s) (by omega)
    obtain ⟨cap, w1, hrun, hcell, hb⟩ := to_bytes s w
    go_enter Try.func9, Try.ntmps9
    go_wp2
    go_loop [11] (fun i => ∃ k : Nat, k ≤ s.size ∧ (∀ j, j < k → okb (bat s j) = true) ∧ i = .int .i64 k) (fun i => s.size - (intOf i).toNat)
    case atStart => exact ⟨0, Nat.zero_le _, fun j h => by omega, rfl⟩
    case round =>
      obtain ⟨k, hk, hall, rfl⟩ := hrel
      have Hall : Hid (∀ j, j < k → okb (bat s j) = true) := hall
      clear hall
      by_cases hlt : k < s.size
      · have hc := hcell k hlt
        have next : okb s[k].toNat = true → ∀ j, j < k + 1 → okb (bat s j) = true := fun h j hj => by
          by_cases e : j = k
          · subst e; rw [bat_in hlt]; exact h
          · exact Hall.out j (by omega)
        have bad : okb s[k].toNat = false → valid s = false := fun h => valid_no hlt (by rw [bat_in hlt]; exact h)
        have Next : Hid (okb s[k].toNat = true → ∀ j, j < k + 1 → okb (bat s j) = true) := next
        have Bad : Hid (okb s[k].toNat = false → valid s = false) := bad
        have HC : Hid (∀ k (h : k < s.size), w1.cell? ⟨w.heap.size, k, none⟩ = some (.int .u8 (s[k].toNat : Int))) := hcell
        clear next bad hcell hrun
        rcases (show (97 ≤ s[k].toNat ∧ s[k].toNat ≤ 122) ∨ (65 ≤ s[k].toNat ∧ s[k].toNat ≤ 90) ∨ (48 ≤ s[k].toNat ∧ s[k].toNat ≤ 57) ∨ s[k].toNat = 45 ∨ 122 < s[k].toNat ∨ (90 < s[k].toNat ∧ s[k].toNat < 97) ∨ (57 < s[k].toNat ∧ s[k].toNat < 65) ∨ (45 < s[k].toNat ∧ s[k].toNat < 48) ∨ s[k].toNat < 45 from by omega) with h | h | h | h | h | h | h | h | h
        · obtain ⟨h1, h2⟩ := h
          have Hk : Hid (okb s[k].toNat = true) := okb_lower h1 h2
          go_wp2
          go_round
          case rel => exact ⟨k + 1, by omega, Next.out Hk.out, by go_num⟩
          case measure => simp [intOf]; omega
        · obtain ⟨h1, h2⟩ := h
          have Hk : Hid (okb s[k].toNat = true) := okb_upper h1 h2
          go_wp2
          go_round
          case rel => exact ⟨k + 1, by omega, Next.out Hk.out, by go_num⟩
          case measure => simp [intOf]; omega
        · obtain ⟨h1, h2⟩ := h
          have Hk : Hid (okb s[k].toNat = true) := okb_digit h1 h2
          go_wp2
          go_round
          case rel => exact ⟨k + 1, by omega, Next.out Hk.out, by go_num⟩
          case measure => simp [intOf]; omega
        · have h1 := h
          have Hk : Hid (okb s[k].toNat = true) := okb_dash h1
          go_wp2
          go_round
          case rel => exact ⟨k + 1, by omega, Next.out Hk.out, by go_num⟩
          case measure => simp [intOf]; omega
        · have Hk : Hid (okb s[k].toNat = false) := okb_no (by omega) (by omega) (by omega) (by omega)
          have hb45 := bne_45 (c := s[k]) (by omega)
          have d122 : decide ((s[k].toNat : Int) ≤ 122) = false := le_no (n := 122) (by omega)
          have d90 : decide ((s[k].toNat : Int) ≤ 90) = false := le_no (n := 90) (by omega)
          have d57 : decide ((s[k].toNat : Int) ≤ 57) = false := le_no (n := 57) (by omega)
          go_wp2
          go_ret
          exact ret_bool (Bad.out Hk.out).symm hb
        · obtain ⟨h1, h2⟩ := h
          have Hk : Hid (okb s[k].toNat = false) := okb_no (by omega) (by omega) (by omega) (by omega)
          have hb45 := bne_45 (c := s[k]) (by omega)
          have d90 : decide ((s[k].toNat : Int) ≤ 90) = false := le_no (n := 90) (by omega)
          have d57 : decide ((s[k].toNat : Int) ≤ 57) = false := le_no (n := 57) (by omega)
          go_wp2
          go_ret
          exact ret_bool (Bad.out Hk.out).symm hb
        · obtain ⟨h1, h2⟩ := h
          have Hk : Hid (okb s[k].toNat = false) := okb_no (by omega) (by omega) (by omega) (by omega)
          have hb45 := bne_45 (c := s[k]) (by omega)
          have d57 : decide ((s[k].toNat : Int) ≤ 57) = false := le_no (n := 57) (by omega)
          go_wp2
          go_ret
          exact ret_bool (Bad.out Hk.out).symm hb
        · obtain ⟨h1, h2⟩ := h
          have Hk : Hid (okb s[k].toNat = false) := okb_no (by omega) (by omega) (by omega) (by omega)
          have hb45 := bne_45 (c := s[k]) (by omega)
          go_wp2
          go_ret
          exact ret_bool (Bad.out Hk.out).symm hb
        · have Hk : Hid (okb s[k].toNat = false) := okb_no (by omega) (by omega) (by omega) (by omega)
          have hb45 := bne_45 (c := s[k]) (by omega)
          go_wp2
          go_ret
          exact ret_bool (Bad.out Hk.out).symm hb
      · have hke : k = s.size := by omega
        have Hv : Hid (valid s = true) := valid_yes h0 fun j hj => Hall.out j (by omega)
        go_wp2
        go_ret
        exact ret_bool Hv.out.symm hb
end Go.Proofs.Qxb6603230a
