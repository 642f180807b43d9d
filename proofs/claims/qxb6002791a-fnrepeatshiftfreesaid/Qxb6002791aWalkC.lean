import Derived.Test.Qxb6002791aWalkB
import Derived.Test.Qxb6002791aPlain3
namespace Go.Proofs.Qxb6002791a
open Go.RowKit Plain

theorem rp_end {s : ByteArray} {i : Nat} {a : Int} {x : ByteArray} {w w' : World} (h : rp s i = (a, x)) (g : Grown w w') :
    Ending.returned (.tuple #[.int .i64 a, .string x]) = .returned (.tuple #[.int .i64 (rp s i).1, .string (rp s i).2]) ∧ Grown w w' := ⟨by rw [h], g⟩

theorem rp_a {s : ByteArray} {i n : Nat} (c : ¬ bat s i = 123) (h : lazy s (i + 1) = n) : rp s i = ((n : Int), ByteArray.empty) := by
  unfold rp; rw [if_neg c, h]
theorem rp_b {s : ByteArray} {i : Nat} {n : Int} {z : Bool} (c : bat s i = 123) (h : rc (s.extract i s.size) = (n, z)) (hn : n < 0) : rp s i = (0, ⟨#[123]⟩) := by
  unfold rp; rw [if_pos c, h, if_pos hn]
theorem rp_c {s : ByteArray} {i e : Nat} (c : bat s i = 123) (h : rc (s.extract i s.size) = ((e : Int) + 1, true)) : rp s i = (0, s.extract i (i + (e + 1))) := by
  unfold rp; rw [if_pos c, h, if_neg (by show ¬ ((e : Int) + 1 < 0); omega), if_pos rfl]
  have : ((e : Int) + 1).toNat = e + 1 := by omega
  rw [this]
theorem rp_d {s : ByteArray} {i e n : Nat} (c : bat s i = 123) (h : rc (s.extract i s.size) = ((e : Int) + 1, false)) (hl : lazy s (i + (e + 1)) = n) : rp s i = ((n : Int), ByteArray.empty) := by
  unfold rp; rw [if_pos c, h, if_neg (by show ¬ ((e : Int) + 1 < 0); omega), if_neg (by simp)]
  have : ((e : Int) + 1).toNat = e + 1 := by omega
  rw [this, hl]
theorem lazy_yes {s : ByteArray} {n : Nat} (h : n < s.size) (c : s[n].toNat = 63) : lazy s n = n + 1 := by
  unfold lazy; rw [bat_in h, if_pos c]
theorem lazy_no {s : ByteArray} {n : Nat} (h : n < s.size) (c : ¬ s[n].toNat = 63) : lazy s n = n := by
  unfold lazy; rw [bat_in h, if_neg c]
theorem lazy_out {s : ByteArray} {n : Nat} (h : s.size ≤ n) : lazy s n = n := by
  unfold lazy; rw [bat_out h, if_neg (by omega)]

theorem rc_at (t : ByteArray) (n : Int) (z : Bool) (h : rc t = (n, z)) (ht : t.size ≤ 140737488355328) (w : World) :
    Calls Try.prog 12 #[.string t] w fun e w' => e = .returned (.tuple #[.int .i64 n, .bool z]) ∧ Grown w w' := by
  have := rc_any t w ht
  rw [h] at this
  exact this

set_option maxHeartbeats 1000000 in
theorem rep_plain (s : ByteArray) (i b : Nat) (w : World) (hs : s.size ≤ 1048576) (hi : i < s.size) (hc : w.cell? ⟨b, 0, none⟩ = some (.string s)) (h : ¬ s[i].toNat = 123) :
    Calls Try.prog 15 #[.pointer (some ⟨b, 0, none⟩), .int .i64 i] w fun e w' => e = .returned (.tuple #[.int .i64 (rp s i).1, .string (rp s i).2]) ∧ Grown w w' := by
  have C : Hid (¬ bat s i = 123) := by show ¬ bat s i = 123; rw [bat_in hi]; exact h
  by_cases hl : i + 1 < s.size
  · by_cases c : s[i + 1].toNat = 63
    · have L : Hid (lazy s (i + 1) = i + 1 + 1) := lazy_yes hl c
      go_enter Try.func15, Try.ntmps15
      go_wp2
      go_ret2
      exact rp_end (rp_a C.out L.out) (Grown.refl _)
    · have L : Hid (lazy s (i + 1) = i + 1) := lazy_no hl c
      go_enter Try.func15, Try.ntmps15
      go_wp2
      go_ret2
      exact rp_end (rp_a C.out L.out) (Grown.refl _)
  · have L : Hid (lazy s (i + 1) = i + 1) := lazy_out (by omega)
    go_enter Try.func15, Try.ntmps15
    go_wp2
    go_ret2
    exact rp_end (rp_a C.out L.out) (Grown.refl _)

set_option maxHeartbeats 1000000 in
theorem rep_brace (s : ByteArray) (i b : Nat) (w : World) (hs : s.size ≤ 1048576) (hi : i < s.size) (hc : w.cell? ⟨b, 0, none⟩ = some (.string s)) (h : s[i].toNat = 123) :
    Calls Try.prog 15 #[.pointer (some ⟨b, 0, none⟩), .int .i64 i] w fun e w' => e = .returned (.tuple #[.int .i64 (rp s i).1, .string (rp s i).2]) ∧ Grown w w' := by
  have C : Hid (bat s i = 123) := by show bat s i = 123; rw [bat_in hi]; exact h
  obtain ⟨n, z, hr⟩ : ∃ n z, rc (s.extract i s.size) = (n, z) := ⟨_, _, rfl⟩
  have hcall := rc_at _ n z hr (by rw [size_tail]; omega)
  have Hr : Hid (rc (s.extract i s.size) = (n, z)) := hr
  by_cases hn : n = -1
  · subst hn
    clear hr
    go_enter Try.func15, Try.ntmps15
    go_wp2_with fail
    go_at_call 12
    refine (hcall _).mono ?_
    rintro e w' ⟨rfl, hg⟩
    go_wp2
    go_ret2
    exact rp_end (rp_b C.out Hr.out (by omega)) hg
  · obtain ⟨e, he, h2, hb⟩ := rc_found (t := s.extract i s.size) (by rw [hr]; exact hn)
    have hl := lt_of_bat (t := s.extract i s.size) (k := e) (by omega)
    rw [size_tail] at hl
    rw [hr] at he
    simp only at he
    subst he
    clear hr hb hn
    cases z
    · by_cases hj : i + (e + 1) < s.size
      · by_cases c : s[i + (e + 1)].toNat = 63
        · have L : Hid (lazy s (i + (e + 1)) = i + (e + 1) + 1) := lazy_yes hj c
          go_enter Try.func15, Try.ntmps15
          go_wp2_with fail
          go_at_call 12
          refine (hcall _).mono ?_
          rintro e w' ⟨rfl, hg⟩
          go_wp2
          go_ret2
          exact rp_end (rp_d C.out Hr.out L.out) hg
        · have L : Hid (lazy s (i + (e + 1)) = i + (e + 1)) := lazy_no hj c
          go_enter Try.func15, Try.ntmps15
          go_wp2_with fail
          go_at_call 12
          refine (hcall _).mono ?_
          rintro e w' ⟨rfl, hg⟩
          go_wp2
          go_ret2
          exact rp_end (rp_d C.out Hr.out L.out) hg
      · have L : Hid (lazy s (i + (e + 1)) = i + (e + 1)) := lazy_out (by omega)
        go_enter Try.func15, Try.ntmps15
        go_wp2_with fail
        go_at_call 12
        refine (hcall _).mono ?_
        rintro e w' ⟨rfl, hg⟩
        go_wp2
        go_ret2
        exact rp_end (rp_d C.out Hr.out L.out) hg
    · go_enter Try.func15, Try.ntmps15
      go_wp2_with fail
      go_at_call 12
      refine (hcall _).mono ?_
      rintro e w' ⟨rfl, hg⟩
      go_wp2
      go_quiet (fail)
      go_wp2
      go_ret2
      exact rp_end (rp_c C.out Hr.out) (grown_drewN hg _)

theorem rep_any (s : ByteArray) (i b : Nat) (w : World) (hs : s.size ≤ 1048576) (hi : i < s.size) (hc : w.cell? ⟨b, 0, none⟩ = some (.string s)) :
    Calls Try.prog 15 #[.pointer (some ⟨b, 0, none⟩), .int .i64 i] w fun e w' => e = .returned (.tuple #[.int .i64 (rp s i).1, .string (rp s i).2]) ∧ Grown w w' := by
  by_cases h : s[i].toNat = 123
  · exact rep_brace s i b w hs hi hc h
  · exact rep_plain s i b w hs hi hc h

set_option maxHeartbeats 400000 in
theorem zzrep_any (s : ByteArray) (i : Nat) (ii n : Int) (x : ByteArray) (hii : ii = (i : Int)) (hr : rp s i = (n, x)) (hs : s.size ≤ 1048576) (hi : i < s.size) (w : World) :
    Calls Try.prog 11 #[.string s, .int .i64 (-1), .int .i64 0, .int .i64 ii] w fun e w' => e = .returned (.tuple #[.int .i64 n, .string x]) ∧ Grown w w' := by
  subst hii
  have hcall := fun w b hc => rep_any s i b w hs hi hc
  rw [hr] at hcall
  clear hr
  go_enter Try.func11, Try.ntmps11
  go_wp2_with fail
  go_at_call 15
  refine (hcall _ _ ?_).mono ?_
  · simp [go_sem]
  rintro e w' ⟨rfl, hg⟩
  go_wp2
  go_ret2
  exact ⟨rfl, grown_trans ((Grown.refl _).alloc _ _) hg⟩
end Go.Proofs.Qxb6002791a
