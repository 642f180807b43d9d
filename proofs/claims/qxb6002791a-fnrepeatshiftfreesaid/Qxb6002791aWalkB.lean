import Derived.Test.Qxb6002791aWalkA
import Derived.RowKit3
import Derived.BigQuiet
import Derived.Deep.QuietTactic
namespace Go.Proofs.Qxb6002791a
open Go.RowKit Plain

theorem digits_at (t : ByteArray) (f e : Nat) (fi : Int) (b z : Bool) (w : World) (ht : t.size ≤ 140737488355328) (hf : f ≤ 140737488355329) (hfi : fi = (f : Int)) (he : digEnd t f = e) (hz : (b || lead t f) = z) :
    Calls Try.prog 16 #[.int .i64 fi, .pointer (some ⟨w.heap.size, 0, none⟩), .pointer (some ⟨w.heap.size + 1, 0, none⟩)] ((w.alloc (.cells #[.string t] 9)).alloc (.cells #[.bool b] 4)) fun x w' =>
      x = .returned (.int .i64 e) ∧ w' = (w.alloc (.cells #[.string t] 9)).alloc (.cells #[.bool z] 4) := by
  subst hfi he hz
  exact digits_any t f b w ht hf

theorem grown_two (w : World) (a b : Array Value) (s t : TypeId) : Grown w ((w.alloc (.cells a s)).alloc (.cells b t)) := ((Grown.refl _).alloc _ _).alloc _ _
theorem grown_drewN {W w' : World} (h : Grown W w') (n : Nat) : Grown W (w'.drewN n) := h
theorem grown_trans {a b c : World} (h : Grown a b) (k : Grown b c) : Grown a c :=
  ⟨World.keptBut_trans h.1 (World.keptBut_mono (fun _ f => f) (by
    have := k.1
    exact this)), fun x => (k.2.1 x).trans (h.2.1 x), Nat.le_trans h.2.2 k.2.2⟩

theorem bne_125 {c : UInt8} (h : ¬ c.toNat = 125) : ((c.toNat : Int) != 125) = true := by simp only [bne_iff_ne]; omega

theorem rc_end {t : ByteArray} {a : Int} {b : Bool} {w w' : World} (h : rc t = (a, b)) (g : Grown w w') :
    Ending.returned (.tuple #[.int .i64 a, .bool b]) = .returned (.tuple #[.int .i64 (rc t).1, .bool (rc t).2]) ∧ Grown w w' := ⟨by rw [h], g⟩

theorem rc_a {t : ByteArray} (h : digEnd t 1 = 1) : rc t = (-1, false) := by unfold rc; rw [if_pos h]
theorem rc_b {t : ByteArray} {e1 e2 : Nat} {z1 z2 : Bool} (h : digEnd t 1 = e1) (hz : lead t 1 = z1) (n : ¬ e1 = 1) (c : bat t e1 = 44) (h2 : digEnd t (e1 + 1) = e2) (hz2 : lead t (e1 + 1) = z2) (c2 : bat t e2 = 125) :
    rc t = ((e2 : Int) + 1, z1 || z2) := by unfold rc; rw [h, if_neg n, if_pos c, h2, if_pos c2, hz, hz2]
theorem rc_c {t : ByteArray} {e1 e2 : Nat} (h : digEnd t 1 = e1) (n : ¬ e1 = 1) (c : bat t e1 = 44) (h2 : digEnd t (e1 + 1) = e2) (c2 : ¬ bat t e2 = 125) :
    rc t = (-1, false) := by unfold rc; rw [h, if_neg n, if_pos c, h2, if_neg c2]
theorem rc_d {t : ByteArray} {e1 : Nat} {z1 : Bool} (h : digEnd t 1 = e1) (hz : lead t 1 = z1) (n : ¬ e1 = 1) (c2 : bat t e1 = 125) :
    rc t = ((e1 : Int) + 1, z1) := by unfold rc; rw [h, if_neg n, if_neg (by omega), if_pos c2, hz]
theorem rc_e {t : ByteArray} {e1 : Nat} (h : digEnd t 1 = e1) (n : ¬ e1 = 1) (c : ¬ bat t e1 = 44) (c2 : ¬ bat t e1 = 125) :
    rc t = (-1, false) := by unfold rc; rw [h, if_neg n, if_neg c, if_neg c2]

set_option maxHeartbeats 2000000 in
theorem rc_any (t : ByteArray) (w : World) (ht : t.size ≤ 140737488355328) :
    Calls Try.prog 12 #[.string t] w fun e w' => e = .returned (.tuple #[.int .i64 (rc t).1, .bool (rc t).2]) ∧ Grown w w' := by
  have hmf : ∀ (fn : Fn) (first cap : Array Value) (w : World), (Instr.makeFunc fn first cap).run Try.prog w = .ok (.func fn first cap) w := fun _ _ _ _ => rfl
  have h1 := digEnd_ge t 1
  have h1' := digEnd_le t 1 140737488355329 (by omega) (by omega)
  generalize he1 : digEnd t 1 = e1 at h1 h1'
  generalize hz1 : lead t 1 = z1
  have He1 : Hid (digEnd t 1 = e1) := he1
  have Hz1 : Hid (lead t 1 = z1) := hz1
  clear he1 hz1
  by_cases c1 : e1 = 1
  · subst c1
    go_enter Try.func12, Try.ntmps12
    go_wp2_with (go_at_call 16; refine (digits_at t 1 1 _ false z1 w ht (by omega) rfl He1.out (by rw [Hz1.out, Bool.false_or])).mono ?_; rintro e w' ⟨rfl, rfl⟩)
    go_ret2
    exact rc_end (rc_a He1.out) (grown_two _ _ _ _ _)
  · by_cases hlt : e1 < t.size
    · by_cases c2 : t[e1].toNat = 44
      · have C2 : Hid (bat t e1 = 44) := by show bat t e1 = 44; rw [bat_in hlt, c2]
        have h2 := digEnd_ge t (e1 + 1)
        have h2' := digEnd_le t (e1 + 1) t.size (by omega) (by omega)
        generalize he2 : digEnd t (e1 + 1) = e2 at h2 h2'
        generalize hz2 : lead t (e1 + 1) = z2
        have He2 : Hid (digEnd t (e1 + 1) = e2) := he2
        have Hz2 : Hid (lead t (e1 + 1) = z2) := hz2
        clear he2 hz2
        by_cases hl2 : e2 < t.size
        · by_cases c3 : t[e2].toNat = 125
          · go_enter Try.func12, Try.ntmps12
            go_wp2_with fail
            go_at_call 16
            refine (digits_at t 1 e1 _ false z1 w ht (by omega) rfl He1.out (by rw [Hz1.out, Bool.false_or])).mono ?_
            rintro e w' ⟨rfl, rfl⟩
            go_wp2_with fail
            go_at_call 16
            refine (digits_at t (e1 + 1) e2 _ z1 (z1 || z2) w ht (by omega) (by omega) He2.out (by rw [Hz2.out])).mono ?_
            rintro e w' ⟨rfl, rfl⟩
            go_wp2
            go_quiet (fail)
            go_wp2
            go_ret2
            exact rc_end (rc_b He1.out Hz1.out c1 C2.out He2.out Hz2.out (by rw [bat_in hl2, c3])) (grown_drewN (grown_two _ _ _ _ _) _)
          · have hb := bne_125 c3
            go_enter Try.func12, Try.ntmps12
            go_wp2_with fail
            go_at_call 16
            refine (digits_at t 1 e1 _ false z1 w ht (by omega) rfl He1.out (by rw [Hz1.out, Bool.false_or])).mono ?_
            rintro e w' ⟨rfl, rfl⟩
            go_wp2_with fail
            go_at_call 16
            refine (digits_at t (e1 + 1) e2 _ z1 (z1 || z2) w ht (by omega) (by omega) He2.out (by rw [Hz2.out])).mono ?_
            rintro e w' ⟨rfl, rfl⟩
            go_wp2
            go_ret2
            exact rc_end (rc_c He1.out c1 C2.out He2.out (by rw [bat_in hl2]; exact c3)) (grown_two _ _ _ _ _)
        · go_enter Try.func12, Try.ntmps12
          go_wp2_with fail
          go_at_call 16
          refine (digits_at t 1 e1 _ false z1 w ht (by omega) rfl He1.out (by rw [Hz1.out, Bool.false_or])).mono ?_
          rintro e w' ⟨rfl, rfl⟩
          go_wp2_with fail
          go_at_call 16
          refine (digits_at t (e1 + 1) e2 _ z1 (z1 || z2) w ht (by omega) (by omega) He2.out (by rw [Hz2.out])).mono ?_
          rintro e w' ⟨rfl, rfl⟩
          go_wp2
          go_ret2
          exact rc_end (rc_c He1.out c1 C2.out He2.out (by rw [bat_out (by omega)]; omega)) (grown_two _ _ _ _ _)
      · by_cases c3 : t[e1].toNat = 125
        · go_enter Try.func12, Try.ntmps12
          go_wp2_with fail
          go_at_call 16
          refine (digits_at t 1 e1 _ false z1 w ht (by omega) rfl He1.out (by rw [Hz1.out, Bool.false_or])).mono ?_
          rintro e w' ⟨rfl, rfl⟩
          go_wp2
          go_quiet (fail)
          go_wp2
          go_ret2
          exact rc_end (rc_d He1.out Hz1.out c1 (by rw [bat_in hlt, c3])) (grown_drewN (grown_two _ _ _ _ _) _)
        · have hb := bne_125 c3
          go_enter Try.func12, Try.ntmps12
          go_wp2_with fail
          go_at_call 16
          refine (digits_at t 1 e1 _ false z1 w ht (by omega) rfl He1.out (by rw [Hz1.out, Bool.false_or])).mono ?_
          rintro e w' ⟨rfl, rfl⟩
          go_wp2
          go_ret2
          exact rc_end (rc_e He1.out c1 (by rw [bat_in hlt]; exact c2) (by rw [bat_in hlt]; exact c3)) (grown_two _ _ _ _ _)
    · have hsz : Hid (bat t e1 = 256) := bat_out (by omega)
      have heq : t.size ≤ e1 := by omega
      by_cases hq : e1 = t.size
      · go_enter Try.func12, Try.ntmps12
        go_wp2_with fail
        go_at_call 16
        refine (digits_at t 1 e1 _ false z1 w ht (by omega) rfl He1.out (by rw [Hz1.out, Bool.false_or])).mono ?_
        rintro e w' ⟨rfl, rfl⟩
        go_wp2
        go_ret2
        exact rc_end (rc_e He1.out c1 (by rw [hsz.out]; omega) (by rw [hsz.out]; omega)) (grown_two _ _ _ _ _)
      · exfalso
        have := digEnd_end t 1
        rw [He1.out] at this
        have := lt_of_dig (this.all (e1 - 1) (by omega) (by omega))
        omega
end Go.Proofs.Qxb6002791a
