/-
  THE WALK of FnApplyToLaterGivenCountWins: three regions that draw their order and hold calls; the last (51 operations, 16 calls) is walked one way: every quiet call is taken first (Qxb6600861aOrders.lean).
-/
import Derived.Test.Qxb6600861aWinsP
import Derived.Test.Qxb6600861aOrders
import Derived.Deep.RegionWith
import Derived.Deep.RegionHeld3
import Derived.Deep.CutRange
namespace Go.Proofs.Qxb6600861a
open Go.RowKit

set_option linter.unusedSimpArgs false in
set_option maxRecDepth 100000 in
set_option maxHeartbeats 20000000 in
theorem wins_any (m n : Int) (a0 a1 a2 a3 b0 b1 b2 b3 : Bool) (u0 u1 u2 u3 v0 v1 v2 v3 t0 t1 t2 t3 : Int) (w : World)
    (hu0 : ∀ w, Calls Try.prog 15 #[.int .u8 m, .int .u8 0] w fun e w' => e = .returned (.bool a0) ∧ w = w')
    (hu1 : ∀ w, Calls Try.prog 15 #[.int .u8 m, .int .u8 1] w fun e w' => e = .returned (.bool a1) ∧ w = w')
    (hu2 : ∀ w, Calls Try.prog 15 #[.int .u8 m, .int .u8 2] w fun e w' => e = .returned (.bool a2) ∧ w = w')
    (hu3 : ∀ w, Calls Try.prog 15 #[.int .u8 m, .int .u8 3] w fun e w' => e = .returned (.bool a3) ∧ w = w')
    (hv0 : ∀ w, Calls Try.prog 15 #[.int .u8 n, .int .u8 0] w fun e w' => e = .returned (.bool b0) ∧ w = w')
    (hv1 : ∀ w, Calls Try.prog 15 #[.int .u8 n, .int .u8 1] w fun e w' => e = .returned (.bool b1) ∧ w = w')
    (hv2 : ∀ w, Calls Try.prog 15 #[.int .u8 n, .int .u8 2] w fun e w' => e = .returned (.bool b2) ∧ w = w')
    (hv3 : ∀ w, Calls Try.prog 15 #[.int .u8 n, .int .u8 3] w fun e w' => e = .returned (.bool b3) ∧ w = w') :
    Calls Try.prog 4 #[.int .u8 m, .int .u8 n, .agg #[.int .i64 u0, .int .i64 u1, .int .i64 u2, .int .i64 u3], .agg #[.int .i64 v0, .int .i64 v1, .int .i64 v2, .int .i64 v3], .agg #[.int .i64 t0, .int .i64 t1, .int .i64 t2, .int .i64 t3]] w fun e w' => e = .returned (.bool true) ∧ Grown w w' := by
  go_enter Try.func4, Try.ntmps4
  go_wp2_with fail
  obtain ⟨X, hX⟩ : ∃ X, X = ((w.alloc (.cells #[.int .i64 u0, .int .i64 u1, .int .i64 u2, .int .i64 u3] 33)).alloc (.cells #[.int .i64 v0, .int .i64 v1, .int .i64 v2, .int .i64 v3] 33)).alloc (.cells #[.int .i64 t0, .int .i64 t1, .int .i64 t2, .int .i64 t3] 33) := ⟨_, rfl⟩
  rw [← hX]
  have ru : Row4 X w.heap.size (.int .i64 u0) (.int .i64 u1) (.int .i64 u2) (.int .i64 u3) := by
    rw [hX]; exact ⟨by simp; omega, by simp [go_sem], by simp [go_sem], by simp [go_sem], by simp [go_sem]⟩
  have rv : Row4 X (w.heap.size + 1) (.int .i64 v0) (.int .i64 v1) (.int .i64 v2) (.int .i64 v3) := by
    rw [hX]; exact ⟨by simp, by simp [go_sem], by simp [go_sem], by simp [go_sem], by simp [go_sem]⟩
  have rt : Row4 X (w.heap.size + 1 + 1) (.int .i64 t0) (.int .i64 t1) (.int .i64 t2) (.int .i64 t3) := by
    rw [hX]; exact ⟨by simp, by simp [go_sem], by simp [go_sem], by simp [go_sem], by simp [go_sem]⟩
  have hgX : Grown w X := by rw [hX]; exact (((Grown.refl _).alloc _ _).alloc _ _).alloc _ _
  clear hX
  go_cut [11] from 15 to 31 (fun p x => ∃ f U, p = .pointer (some ⟨U, 0, none⟩) ∧ Laid X (seq4 a0 a1 a2 a3) (seq4 u0 u1 u2 u3) f U x)
  case first =>
    as_aux_lemma =>
      have q0 := ru.c0
      have q1 := ru.c1
      have q2 := ru.c2
      have q3 := ru.c3
      have ul := ru.lt
      have ka : Row4 (X.alloc (.cells #[.pointer none, .pointer none, .pointer none, .pointer none] 24)) (w.heap.size) (.int .i64 u0) (.int .i64 u1) (.int .i64 u2) (.int .i64 u3) := ru.keep (by simp) fun c o hc => World.cell?_alloc_past _ _ _ hc
      have ka0 := ka.c0
      have ka1 := ka.c1
      have ka2 := ka.c2
      have ka3 := ka.c3
      have une : X.heap.size ≠ w.heap.size := by omega
      go_region_held3 (fun x => x.cell? ⟨w.heap.size, 0, none⟩ = some (.int .i64 u0) ∧ x.cell? ⟨w.heap.size, 1, none⟩ = some (.int .i64 u1) ∧ x.cell? ⟨w.heap.size, 2, none⟩ = some (.int .i64 u2) ∧ x.cell? ⟨w.heap.size, 3, none⟩ = some (.int .i64 u3))
        (first
        | (simp only [World.cell?_drew, q0, q1, q2, q3, and_self]; done)
        | (simp only [World.cell?_drew, ka0, ka1, ka2, ka3, and_self]; done)
        | (simp only [s0, s1, s2, s3, and_self]; done)
        | (simp only [World.cell?_alloc_past _ _ _ hlt, s0, s1, s2, s3, and_self]; done)
        | (simp only [far_set _ _ _ _ _ _ une, s0, s1, s2, s3, and_self]; done))
        (first
          | (go_at_call_of 15 (Value.int IntKind.u8 0); refine (hu0 _).mono ?_; rintro e w' ⟨rfl, rfl⟩)
          | (go_at_call_of 15 (Value.int IntKind.u8 1); refine (hu1 _).mono ?_; rintro e w' ⟨rfl, rfl⟩)
          | (go_at_call_of 15 (Value.int IntKind.u8 2); refine (hu2 _).mono ?_; rintro e w' ⟨rfl, rfl⟩)
          | (go_at_call_of 15 (Value.int IntKind.u8 3); refine (hu3 _).mono ?_; rintro e w' ⟨rfl, rfl⟩)
          | (go_at_call 11; refine (usage_b X (w.heap.size) a0 a1 a2 a3 u0 u1 u2 u3 ru).mono ?_; rintro e w1 ⟨f, rfl, hgiv, s0, s1, s2, s3, z0, z1, z2, z3, y0, y1, y2, y3, hlt⟩)
          | (go_at_call 11; refine (usage_a X (w.heap.size) a0 a1 a2 a3 u0 u1 u2 u3 ru).mono ?_; rintro e w1 ⟨f, rfl, hgiv, s0, s1, s2, s3, hlt⟩))
      all_goals
        go_wp2_with fail
        go_meet
        first
          | exact ⟨_, _, rfl, laid_a (by assumption)⟩
          | exact ⟨_, _, rfl, laid_b (by assumption) (by assumption) (by assumption) (by assumption) (by assumption)⟩
  case rest =>
  rename World => Y
  obtain ⟨f, U, rfl, hl⟩ := hcut
  have rv1 := rv.keep hl.size hl.old
  go_wp2_with fail
  go_cut [12] from 32 to 48 (fun p x => ∃ f U, p = .pointer (some ⟨U, 0, none⟩) ∧ Laid Y (seq4 b0 b1 b2 b3) (seq4 v0 v1 v2 v3) f U x)
  case first =>
    as_aux_lemma =>
      have q0 := rv1.c0
      have q1 := rv1.c1
      have q2 := rv1.c2
      have q3 := rv1.c3
      have ul := rv1.lt
      have ka : Row4 (Y.alloc (.cells #[.pointer none, .pointer none, .pointer none, .pointer none] 24)) (w.heap.size + 1) (.int .i64 v0) (.int .i64 v1) (.int .i64 v2) (.int .i64 v3) := rv1.keep (by simp) fun c o hc => World.cell?_alloc_past _ _ _ hc
      have ka0 := ka.c0
      have ka1 := ka.c1
      have ka2 := ka.c2
      have ka3 := ka.c3
      have une : Y.heap.size ≠ w.heap.size + 1 := by omega
      go_region_held3 (fun x => x.cell? ⟨w.heap.size + 1, 0, none⟩ = some (.int .i64 v0) ∧ x.cell? ⟨w.heap.size + 1, 1, none⟩ = some (.int .i64 v1) ∧ x.cell? ⟨w.heap.size + 1, 2, none⟩ = some (.int .i64 v2) ∧ x.cell? ⟨w.heap.size + 1, 3, none⟩ = some (.int .i64 v3))
        (first
        | (simp only [World.cell?_drew, q0, q1, q2, q3, and_self]; done)
        | (simp only [World.cell?_drew, ka0, ka1, ka2, ka3, and_self]; done)
        | (simp only [s0, s1, s2, s3, and_self]; done)
        | (simp only [World.cell?_alloc_past _ _ _ hlt, s0, s1, s2, s3, and_self]; done)
        | (simp only [far_set _ _ _ _ _ _ une, s0, s1, s2, s3, and_self]; done))
        (first
          | (go_at_call_of 15 (Value.int IntKind.u8 0); refine (hv0 _).mono ?_; rintro e w' ⟨rfl, rfl⟩)
          | (go_at_call_of 15 (Value.int IntKind.u8 1); refine (hv1 _).mono ?_; rintro e w' ⟨rfl, rfl⟩)
          | (go_at_call_of 15 (Value.int IntKind.u8 2); refine (hv2 _).mono ?_; rintro e w' ⟨rfl, rfl⟩)
          | (go_at_call_of 15 (Value.int IntKind.u8 3); refine (hv3 _).mono ?_; rintro e w' ⟨rfl, rfl⟩)
          | (go_at_call 11; refine (usage_b Y (w.heap.size + 1) b0 b1 b2 b3 v0 v1 v2 v3 rv1).mono ?_; rintro e w1 ⟨f, rfl, hgiv, s0, s1, s2, s3, z0, z1, z2, z3, y0, y1, y2, y3, hlt⟩)
          | (go_at_call 11; refine (usage_a Y (w.heap.size + 1) b0 b1 b2 b3 v0 v1 v2 v3 rv1).mono ?_; rintro e w1 ⟨f, rfl, hgiv, s0, s1, s2, s3, hlt⟩))
      all_goals
        go_wp2_with fail
        go_meet
        first
          | exact ⟨_, _, rfl, laid_a (by assumption)⟩
          | exact ⟨_, _, rfl, laid_b (by assumption) (by assumption) (by assumption) (by assumption) (by assumption)⟩
  case rest =>
  rename World => Z
  obtain ⟨f', V, rfl, hl2⟩ := hcut
  have hYZ := hl2.size
  have ru2 := (ru.keep hl.size hl.old).keep hl2.size hl2.old
  have rv2 := rv1.keep hl2.size hl2.old
  have rt2 := (rt.keep hl.size hl.old).keep hl2.size hl2.old
  have gU : ∀ j, j < 4 → GivenAt X (seq4 a0 a1 a2 a3 j) (seq4 u0 u1 u2 u3 j) (f j) Z := fun j hj => (hl.src j hj).later hl2.size hl2.old
  have gV : ∀ j, j < 4 → GivenAt Y (seq4 b0 b1 b2 b3 j) (seq4 v0 v1 v2 v3 j) (f' j) Z := hl2.src
  have rU : Row4 Z U (.pointer (f 0)) (.pointer (f 1)) (.pointer (f 2)) (.pointer (f 3)) :=
    Row4.keep (x := Y) ⟨hl.lt, hl.use 0 (by omega), hl.use 1 (by omega), hl.use 2 (by omega), hl.use 3 (by omega)⟩ hl2.size hl2.old
  have rV : Row4 Z V (.pointer (f' 0)) (.pointer (f' 1)) (.pointer (f' 2)) (.pointer (f' 3)) := ⟨hl2.lt, hl2.use 0 (by omega), hl2.use 1 (by omega), hl2.use 2 (by omega), hl2.use 3 (by omega)⟩
  have hgZ : Grown w Z := grown_trans (grown_trans hgX hl.grown) hl2.grown
  have hwZ : w.heap.size ≤ Z.heap.size := hgZ.2.2
  clear hl hl2 rv1 ru rv rt
  have ruZ := ru2
  have rvZ := rv2
  have rtZ := rt2
  -- the total, and the first ApplyTo
  have ap1 := apply_row w (Z.alloc (.cells #[.int .i64 t0, .int .i64 t1, .int .i64 t2, .int .i64 t3] 27)) Z X Z.heap.size (seq4 a0 a1 a2 a3) (seq4 u0 u1 u2 u3) f t0 t1 t2 t3 hwZ
    ⟨by simp, by simp [go_sem], by simp [go_sem], by simp [go_sem], by simp [go_sem]⟩ (fun j _ => by simp [go_sem]) gU (fun b hb => World.cell?_alloc_past _ _ _ hb) (Nat.le_refl _) (hgZ.alloc _ _)
  obtain ⟨tl, k0, k1, k2, k3⟩ := rt2
  obtain ⟨Ul, U0, U1, U2, U3⟩ := rU
  go_wp2_with fail
  go_at_call 12
  refine ap1.mono ?_
  rintro e x1 ⟨rfl, hs1, ho1, r1, hf1, hg1⟩
  clear ap1
  simp only [World.size_alloc] at hs1 ho1
  have keep1 : ∀ b o, b < Z.heap.size → x1.cell? ⟨b, o, none⟩ = Z.cell? ⟨b, o, none⟩ := fun b o hb => (ho1 b o (by omega) (by omega)).trans (World.cell?_alloc_past _ _ _ hb)
  have rV1 := rV.keep (by omega) keep1
  have ru1 := ru2.keep (by omega) keep1
  have rv1 := rv2.keep (by omega) keep1
  have rt1 := Row4.keep (x := Z) ⟨tl, k0, k1, k2, k3⟩ (by omega) keep1
  -- the second
  have ap2 := apply_row w x1 Z Y Z.heap.size (seq4 b0 b1 b2 b3) (seq4 v0 v1 v2 v3) f' _ _ _ _ hwZ r1 (fun j _ => by rw [hf1]; simp [go_sem]) gV (fun b hb => keep1 b 0 hb) (Nat.le_refl _) hg1
  obtain ⟨Vl, V0, V1, V2, V3⟩ := rV1
  have Keep1 : Hid (∀ b o, b < Z.heap.size → x1.cell? ⟨b, o, none⟩ = Z.cell? ⟨b, o, none⟩) := keep1
  clear keep1 ho1 hf1 k0 k1 k2 k3 U0 U1 U2 U3 rV ru2 rv2
  go_wp2_with fail
  go_at_call 12
  refine ap2.mono ?_
  rintro e x2 ⟨rfl, hs2, ho2, r2, hf2, hg2⟩
  clear ap2
  have keep2 : ∀ b o, b < Z.heap.size → x2.cell? ⟨b, o, none⟩ = Z.cell? ⟨b, o, none⟩ := fun b o hb => (ho2 b o (by omega) (by omega)).trans (Keep1.out b o hb)
  have hs3 : Z.heap.size ≤ x2.heap.size := by omega
  have ru3 := ruZ.keep hs3 keep2
  have rv3 := rvZ.keep hs3 keep2
  have rt3 := rtZ.keep hs3 keep2
  clear keep2 ho2 hf2 ruZ rvZ rtZ Keep1 gU gV r1 ru1 rv1 rt1 hg1 hgZ hgX
  obtain ⟨ul, p0, p1, p2, p3⟩ := ru3
  obtain ⟨vl, c0, c1, c2, c3⟩ := rv3
  obtain ⟨tl3, d0, d1, d2, d3⟩ := rt3
  obtain ⟨Tl, T0, T1, T2, T3⟩ := r2
  simp only [seq4] at T0 T1 T2 T3
  have heq : ∀ w, (binOp .eql 27 (.agg #[.int .i64 (pickB b0 v0 (pickB a0 u0 t0)), .int .i64 (pickB b1 v1 (pickB a1 u1 t1)), .int .i64 (pickB b2 v2 (pickB a2 u2 t2)), .int .i64 (pickB b3 v3 (pickB a3 u3 t3))]) (.agg #[.int .i64 (pickB b0 v0 (pickB a0 u0 t0)), .int .i64 (pickB b1 v1 (pickB a1 u1 t1)), .int .i64 (pickB b2 v2 (pickB a2 u2 t2)), .int .i64 (pickB b3 v3 (pickB a3 u3 t3))])).run Try.prog w = .ok (.bool true) w := fun w => by
    rw [run_eql_struct, eq27]; simp
  ·
    go_wp2_with fail
    refine wp_region_noPanic ?_
    refine wp_region_held (S := fun x => x.cell? ⟨w.heap.size, 0, none⟩ = some (.int .i64 u0) ∧ x.cell? ⟨w.heap.size, 1, none⟩ = some (.int .i64 u1) ∧ x.cell? ⟨w.heap.size, 2, none⟩ = some (.int .i64 u2) ∧ x.cell? ⟨w.heap.size, 3, none⟩ = some (.int .i64 u3) ∧ x.cell? ⟨w.heap.size + 1, 0, none⟩ = some (.int .i64 v0) ∧ x.cell? ⟨w.heap.size + 1, 1, none⟩ = some (.int .i64 v1) ∧ x.cell? ⟨w.heap.size + 1, 2, none⟩ = some (.int .i64 v2) ∧ x.cell? ⟨w.heap.size + 1, 3, none⟩ = some (.int .i64 v3) ∧ x.cell? ⟨w.heap.size + 1 + 1, 0, none⟩ = some (.int .i64 t0) ∧ x.cell? ⟨w.heap.size + 1 + 1, 1, none⟩ = some (.int .i64 t1) ∧ x.cell? ⟨w.heap.size + 1 + 1, 2, none⟩ = some (.int .i64 t2) ∧ x.cell? ⟨w.heap.size + 1 + 1, 3, none⟩ = some (.int .i64 t3)) (by kernel_rfl) ?_
    have hS : (fun x : World => x.cell? ⟨w.heap.size, 0, none⟩ = some (.int .i64 u0) ∧ x.cell? ⟨w.heap.size, 1, none⟩ = some (.int .i64 u1) ∧ x.cell? ⟨w.heap.size, 2, none⟩ = some (.int .i64 u2) ∧ x.cell? ⟨w.heap.size, 3, none⟩ = some (.int .i64 u3) ∧ x.cell? ⟨w.heap.size + 1, 0, none⟩ = some (.int .i64 v0) ∧ x.cell? ⟨w.heap.size + 1, 1, none⟩ = some (.int .i64 v1) ∧ x.cell? ⟨w.heap.size + 1, 2, none⟩ = some (.int .i64 v2) ∧ x.cell? ⟨w.heap.size + 1, 3, none⟩ = some (.int .i64 v3) ∧ x.cell? ⟨w.heap.size + 1 + 1, 0, none⟩ = some (.int .i64 t0) ∧ x.cell? ⟨w.heap.size + 1 + 1, 1, none⟩ = some (.int .i64 t1) ∧ x.cell? ⟨w.heap.size + 1 + 1, 2, none⟩ = some (.int .i64 t2) ∧ x.cell? ⟨w.heap.size + 1 + 1, 3, none⟩ = some (.int .i64 t3)) x2.drew := ⟨p0, p1, p2, p3, c0, c1, c2, c3, d0, d1, d2, d3⟩
    have key : True := trivial
    · show wpAnyH _ _ _ _ _ _ _ _ x2.drew
      refine wpAnyH_take (i := 0) (v := (.int .u8 n)) rfl (by kernel_rfl) (by kernel_rfl) (by kernel_rfl) (fun _ _ _ h => h) (Or.inl ⟨by rfl, ?_⟩) hS ?_
      · intro x hx
        obtain ⟨s0, s1, s2, s3, c0, c1, c2, c3, d0, d1, d2, d3⟩ := hx
        go_simp
      simp only [Act.put, List.setIfInBounds_toArray, List.set_cons_zero, List.set_cons_succ]
      refine takeCall (i := 1) (v := (.bool b0)) rfl (by kernel_rfl) (by kernel_rfl) (by kernel_rfl) (fun _ _ _ h => h) ⟨by rfl, 15, #[.int .u8 n, .int .u8 0], fun x hx => ⟨?_, hv0 x⟩⟩ hS ?_
      · go_simp
      simp only [Act.put, List.setIfInBounds_toArray, List.set_cons_zero, List.set_cons_succ]
      refine wpAnyH_take (i := 2) (v := (.pointer (some ⟨w.heap.size + 1, 0, none⟩))) rfl (by kernel_rfl) (by kernel_rfl) (by kernel_rfl) (fun _ _ _ h => h) (Or.inl ⟨by rfl, ?_⟩) hS ?_
      · intro x hx
        obtain ⟨s0, s1, s2, s3, c0, c1, c2, c3, d0, d1, d2, d3⟩ := hx
        go_simp
      simp only [Act.put, List.setIfInBounds_toArray, List.set_cons_zero, List.set_cons_succ]
      refine wpAnyH_take (i := 3) (v := (.int .i64 v0)) rfl (by kernel_rfl) (by kernel_rfl) (by kernel_rfl) (fun _ _ _ h => h) (Or.inl ⟨by rfl, ?_⟩) hS ?_
      · intro x hx
        obtain ⟨s0, s1, s2, s3, c0, c1, c2, c3, d0, d1, d2, d3⟩ := hx
        go_simp
      simp only [Act.put, List.setIfInBounds_toArray, List.set_cons_zero, List.set_cons_succ]
      refine wpAnyH_take (i := 4) (v := (.int .u8 m)) rfl (by kernel_rfl) (by kernel_rfl) (by kernel_rfl) (fun _ _ _ h => h) (Or.inl ⟨by rfl, ?_⟩) hS ?_
      · intro x hx
        obtain ⟨s0, s1, s2, s3, c0, c1, c2, c3, d0, d1, d2, d3⟩ := hx
        go_simp
      simp only [Act.put, List.setIfInBounds_toArray, List.set_cons_zero, List.set_cons_succ]
      refine takeCall (i := 5) (v := (.bool a0)) rfl (by kernel_rfl) (by kernel_rfl) (by kernel_rfl) (fun _ _ _ h => h) ⟨by rfl, 15, #[.int .u8 m, .int .u8 0], fun x hx => ⟨?_, hu0 x⟩⟩ hS ?_
      · go_simp
      simp only [Act.put, List.setIfInBounds_toArray, List.set_cons_zero, List.set_cons_succ]
      refine wpAnyH_take (i := 6) (v := (.pointer (some ⟨w.heap.size, 0, none⟩))) rfl (by kernel_rfl) (by kernel_rfl) (by kernel_rfl) (fun _ _ _ h => h) (Or.inl ⟨by rfl, ?_⟩) hS ?_
      · intro x hx
        obtain ⟨s0, s1, s2, s3, c0, c1, c2, c3, d0, d1, d2, d3⟩ := hx
        go_simp
      simp only [Act.put, List.setIfInBounds_toArray, List.set_cons_zero, List.set_cons_succ]
      refine wpAnyH_take (i := 7) (v := (.int .i64 u0)) rfl (by kernel_rfl) (by kernel_rfl) (by kernel_rfl) (fun _ _ _ h => h) (Or.inl ⟨by rfl, ?_⟩) hS ?_
      · intro x hx
        obtain ⟨s0, s1, s2, s3, c0, c1, c2, c3, d0, d1, d2, d3⟩ := hx
        go_simp
      simp only [Act.put, List.setIfInBounds_toArray, List.set_cons_zero, List.set_cons_succ]
      refine wpAnyH_take (i := 8) (v := (.pointer (some ⟨w.heap.size + 1 + 1, 0, none⟩))) rfl (by kernel_rfl) (by kernel_rfl) (by kernel_rfl) (fun _ _ _ h => h) (Or.inl ⟨by rfl, ?_⟩) hS ?_
      · intro x hx
        obtain ⟨s0, s1, s2, s3, c0, c1, c2, c3, d0, d1, d2, d3⟩ := hx
        go_simp
      simp only [Act.put, List.setIfInBounds_toArray, List.set_cons_zero, List.set_cons_succ]
      refine wpAnyH_take (i := 9) (v := (.int .i64 t0)) rfl (by kernel_rfl) (by kernel_rfl) (by kernel_rfl) (fun _ _ _ h => h) (Or.inl ⟨by rfl, ?_⟩) hS ?_
      · intro x hx
        obtain ⟨s0, s1, s2, s3, c0, c1, c2, c3, d0, d1, d2, d3⟩ := hx
        go_simp
      simp only [Act.put, List.setIfInBounds_toArray, List.set_cons_zero, List.set_cons_succ]
      refine takeCall (i := 10) (v := (.int .i64 (pickB a0 u0 t0))) rfl (by kernel_rfl) (by kernel_rfl) (by kernel_rfl) (fun _ _ _ h => h) ⟨by rfl, 13, #[.bool a0, .int .i64 u0, .int .i64 t0], fun x hx => ⟨?_, pick_any a0 u0 t0 x⟩⟩ hS ?_
      · go_simp
      simp only [Act.put, List.setIfInBounds_toArray, List.set_cons_zero, List.set_cons_succ]
      refine takeCall (i := 11) (v := (.int .i64 (pickB b0 v0 (pickB a0 u0 t0)))) rfl (by kernel_rfl) (by kernel_rfl) (by kernel_rfl) (fun _ _ _ h => h) ⟨by rfl, 13, #[.bool b0, .int .i64 v0, .int .i64 (pickB a0 u0 t0)], fun x hx => ⟨?_, pick_any b0 v0 (pickB a0 u0 t0) x⟩⟩ hS ?_
      · go_simp
      simp only [Act.put, List.setIfInBounds_toArray, List.set_cons_zero, List.set_cons_succ]
      refine wpAnyH_take (i := 12) (v := (.int .u8 n)) rfl (by kernel_rfl) (by kernel_rfl) (by kernel_rfl) (fun _ _ _ h => h) (Or.inl ⟨by rfl, ?_⟩) hS ?_
      · intro x hx
        obtain ⟨s0, s1, s2, s3, c0, c1, c2, c3, d0, d1, d2, d3⟩ := hx
        go_simp
      simp only [Act.put, List.setIfInBounds_toArray, List.set_cons_zero, List.set_cons_succ]
      refine takeCall (i := 13) (v := (.bool b1)) rfl (by kernel_rfl) (by kernel_rfl) (by kernel_rfl) (fun _ _ _ h => h) ⟨by rfl, 15, #[.int .u8 n, .int .u8 1], fun x hx => ⟨?_, hv1 x⟩⟩ hS ?_
      · go_simp
      simp only [Act.put, List.setIfInBounds_toArray, List.set_cons_zero, List.set_cons_succ]
      refine wpAnyH_take (i := 14) (v := (.pointer (some ⟨w.heap.size + 1, 1, none⟩))) rfl (by kernel_rfl) (by kernel_rfl) (by kernel_rfl) (fun _ _ _ h => h) (Or.inl ⟨by rfl, ?_⟩) hS ?_
      · intro x hx
        obtain ⟨s0, s1, s2, s3, c0, c1, c2, c3, d0, d1, d2, d3⟩ := hx
        go_simp
      simp only [Act.put, List.setIfInBounds_toArray, List.set_cons_zero, List.set_cons_succ]
      refine wpAnyH_take (i := 15) (v := (.int .i64 v1)) rfl (by kernel_rfl) (by kernel_rfl) (by kernel_rfl) (fun _ _ _ h => h) (Or.inl ⟨by rfl, ?_⟩) hS ?_
      · intro x hx
        obtain ⟨s0, s1, s2, s3, c0, c1, c2, c3, d0, d1, d2, d3⟩ := hx
        go_simp
      simp only [Act.put, List.setIfInBounds_toArray, List.set_cons_zero, List.set_cons_succ]
      refine wpAnyH_take (i := 16) (v := (.int .u8 m)) rfl (by kernel_rfl) (by kernel_rfl) (by kernel_rfl) (fun _ _ _ h => h) (Or.inl ⟨by rfl, ?_⟩) hS ?_
      · intro x hx
        obtain ⟨s0, s1, s2, s3, c0, c1, c2, c3, d0, d1, d2, d3⟩ := hx
        go_simp
      simp only [Act.put, List.setIfInBounds_toArray, List.set_cons_zero, List.set_cons_succ]
      refine takeCall (i := 17) (v := (.bool a1)) rfl (by kernel_rfl) (by kernel_rfl) (by kernel_rfl) (fun _ _ _ h => h) ⟨by rfl, 15, #[.int .u8 m, .int .u8 1], fun x hx => ⟨?_, hu1 x⟩⟩ hS ?_
      · go_simp
      simp only [Act.put, List.setIfInBounds_toArray, List.set_cons_zero, List.set_cons_succ]
      refine wpAnyH_take (i := 18) (v := (.pointer (some ⟨w.heap.size, 1, none⟩))) rfl (by kernel_rfl) (by kernel_rfl) (by kernel_rfl) (fun _ _ _ h => h) (Or.inl ⟨by rfl, ?_⟩) hS ?_
      · intro x hx
        obtain ⟨s0, s1, s2, s3, c0, c1, c2, c3, d0, d1, d2, d3⟩ := hx
        go_simp
      simp only [Act.put, List.setIfInBounds_toArray, List.set_cons_zero, List.set_cons_succ]
      refine wpAnyH_take (i := 19) (v := (.int .i64 u1)) rfl (by kernel_rfl) (by kernel_rfl) (by kernel_rfl) (fun _ _ _ h => h) (Or.inl ⟨by rfl, ?_⟩) hS ?_
      · intro x hx
        obtain ⟨s0, s1, s2, s3, c0, c1, c2, c3, d0, d1, d2, d3⟩ := hx
        go_simp
      simp only [Act.put, List.setIfInBounds_toArray, List.set_cons_zero, List.set_cons_succ]
      refine wpAnyH_take (i := 20) (v := (.pointer (some ⟨w.heap.size + 1 + 1, 1, none⟩))) rfl (by kernel_rfl) (by kernel_rfl) (by kernel_rfl) (fun _ _ _ h => h) (Or.inl ⟨by rfl, ?_⟩) hS ?_
      · intro x hx
        obtain ⟨s0, s1, s2, s3, c0, c1, c2, c3, d0, d1, d2, d3⟩ := hx
        go_simp
      simp only [Act.put, List.setIfInBounds_toArray, List.set_cons_zero, List.set_cons_succ]
      refine wpAnyH_take (i := 21) (v := (.int .i64 t1)) rfl (by kernel_rfl) (by kernel_rfl) (by kernel_rfl) (fun _ _ _ h => h) (Or.inl ⟨by rfl, ?_⟩) hS ?_
      · intro x hx
        obtain ⟨s0, s1, s2, s3, c0, c1, c2, c3, d0, d1, d2, d3⟩ := hx
        go_simp
      simp only [Act.put, List.setIfInBounds_toArray, List.set_cons_zero, List.set_cons_succ]
      refine takeCall (i := 22) (v := (.int .i64 (pickB a1 u1 t1))) rfl (by kernel_rfl) (by kernel_rfl) (by kernel_rfl) (fun _ _ _ h => h) ⟨by rfl, 13, #[.bool a1, .int .i64 u1, .int .i64 t1], fun x hx => ⟨?_, pick_any a1 u1 t1 x⟩⟩ hS ?_
      · go_simp
      simp only [Act.put, List.setIfInBounds_toArray, List.set_cons_zero, List.set_cons_succ]
      refine takeCall (i := 23) (v := (.int .i64 (pickB b1 v1 (pickB a1 u1 t1)))) rfl (by kernel_rfl) (by kernel_rfl) (by kernel_rfl) (fun _ _ _ h => h) ⟨by rfl, 13, #[.bool b1, .int .i64 v1, .int .i64 (pickB a1 u1 t1)], fun x hx => ⟨?_, pick_any b1 v1 (pickB a1 u1 t1) x⟩⟩ hS ?_
      · go_simp
      simp only [Act.put, List.setIfInBounds_toArray, List.set_cons_zero, List.set_cons_succ]
      refine wpAnyH_take (i := 24) (v := (.int .u8 n)) rfl (by kernel_rfl) (by kernel_rfl) (by kernel_rfl) (fun _ _ _ h => h) (Or.inl ⟨by rfl, ?_⟩) hS ?_
      · intro x hx
        obtain ⟨s0, s1, s2, s3, c0, c1, c2, c3, d0, d1, d2, d3⟩ := hx
        go_simp
      simp only [Act.put, List.setIfInBounds_toArray, List.set_cons_zero, List.set_cons_succ]
      refine takeCall (i := 25) (v := (.bool b2)) rfl (by kernel_rfl) (by kernel_rfl) (by kernel_rfl) (fun _ _ _ h => h) ⟨by rfl, 15, #[.int .u8 n, .int .u8 2], fun x hx => ⟨?_, hv2 x⟩⟩ hS ?_
      · go_simp
      simp only [Act.put, List.setIfInBounds_toArray, List.set_cons_zero, List.set_cons_succ]
      refine wpAnyH_take (i := 26) (v := (.pointer (some ⟨w.heap.size + 1, 2, none⟩))) rfl (by kernel_rfl) (by kernel_rfl) (by kernel_rfl) (fun _ _ _ h => h) (Or.inl ⟨by rfl, ?_⟩) hS ?_
      · intro x hx
        obtain ⟨s0, s1, s2, s3, c0, c1, c2, c3, d0, d1, d2, d3⟩ := hx
        go_simp
      simp only [Act.put, List.setIfInBounds_toArray, List.set_cons_zero, List.set_cons_succ]
      refine wpAnyH_take (i := 27) (v := (.int .i64 v2)) rfl (by kernel_rfl) (by kernel_rfl) (by kernel_rfl) (fun _ _ _ h => h) (Or.inl ⟨by rfl, ?_⟩) hS ?_
      · intro x hx
        obtain ⟨s0, s1, s2, s3, c0, c1, c2, c3, d0, d1, d2, d3⟩ := hx
        go_simp
      simp only [Act.put, List.setIfInBounds_toArray, List.set_cons_zero, List.set_cons_succ]
      refine wpAnyH_take (i := 28) (v := (.int .u8 m)) rfl (by kernel_rfl) (by kernel_rfl) (by kernel_rfl) (fun _ _ _ h => h) (Or.inl ⟨by rfl, ?_⟩) hS ?_
      · intro x hx
        obtain ⟨s0, s1, s2, s3, c0, c1, c2, c3, d0, d1, d2, d3⟩ := hx
        go_simp
      simp only [Act.put, List.setIfInBounds_toArray, List.set_cons_zero, List.set_cons_succ]
      refine takeCall (i := 29) (v := (.bool a2)) rfl (by kernel_rfl) (by kernel_rfl) (by kernel_rfl) (fun _ _ _ h => h) ⟨by rfl, 15, #[.int .u8 m, .int .u8 2], fun x hx => ⟨?_, hu2 x⟩⟩ hS ?_
      · go_simp
      simp only [Act.put, List.setIfInBounds_toArray, List.set_cons_zero, List.set_cons_succ]
      refine wpAnyH_take (i := 30) (v := (.pointer (some ⟨w.heap.size, 2, none⟩))) rfl (by kernel_rfl) (by kernel_rfl) (by kernel_rfl) (fun _ _ _ h => h) (Or.inl ⟨by rfl, ?_⟩) hS ?_
      · intro x hx
        obtain ⟨s0, s1, s2, s3, c0, c1, c2, c3, d0, d1, d2, d3⟩ := hx
        go_simp
      simp only [Act.put, List.setIfInBounds_toArray, List.set_cons_zero, List.set_cons_succ]
      refine wpAnyH_take (i := 31) (v := (.int .i64 u2)) rfl (by kernel_rfl) (by kernel_rfl) (by kernel_rfl) (fun _ _ _ h => h) (Or.inl ⟨by rfl, ?_⟩) hS ?_
      · intro x hx
        obtain ⟨s0, s1, s2, s3, c0, c1, c2, c3, d0, d1, d2, d3⟩ := hx
        go_simp
      simp only [Act.put, List.setIfInBounds_toArray, List.set_cons_zero, List.set_cons_succ]
      refine wpAnyH_take (i := 32) (v := (.pointer (some ⟨w.heap.size + 1 + 1, 2, none⟩))) rfl (by kernel_rfl) (by kernel_rfl) (by kernel_rfl) (fun _ _ _ h => h) (Or.inl ⟨by rfl, ?_⟩) hS ?_
      · intro x hx
        obtain ⟨s0, s1, s2, s3, c0, c1, c2, c3, d0, d1, d2, d3⟩ := hx
        go_simp
      simp only [Act.put, List.setIfInBounds_toArray, List.set_cons_zero, List.set_cons_succ]
      refine wpAnyH_take (i := 33) (v := (.int .i64 t2)) rfl (by kernel_rfl) (by kernel_rfl) (by kernel_rfl) (fun _ _ _ h => h) (Or.inl ⟨by rfl, ?_⟩) hS ?_
      · intro x hx
        obtain ⟨s0, s1, s2, s3, c0, c1, c2, c3, d0, d1, d2, d3⟩ := hx
        go_simp
      simp only [Act.put, List.setIfInBounds_toArray, List.set_cons_zero, List.set_cons_succ]
      refine takeCall (i := 34) (v := (.int .i64 (pickB a2 u2 t2))) rfl (by kernel_rfl) (by kernel_rfl) (by kernel_rfl) (fun _ _ _ h => h) ⟨by rfl, 13, #[.bool a2, .int .i64 u2, .int .i64 t2], fun x hx => ⟨?_, pick_any a2 u2 t2 x⟩⟩ hS ?_
      · go_simp
      simp only [Act.put, List.setIfInBounds_toArray, List.set_cons_zero, List.set_cons_succ]
      refine takeCall (i := 35) (v := (.int .i64 (pickB b2 v2 (pickB a2 u2 t2)))) rfl (by kernel_rfl) (by kernel_rfl) (by kernel_rfl) (fun _ _ _ h => h) ⟨by rfl, 13, #[.bool b2, .int .i64 v2, .int .i64 (pickB a2 u2 t2)], fun x hx => ⟨?_, pick_any b2 v2 (pickB a2 u2 t2) x⟩⟩ hS ?_
      · go_simp
      simp only [Act.put, List.setIfInBounds_toArray, List.set_cons_zero, List.set_cons_succ]
      refine wpAnyH_take (i := 36) (v := (.int .u8 n)) rfl (by kernel_rfl) (by kernel_rfl) (by kernel_rfl) (fun _ _ _ h => h) (Or.inl ⟨by rfl, ?_⟩) hS ?_
      · intro x hx
        obtain ⟨s0, s1, s2, s3, c0, c1, c2, c3, d0, d1, d2, d3⟩ := hx
        go_simp
      simp only [Act.put, List.setIfInBounds_toArray, List.set_cons_zero, List.set_cons_succ]
      refine takeCall (i := 37) (v := (.bool b3)) rfl (by kernel_rfl) (by kernel_rfl) (by kernel_rfl) (fun _ _ _ h => h) ⟨by rfl, 15, #[.int .u8 n, .int .u8 3], fun x hx => ⟨?_, hv3 x⟩⟩ hS ?_
      · go_simp
      simp only [Act.put, List.setIfInBounds_toArray, List.set_cons_zero, List.set_cons_succ]
      refine wpAnyH_take (i := 38) (v := (.pointer (some ⟨w.heap.size + 1, 3, none⟩))) rfl (by kernel_rfl) (by kernel_rfl) (by kernel_rfl) (fun _ _ _ h => h) (Or.inl ⟨by rfl, ?_⟩) hS ?_
      · intro x hx
        obtain ⟨s0, s1, s2, s3, c0, c1, c2, c3, d0, d1, d2, d3⟩ := hx
        go_simp
      simp only [Act.put, List.setIfInBounds_toArray, List.set_cons_zero, List.set_cons_succ]
      refine wpAnyH_take (i := 39) (v := (.int .i64 v3)) rfl (by kernel_rfl) (by kernel_rfl) (by kernel_rfl) (fun _ _ _ h => h) (Or.inl ⟨by rfl, ?_⟩) hS ?_
      · intro x hx
        obtain ⟨s0, s1, s2, s3, c0, c1, c2, c3, d0, d1, d2, d3⟩ := hx
        go_simp
      simp only [Act.put, List.setIfInBounds_toArray, List.set_cons_zero, List.set_cons_succ]
      refine wpAnyH_take (i := 40) (v := (.int .u8 m)) rfl (by kernel_rfl) (by kernel_rfl) (by kernel_rfl) (fun _ _ _ h => h) (Or.inl ⟨by rfl, ?_⟩) hS ?_
      · intro x hx
        obtain ⟨s0, s1, s2, s3, c0, c1, c2, c3, d0, d1, d2, d3⟩ := hx
        go_simp
      simp only [Act.put, List.setIfInBounds_toArray, List.set_cons_zero, List.set_cons_succ]
      refine takeCall (i := 41) (v := (.bool a3)) rfl (by kernel_rfl) (by kernel_rfl) (by kernel_rfl) (fun _ _ _ h => h) ⟨by rfl, 15, #[.int .u8 m, .int .u8 3], fun x hx => ⟨?_, hu3 x⟩⟩ hS ?_
      · go_simp
      simp only [Act.put, List.setIfInBounds_toArray, List.set_cons_zero, List.set_cons_succ]
      refine wpAnyH_take (i := 42) (v := (.pointer (some ⟨w.heap.size, 3, none⟩))) rfl (by kernel_rfl) (by kernel_rfl) (by kernel_rfl) (fun _ _ _ h => h) (Or.inl ⟨by rfl, ?_⟩) hS ?_
      · intro x hx
        obtain ⟨s0, s1, s2, s3, c0, c1, c2, c3, d0, d1, d2, d3⟩ := hx
        go_simp
      simp only [Act.put, List.setIfInBounds_toArray, List.set_cons_zero, List.set_cons_succ]
      refine wpAnyH_take (i := 43) (v := (.int .i64 u3)) rfl (by kernel_rfl) (by kernel_rfl) (by kernel_rfl) (fun _ _ _ h => h) (Or.inl ⟨by rfl, ?_⟩) hS ?_
      · intro x hx
        obtain ⟨s0, s1, s2, s3, c0, c1, c2, c3, d0, d1, d2, d3⟩ := hx
        go_simp
      simp only [Act.put, List.setIfInBounds_toArray, List.set_cons_zero, List.set_cons_succ]
      refine wpAnyH_take (i := 44) (v := (.pointer (some ⟨w.heap.size + 1 + 1, 3, none⟩))) rfl (by kernel_rfl) (by kernel_rfl) (by kernel_rfl) (fun _ _ _ h => h) (Or.inl ⟨by rfl, ?_⟩) hS ?_
      · intro x hx
        obtain ⟨s0, s1, s2, s3, c0, c1, c2, c3, d0, d1, d2, d3⟩ := hx
        go_simp
      simp only [Act.put, List.setIfInBounds_toArray, List.set_cons_zero, List.set_cons_succ]
      refine wpAnyH_take (i := 45) (v := (.int .i64 t3)) rfl (by kernel_rfl) (by kernel_rfl) (by kernel_rfl) (fun _ _ _ h => h) (Or.inl ⟨by rfl, ?_⟩) hS ?_
      · intro x hx
        obtain ⟨s0, s1, s2, s3, c0, c1, c2, c3, d0, d1, d2, d3⟩ := hx
        go_simp
      simp only [Act.put, List.setIfInBounds_toArray, List.set_cons_zero, List.set_cons_succ]
      refine takeCall (i := 46) (v := (.int .i64 (pickB a3 u3 t3))) rfl (by kernel_rfl) (by kernel_rfl) (by kernel_rfl) (fun _ _ _ h => h) ⟨by rfl, 13, #[.bool a3, .int .i64 u3, .int .i64 t3], fun x hx => ⟨?_, pick_any a3 u3 t3 x⟩⟩ hS ?_
      · go_simp
      simp only [Act.put, List.setIfInBounds_toArray, List.set_cons_zero, List.set_cons_succ]
      refine takeCall (i := 47) (v := (.int .i64 (pickB b3 v3 (pickB a3 u3 t3)))) rfl (by kernel_rfl) (by kernel_rfl) (by kernel_rfl) (fun _ _ _ h => h) ⟨by rfl, 13, #[.bool b3, .int .i64 v3, .int .i64 (pickB a3 u3 t3)], fun x hx => ⟨?_, pick_any b3 v3 (pickB a3 u3 t3) x⟩⟩ hS ?_
      · go_simp
      simp only [Act.put, List.setIfInBounds_toArray, List.set_cons_zero, List.set_cons_succ]
      refine wpAnyH_take (i := 48) (v := (.agg #[.int .i64 (pickB b0 v0 (pickB a0 u0 t0)), .int .i64 (pickB b1 v1 (pickB a1 u1 t1)), .int .i64 (pickB b2 v2 (pickB a2 u2 t2)), .int .i64 (pickB b3 v3 (pickB a3 u3 t3))])) rfl (by kernel_rfl) (by kernel_rfl) (by kernel_rfl) (fun _ _ _ h => h) (Or.inl ⟨by rfl, ?_⟩) hS ?_
      · intro x hx
        obtain ⟨s0, s1, s2, s3, c0, c1, c2, c3, d0, d1, d2, d3⟩ := hx
        go_simp
      simp only [Act.put, List.setIfInBounds_toArray, List.set_cons_zero, List.set_cons_succ]
      refine wpAnyH_ready (rs := [49]) (by kernel_rfl) (by simp) ?_
      refine AllReadyH.cons rfl (fun K hK => ?_) AllReadyH.nil
      go_simp
      refine hK.out _ _ ?_ (fun hHeld => ?_)
      · (first | (simp only [World.cell?_drew, World.cell?_alloc_past _ _ _ ul, World.cell?_alloc_past _ _ _ vl, World.cell?_alloc_past _ _ _ tl3, p0, p1, p2, p3, c0, c1, c2, c3, d0, d1, d2, d3, and_self]; done))
      clear hK K
      try simp only [Act.put, List.setIfInBounds_toArray, List.set_cons_zero, List.set_cons_succ]
      refine wpAnyH_ready (rs := [50]) (by kernel_rfl) (by simp) ?_
      refine AllReadyH.cons rfl (fun K hK => ?_) AllReadyH.nil
      go_simp
      refine hK.out _ _ ?_ (fun hHeld => ?_)
      · (first | (simp only [World.cell?_drew, World.cell?_alloc_past _ _ _ ul, World.cell?_alloc_past _ _ _ vl, World.cell?_alloc_past _ _ _ tl3, p0, p1, p2, p3, c0, c1, c2, c3, d0, d1, d2, d3, and_self]; done))
      clear hK K
      try simp only [Act.put, List.setIfInBounds_toArray, List.set_cons_zero, List.set_cons_succ]
      refine wpAnyH_done (by kernel_rfl) ?_ _
      refine NoPanic.normal ?_
      go_wp2
      go_ret
      exact ⟨rfl, hg2.alloc _ _⟩
end Go.Proofs.Qxb6600861a
