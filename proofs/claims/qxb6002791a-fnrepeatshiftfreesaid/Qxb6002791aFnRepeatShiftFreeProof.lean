/-
  'Rows.FnRepeatShiftFreeSaid', proved. The frame: the guide's template as proof-skeleton.mjs wrote it for this function; the walk is typed by hand.
-/
import Derived.Test.Qxb6002791aRows
import Derived.Test.Qxb6002791aWalkC
import Derived.WalkKit
import Derived.ProofKit
import Derived.OpenShut
import Derived.ShutString
namespace Go.Proofs.Qxb6002791a.fnRepeatShiftFree
open Go.ChangeShapes Go.WideShapes Go.ChangeAt Go.RowKit
open Go.ChangeMaps (open_string shut_string)
set_option linter.unusedVariables false      -- a walk need not use every 'w<i>' (that an integer argument fits its kind)

theorem own : ownKnob Try.prog.godebug = none := by kernel_rfl

open Plain
theorem not_empty {x : ByteArray} (h : 0 < x.size) : x.toList.isEmpty = false := by
  rw [← decide_eq_emptyBytes]
  exact decide_eq_false (fun e => by rw [e] at h; exact absurd h (by decide))

/-! ### the callees -/
theorem bytes_yes (a0 a1 : ByteArray) (i : Int) (h : a0.size + a1.size ≤ 1048576) (w : World) :
    Calls Try.prog 10 #[.string a0, .string a1, .int .i64 i] w fun e w' => e = .returned (.bool true) ∧ w' = w := by
  go_enter Try.func10, Try.ntmps10
  go_wp2
  go_ret
  exact ⟨rfl, rfl⟩
theorem bytes_no (a0 a1 : ByteArray) (i : Int) (h : ¬ a0.size + a1.size ≤ 1048576) (w0 : a0.size ≤ maxLen) (w1 : a1.size ≤ maxLen) (w : World) :
    Calls Try.prog 10 #[.string a0, .string a1, .int .i64 i] w fun e w' => e = .returned (.bool false) ∧ w' = w := by
  unfold maxLen at w0 w1
  by_cases h0 : a0.size ≤ 1048576
  · by_cases h1 : a1.size ≤ 1048576
    · go_enter Try.func10, Try.ntmps10
      go_wp2
      go_ret
      exact ⟨rfl, rfl⟩
    · go_enter Try.func10, Try.ntmps10
      go_wp2
      go_ret
      exact ⟨rfl, rfl⟩
  · go_enter Try.func10, Try.ntmps10
    go_wp2
    go_ret
    exact ⟨rfl, rfl⟩

set_option maxHeartbeats 1000000 in
theorem walk_plain (a0 a1 : ByteArray) (i : Nat) (hs : a0.size + a1.size ≤ 1048576) (hi : i < a1.size) (n : Nat) (hn1 : i < n) (hn2 : n ≤ a1.size)
    (hr1 : rp a1 i = ((n : Int), ByteArray.empty)) (hr2 : rp (a0 ++ a1) (a0.size + i) = (((n + a0.size : Nat) : Int), ByteArray.empty)) (w : World) :
    Calls Try.prog 5 #[.string a0, .string a1, .int .i64 i] w fun e w' => e = .returned (.bool true) ∧ Grown w w' := by
  have k1 := fun ii h => zzrep_any a1 i ii _ _ h hr1 (by omega) hi
  have k2 := fun ii h => zzrep_any (a0 ++ a1) (a0.size + i) ii _ _ h hr2 (by rw [ByteArray.size_append]; omega) (by rw [ByteArray.size_append]; omega)
  clear hr1 hr2
  go_enter Try.func5, Try.ntmps5
  go_wp2_with fail
  go_at_call 10
  refine (bytes_yes a0 a1 _ hs _).mono ?_
  rintro e w' ⟨rfl, rfl⟩
  go_wp2_with fail
  go_at_call 11
  refine (k1 _ rfl _).mono ?_
  rintro e w1 ⟨rfl, hg1⟩
  go_wp2_with fail
  go_at_call 11
  refine (k2 _ (by omega) _).mono ?_
  rintro e w2 ⟨rfl, hg2⟩
  go_wp2
  go_ret
  exact ⟨rfl, grown_trans hg1 hg2⟩

set_option maxHeartbeats 1000000 in
theorem walk_part (a0 a1 : ByteArray) (i : Nat) (hs : a0.size + a1.size ≤ 1048576) (hi : i < a1.size) (x : ByteArray) (hx0 : 0 < x.size) (hx1 : i + x.size ≤ a1.size) (hx : a1.extract i (i + x.size) = x)
    (hb : a1[i].toNat = 123) (hr1 : rp a1 i = (0, x)) (hr2 : rp (a0 ++ a1) (a0.size + i) = (0, x)) (w : World) :
    Calls Try.prog 5 #[.string a0, .string a1, .int .i64 i] w fun e w' => e = .returned (.bool true) ∧ Grown w w' := by
  have k1 := fun ii h => zzrep_any a1 i ii _ _ h hr1 (by omega) hi
  have k2 := fun ii h => zzrep_any (a0 ++ a1) (a0.size + i) ii _ _ h hr2 (by rw [ByteArray.size_append]; omega) (by rw [ByteArray.size_append]; omega)
  clear hr1 hr2
  have hne := not_empty hx0
  go_enter Try.func5, Try.ntmps5
  go_wp2_with fail
  go_at_call 10
  refine (bytes_yes a0 a1 _ hs _).mono ?_
  rintro e w' ⟨rfl, rfl⟩
  go_wp2_with fail
  go_at_call 11
  refine (k1 _ rfl _).mono ?_
  rintro e w1 ⟨rfl, hg1⟩
  go_wp2_with fail
  go_at_call 11
  refine (k2 _ (by omega) _).mono ?_
  rintro e w2 ⟨rfl, hg2⟩
  go_wp2
  go_ret
  exact ⟨rfl, grown_trans hg1 hg2⟩

/-! ### STEP 1: THE WALK: the Go text returns true. 'Grown w w'': the world has at most new blocks (Derived/RowKit3.lean). Part the cases AHEAD of 'go_enter' where a test parts the walk; take each callee by a contract of your own. -/
theorem walk (a0 : ByteArray) (a1 : ByteArray) (a2 : Int) (w0 : a0.size ≤ maxLen) (w1 : a1.size ≤ maxLen) (w2 : (Lit.int .i64 a2).wf = true) (w : World) :
    Calls Try.prog 5 #[.string a0, .string a1, .int .i64 a2] w fun e w' => e = .returned (.bool true) ∧ Grown w w' := by
  by_cases hs : a0.size + a1.size ≤ 1048576
  · by_cases hi0 : a2 < 0
    · go_enter Try.func5, Try.ntmps5
      go_wp2_with (go_at_call 10; refine (bytes_yes a0 a1 _ hs _).mono ?_; rintro e w' ⟨rfl, rfl⟩)
      go_ret
      exact ⟨rfl, Grown.refl _⟩
    · obtain ⟨i, rfl⟩ : ∃ i : Nat, a2 = (i : Int) := ⟨a2.toNat, by omega⟩
      by_cases hi : i < a1.size
      · rcases rp_law a0 a1 i hi with ⟨n, h1, h2, hr1, hr2⟩ | ⟨m, h1, h2, hb, hr1, hr2⟩
        · exact walk_plain a0 a1 i hs hi n h1 h2 hr1 hr2 w
        · have hsz : (a1.extract i (i + m)).size = m := by rw [ByteArray.size_extract]; omega
          exact walk_part a0 a1 i hs hi _ (by omega) (by omega) (by rw [hsz]) (by rw [← bat_in hi]; exact hb) hr1 hr2 w
      · go_enter Try.func5, Try.ntmps5
        go_wp2_with (go_at_call 10; refine (bytes_yes a0 a1 _ hs _).mono ?_; rintro e w' ⟨rfl, rfl⟩)
        go_ret
        exact ⟨rfl, Grown.refl _⟩
  · go_enter Try.func5, Try.ntmps5
    go_wp2_with (go_at_call 10; refine (bytes_no a0 a1 _ hs w0 w1 _).mono ?_; rintro e w' ⟨rfl, rfl⟩)
    go_ret
    exact ⟨rfl, Grown.refl _⟩

/-! ### THE ROW's STEP: WRITTEN OUT: LEAVE IT -/
set_option maxRecDepth 100000 in
theorem lifted (os : Os) (started : os.Started) (H : Type) (enc : TypeId × Value → H) :
    ReturnsInHanded {} Try.checked os 5 .any (Rows.fnRepeatShiftFreeSpec.pre6 enc Try.prog Try.f5 Rows.fnRepeatShiftFreeRow.domain false) (Rows.fnRepeatShiftFreeSpec.post enc Try.prog Try.f5 false true false false) := by
  refine returnsInHanded_of_change (C := Try.checked) own started (by kernel_rfl) Try.func5
    (ChangeSpec.witness6 (enc := enc) (C := Try.checked) false ⟨#[], #[.string ByteArray.empty, .string ByteArray.empty, .int .i64 0], []⟩ 8 (by kernel_rfl) (by kernel_rfl) (by kernel_rfl) (by kernel_rfl)) ?_
  intro W base args ds gs before hval0 hW hcnd _
  have hval : ∀ (j : Nat) t v, Try.f5.params[j]? = some t → args[j]? = some v → Value.okWide Try.prog W .any base t v := hval0
  have hW' := hW
  obtain ⟨p, q, hA0, hV, rfl, hfz, hnd⟩ := hW
  have hA : DataW.TrodAll enc Try.prog W 0 (fun _ => true) true Try.f5.params.toList args.toList ds p := hA0
  rw [Try.params5] at hA hval
  obtain ⟨v0, vs0, d0, ds0, p0, q0, hargs, rfl, rfl, h0, r0⟩ := trodAll_cons hA
  obtain ⟨v1, vs1, d1, ds1, p1, q1, rfl, rfl, rfl, h1, r1⟩ := trodAll_cons r0
  obtain ⟨v2, vs2, d2, ds2, p2, q2, rfl, rfl, rfl, h2, r2⟩ := trodAll_cons r1
  obtain ⟨rfl, rfl, rfl⟩ := trodAll_nil r2
  obtain rfl : args = #[v0, v1, v2] := by cases args; simp_all
  obtain ⟨rfl, rfl⟩ := trodVars_none hV
  obtain ⟨a0, rfl, rfl, rfl, w0⟩ := open_string Try.underlying9 (hval 0 9 v0 rfl rfl) h0
  obtain ⟨a1, rfl, rfl, rfl, w1⟩ := open_string Try.underlying9 (hval 1 9 v1 rfl rfl) h1
  obtain ⟨a2, rfl, rfl, rfl, w2⟩ := open_int Try.underlying3 (hval 2 3 v2 rfl rfl) h2
  clear hA0 hval0
  simp only [List.append_nil] at hW'
  refine (walk a0 a1 a2 w0 w1 w2 W).mono fun e W' ⟨he, hg⟩ => ?_
  subst he
  exact ⟨_, rfl, post_of_same (pa := []) (pv := []) hW' (fun _ _ _ => (trodAll_cons_mk (shut_bool Try.underlying4 _) trodAll_mk0)) (fun sp _ => (trodAll_cons_mk (shut_string Try.underlying9 w0) (trodAll_cons_mk (shut_string Try.underlying9 w1) (trodAll_cons_mk (shut_int Try.underlying3 w2) trodAll_mk0)))) (fun _ _ => rfl) rfl
    (hg.frame _) hg.2.1 (ok_one (by kernel_rfl) rfl (okWide_bool_mk Try.underlying4 _))⟩

theorem over : Rows.fnRepeatShiftFreeRow.holds Try.pinned (OpenSpec.ofChange Rows.fnRepeatShiftFreeSpec) :=
  OpenClaim.holds_of_wide 5 Try.f5 rfl rfl rfl rfl rfl rfl rfl ⟨rfl, rfl, rfl, rfl, rfl⟩ rfl rfl rfl rfl rfl (by kernel_rfl) Try.func5 (by kernel_rfl)
    (of_decide_eq_true (by kernel_rfl)) (by unfold Func.isWrapper; first | (rw [if_pos (by decide +kernel)]; kernel_rfl) | (rw [if_neg (by decide +kernel)]; exact ⟨rfl, rfl⟩))
    (fun os started H enc _ => lifted os started H enc)

/-- ████ THE STATEMENT ████ -/
theorem proved : Rows.FnRepeatShiftFreeSaid :=
  over
#print axioms proved
end Go.Proofs.Qxb6002791a.fnRepeatShiftFree
