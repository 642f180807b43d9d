/-
  'Rows.FnRepeatCountPrefixClosedSaid', proved. The frame: the guide's template as proof-skeleton.mjs wrote it for this function; the walk is typed by hand.
-/
import Derived.Test.Qxb6002791aRows
import Derived.WalkKit
import Derived.ProofKit
import Derived.OpenShut
import Derived.ShutString
import Derived.Test.Qxb6002791aWalkB
import Derived.Test.Qxb6002791aPlain2
namespace Go.Proofs.Qxb6002791a.fnRepeatCountPrefixClosed
open Go.ChangeShapes Go.WideShapes Go.ChangeAt Go.RowKit
open Go.ChangeMaps (open_string shut_string)
set_option linter.unusedVariables false      -- a walk need not use every 'w<i>' (that an integer argument fits its kind)

open Plain
theorem own : ownKnob Try.prog.godebug = none := by kernel_rfl

/-! ### the callees -/
theorem bytes_yes (a0 a1 : ByteArray) (h : a0.size + a1.size ≤ 1048576) (w : World) :
    Calls Try.prog 9 #[.string a0, .string a1] w fun e w' => e = .returned (.bool true) ∧ w' = w := by
  go_enter Try.func9, Try.ntmps9
  go_wp2
  go_ret
  exact ⟨rfl, rfl⟩
theorem bytes_no (a0 a1 : ByteArray) (h : ¬ a0.size + a1.size ≤ 1048576) (w0 : a0.size ≤ maxLen) (w1 : a1.size ≤ maxLen) (w : World) :
    Calls Try.prog 9 #[.string a0, .string a1] w fun e w' => e = .returned (.bool false) ∧ w' = w := by
  unfold maxLen at w0 w1
  by_cases h0 : a0.size ≤ 1048576
  · by_cases h1 : a1.size ≤ 1048576
    · go_enter Try.func9, Try.ntmps9
      go_wp2
      go_ret
      exact ⟨rfl, rfl⟩
    · go_enter Try.func9, Try.ntmps9
      go_wp2
      go_ret
      exact ⟨rfl, rfl⟩
  · go_enter Try.func9, Try.ntmps9
    go_wp2
    go_ret
    exact ⟨rfl, rfl⟩
theorem zz_any (t : ByteArray) (n : Int) (b : Bool) (hr : rc t = (n, b)) (ht : t.size ≤ 140737488355328) (w : World) :
    Calls Try.prog 7 #[.string t] w fun e w' => e = .returned (.tuple #[.int .i64 n, .bool b]) ∧ Grown w w' := by
  have hc := rc_any t w ht
  rw [hr] at hc
  clear hr
  go_enter Try.func7, Try.ntmps7
  go_wp2_with (go_at_call 12; refine hc.mono ?_; rintro e w' ⟨rfl, hg⟩)
  go_ret2
  exact ⟨rfl, by assumption⟩

/-! ### STEP 1: THE WALK: the Go text returns true. 'Grown w w'': the world has at most new blocks (Derived/RowKit3.lean). Part the cases AHEAD of 'go_enter' where a test parts the walk; take each callee by a contract of your own. -/
set_option maxHeartbeats 1000000 in
theorem walk (a0 : ByteArray) (a1 : ByteArray) (w0 : a0.size ≤ maxLen) (w1 : a1.size ≤ maxLen) (w : World) :
    Calls Try.prog 4 #[.string a0, .string a1] w fun e w' => e = .returned (.bool true) ∧ Grown w w' := by
  by_cases hs : a0.size + a1.size ≤ 1048576
  · have h0 : a0.size ≤ 1048576 := by omega
    have h1 : a1.size ≤ 1048576 := by omega
    obtain ⟨n, b, hr⟩ : ∃ n b, rc a0 = (n, b) := ⟨_, _, rfl⟩
    have hz := zz_any a0 n b hr (by omega)
    by_cases hn : n = -1
    · have hb : b = false := by have := rc_none (t := a0) (by rw [hr]; exact hn); rw [hr] at this; exact this
      subst hn hb
      clear hr
      go_enter Try.func4, Try.ntmps4
      go_wp2_with (first
        | (go_at_call 9; refine (bytes_yes a0 a1 hs _).mono ?_; rintro e w' ⟨rfl, rfl⟩)
        | (go_at_call 7; refine (hz _).mono ?_; rintro e w' ⟨rfl, hg⟩))
      go_ret
      exact ⟨rfl, by assumption⟩
    · obtain ⟨e, he, h2, hb⟩ := rc_found (t := a0) (by rw [hr]; exact hn)
      have hr2 := rc_append (t := a0) a1 (by rw [hr]; exact hn)
      rw [hr] at hr2 he
      simp only at he
      have hz2 := zz_any (a0 ++ a1) n b hr2 (by rw [ByteArray.size_append]; omega)
      have hlt : e < a0.size := lt_of_bat (by omega)
      have hb2 : a0[e].toNat = 125 := by rw [← bat_in hlt]; exact hb
      subst he
      clear hr hr2 hb hn
      go_enter Try.func4, Try.ntmps4
      go_wp2_with fail
      go_at_call 9
      refine (bytes_yes a0 a1 hs _).mono ?_
      rintro e w' ⟨rfl, rfl⟩
      go_wp2_with fail
      go_at_call 7
      refine (hz _).mono ?_
      rintro e w1 ⟨rfl, hg⟩
      go_wp2_with fail
      go_at_call 7
      refine (hz2 _).mono ?_
      rintro e w2 ⟨rfl, hg2⟩
      go_wp2
      go_ret
      exact ⟨rfl, grown_trans hg hg2⟩
  · go_enter Try.func4, Try.ntmps4
    go_wp2_with (go_at_call 9; refine (bytes_no a0 a1 hs w0 w1 _).mono ?_; rintro e w' ⟨rfl, rfl⟩)
    go_ret
    exact ⟨rfl, Grown.refl _⟩

/-! ### THE ROW's STEP: WRITTEN OUT: LEAVE IT -/
set_option maxRecDepth 100000 in
theorem lifted (os : Os) (started : os.Started) (H : Type) (enc : TypeId × Value → H) :
    ReturnsInHanded {} Try.checked os 4 .any (Rows.fnRepeatCountPrefixClosedSpec.pre6 enc Try.prog Try.f4 Rows.fnRepeatCountPrefixClosedRow.domain false) (Rows.fnRepeatCountPrefixClosedSpec.post enc Try.prog Try.f4 false true false false) := by
  refine returnsInHanded_of_change (C := Try.checked) own started (by kernel_rfl) Try.func4
    (ChangeSpec.witness6 (enc := enc) (C := Try.checked) false ⟨#[], #[.string ByteArray.empty, .string ByteArray.empty], []⟩ 8 (by kernel_rfl) (by kernel_rfl) (by kernel_rfl) (by kernel_rfl)) ?_
  intro W base args ds gs before hval0 hW hcnd _
  have hval : ∀ (j : Nat) t v, Try.f4.params[j]? = some t → args[j]? = some v → Value.okWide Try.prog W .any base t v := hval0
  have hW' := hW
  obtain ⟨p, q, hA0, hV, rfl, hfz, hnd⟩ := hW
  have hA : DataW.TrodAll enc Try.prog W 0 (fun _ => true) true Try.f4.params.toList args.toList ds p := hA0
  rw [Try.params4] at hA hval
  obtain ⟨v0, vs0, d0, ds0, p0, q0, hargs, rfl, rfl, h0, r0⟩ := trodAll_cons hA
  obtain ⟨v1, vs1, d1, ds1, p1, q1, rfl, rfl, rfl, h1, r1⟩ := trodAll_cons r0
  obtain ⟨rfl, rfl, rfl⟩ := trodAll_nil r1
  obtain rfl : args = #[v0, v1] := by cases args; simp_all
  obtain ⟨rfl, rfl⟩ := trodVars_none hV
  obtain ⟨a0, rfl, rfl, rfl, w0⟩ := open_string Try.underlying9 (hval 0 9 v0 rfl rfl) h0
  obtain ⟨a1, rfl, rfl, rfl, w1⟩ := open_string Try.underlying9 (hval 1 9 v1 rfl rfl) h1
  clear hA0 hval0
  simp only [List.append_nil] at hW'
  refine (walk a0 a1 w0 w1 W).mono fun e W' ⟨he, hg⟩ => ?_
  subst he
  exact ⟨_, rfl, post_of_same (pa := []) (pv := []) hW' (fun _ _ _ => (trodAll_cons_mk (shut_bool Try.underlying4 _) trodAll_mk0)) (fun sp _ => (trodAll_cons_mk (shut_string Try.underlying9 w0) (trodAll_cons_mk (shut_string Try.underlying9 w1) trodAll_mk0))) (fun _ _ => rfl) rfl
    (hg.frame _) hg.2.1 (ok_one (by kernel_rfl) rfl (okWide_bool_mk Try.underlying4 _))⟩

theorem over : Rows.fnRepeatCountPrefixClosedRow.holds Try.pinned (OpenSpec.ofChange Rows.fnRepeatCountPrefixClosedSpec) :=
  OpenClaim.holds_of_wide 4 Try.f4 rfl rfl rfl rfl rfl rfl rfl ⟨rfl, rfl, rfl, rfl, rfl⟩ rfl rfl rfl rfl rfl (by kernel_rfl) Try.func4 (by kernel_rfl)
    (of_decide_eq_true (by kernel_rfl)) (by unfold Func.isWrapper; first | (rw [if_pos (by decide +kernel)]; kernel_rfl) | (rw [if_neg (by decide +kernel)]; exact ⟨rfl, rfl⟩))
    (fun os started H enc _ => lifted os started H enc)

/-- ████ THE STATEMENT ████ -/
theorem proved : Rows.FnRepeatCountPrefixClosedSaid :=
  over
#print axioms proved
end Go.Proofs.Qxb6002791a.fnRepeatCountPrefixClosed
