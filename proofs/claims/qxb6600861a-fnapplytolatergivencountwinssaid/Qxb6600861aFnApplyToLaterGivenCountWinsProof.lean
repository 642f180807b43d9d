/-
  'Rows.FnApplyToLaterGivenCountWinsSaid', proved. The frame: after the guide's template, typed by hand for three arrays by value; the walk: Qxb6600861aWins.lean.
-/
import Derived.Test.Qxb6600861aRows
import Derived.Test.Qxb6600861aWins
import Derived.WalkKit
import Derived.ProofKit
import Derived.OpenShut
import Derived.ShutString
import Derived.RowKit3
import Derived.Laws.IdiomArrays
namespace Go.Proofs.Qxb6600861a.fnApplyToLaterGivenCountWins
open Go.ChangeShapes Go.WideShapes Go.ChangeAt Go.RowKit
set_option linter.unusedVariables false

theorem bit0_any (m : Int) (h0 : 0 ≤ m) (h1 : m ≤ 255) (w : World) : Calls Try.prog 15 #[.int .u8 m, .int .u8 0] w fun e w' => e = .returned (.bool (bits BinOp.and IntKind.u8 m 1 == 1)) ∧ w = w' := by
  go_enter Try.func15, Try.ntmps15
  go_wp2
  go_ret
  exact ⟨rfl, rfl⟩
theorem bit1_any (m : Int) (h0 : 0 ≤ m) (h1 : m ≤ 255) (w : World) : Calls Try.prog 15 #[.int .u8 m, .int .u8 1] w fun e w' => e = .returned (.bool (bits BinOp.and IntKind.u8 (m / 2) 1 == 1)) ∧ w = w' := by
  go_enter Try.func15, Try.ntmps15
  go_wp2
  go_ret
  exact ⟨rfl, rfl⟩
theorem bit2_any (m : Int) (h0 : 0 ≤ m) (h1 : m ≤ 255) (w : World) : Calls Try.prog 15 #[.int .u8 m, .int .u8 2] w fun e w' => e = .returned (.bool (bits BinOp.and IntKind.u8 (m / 4) 1 == 1)) ∧ w = w' := by
  go_enter Try.func15, Try.ntmps15
  go_wp2
  go_ret
  exact ⟨rfl, rfl⟩
theorem bit3_any (m : Int) (h0 : 0 ≤ m) (h1 : m ≤ 255) (w : World) : Calls Try.prog 15 #[.int .u8 m, .int .u8 3] w fun e w' => e = .returned (.bool (bits BinOp.and IntKind.u8 (m / 8) 1 == 1)) ∧ w = w' := by
  go_enter Try.func15, Try.ntmps15
  go_wp2
  go_ret
  exact ⟨rfl, rfl⟩

theorem walk (m n : Int) (u0 u1 u2 u3 v0 v1 v2 v3 t0 t1 t2 t3 : Int) (hm0 : 0 ≤ m) (hm1 : m ≤ 255) (hn0 : 0 ≤ n) (hn1 : n ≤ 255) (w : World) :
    Calls Try.prog 4 #[.int .u8 m, .int .u8 n, .agg #[.int .i64 u0, .int .i64 u1, .int .i64 u2, .int .i64 u3], .agg #[.int .i64 v0, .int .i64 v1, .int .i64 v2, .int .i64 v3], .agg #[.int .i64 t0, .int .i64 t1, .int .i64 t2, .int .i64 t3]] w fun e w' => e = .returned (.bool true) ∧ Grown w w' :=
  wins_any m n _ _ _ _ _ _ _ _ u0 u1 u2 u3 v0 v1 v2 v3 t0 t1 t2 t3 w (bit0_any m hm0 hm1) (bit1_any m hm0 hm1) (bit2_any m hm0 hm1) (bit3_any m hm0 hm1) (bit0_any n hn0 hn1) (bit1_any n hn0 hn1) (bit2_any n hn0 hn1) (bit3_any n hn0 hn1)

theorem own : ownKnob Try.prog.godebug = none := by kernel_rfl
theorem cells33 : Try.prog.cellsOf 33 = 4 := by kernel_rfl
theorem cells2 : Try.prog.cellsOf 2 = 1 := by kernel_rfl

theorem list4 {α : Type} (l : List α) (h : (⟨l⟩ : Array α).size = 4) : ∃ a b c d, l = [a, b, c, d] := by
  match l, h with
  | [a, b, c, d], _ => exact ⟨a, b, c, d, rfl⟩

/-- An array of four counts by value, opened. -/
theorem open_arr {H : Type} {enc : TypeId × Value → H} {W : World} {base : Nat} {v : Value} {d : DataW H} {p : List MemPlace} (hv : Value.okWide Try.prog W .any base 33 v) (h : DataW.Trod enc Try.prog W 0 (fun _ => true) true 33 v d p) :
    ∃ x0 x1 x2 x3 : Int, v = .agg #[.int .i64 x0, .int .i64 x1, .int .i64 x2, .int .i64 x3] ∧ d = .agg [.lit (.int .i64 x0), .lit (.int .i64 x1), .lit (.int .i64 x2), .lit (.int .i64 x3)] ∧ p = []
      ∧ (Lit.int .i64 x0).wf = true ∧ (Lit.int .i64 x1).wf = true ∧ (Lit.int .i64 x2).wf = true ∧ (Lit.int .i64 x3).wf = true := by
  obtain ⟨cs, rfl, hsz, _⟩ : ∃ cs, v = .agg cs ∧ cs.size = Try.prog.cellsOf 33 ∧ Row.okWide Try.prog W .any base 33 cs := by
    simpa [Value.okWide, Try.underlying33] using hv
  rw [cells33] at hsz
  obtain ⟨l⟩ := cs
  obtain ⟨c0, c1, c2, c3, rfl⟩ := list4 l hsz
  obtain ⟨fuel, hf⟩ := h
  obtain ⟨y0, y1, y2, y3, m, hx, hy0, hy1, hy2, hy3⟩ := trod_array4 Try.underlying33 cells2 hf
  obtain ⟨x0, e0, rfl, w0⟩ := DataW.trod_int Try.underlying2 hy0
  obtain ⟨x1, e1, rfl, w1⟩ := DataW.trod_int Try.underlying2 hy1
  obtain ⟨x2, e2, rfl, w2⟩ := DataW.trod_int Try.underlying2 hy2
  obtain ⟨x3, e3, rfl, w3⟩ := DataW.trod_int Try.underlying2 hy3
  simp at e0 e1 e2 e3
  subst e0 e1 e2 e3
  simp only [Prod.mk.injEq] at hx
  obtain ⟨rfl, rfl⟩ := hx
  exact ⟨x0, x1, x2, x3, rfl, rfl, rfl, w0, w1, w2, w3⟩

/-- The same, shut. -/
theorem shut_arr {H : Type} {enc : TypeId × Value → H} {W : World} {sp : Nat → Bool} {x0 x1 x2 x3 : Int} (w0 : (Lit.int .i64 x0).wf = true) (w1 : (Lit.int .i64 x1).wf = true) (w2 : (Lit.int .i64 x2).wf = true) (w3 : (Lit.int .i64 x3).wf = true) :
    DataW.Trod enc Try.prog W 0 sp true 33 (.agg #[.int .i64 x0, .int .i64 x1, .int .i64 x2, .int .i64 x3]) (DataW.agg [.lit (.int .i64 x0), .lit (.int .i64 x1), .lit (.int .i64 x2), .lit (.int .i64 x3)]) [] :=
  ⟨2, by simp [DataW.trod, Value.cells, Try.underlying33, Try.underlying2, cells33, cells2, w0, w1, w2, w3, show List.range 4 = [0, 1, 2, 3] from rfl]⟩

set_option maxHeartbeats 400000 in
set_option maxRecDepth 100000 in
theorem lifted (os : Os) (started : os.Started) (H : Type) (enc : TypeId × Value → H) :
    ReturnsInHanded {} Try.checked os 4 .any (Rows.fnApplyToLaterGivenCountWinsSpec.pre6 enc Try.prog Try.f4 Rows.fnApplyToLaterGivenCountWinsRow.domain false) (Rows.fnApplyToLaterGivenCountWinsSpec.post enc Try.prog Try.f4 false true false false) := by
  refine returnsInHanded_of_change (C := Try.checked) own started (by kernel_rfl) Try.func4
    (ChangeSpec.witness6 (enc := enc) (C := Try.checked) false ⟨#[], #[.int .u8 0, .int .u8 0, .agg #[.int .i64 0, .int .i64 0, .int .i64 0, .int .i64 0], .agg #[.int .i64 0, .int .i64 0, .int .i64 0, .int .i64 0], .agg #[.int .i64 0, .int .i64 0, .int .i64 0, .int .i64 0]], []⟩ 8 (by kernel_rfl) (by kernel_rfl) (by kernel_rfl) (by kernel_rfl)) ?_
  intro W base args ds gs before hval0 hW hcnd _
  have hval : ∀ (j : Nat) t v, Try.f4.params[j]? = some t → args[j]? = some v → Value.okWide Try.prog W .any base t v := hval0
  have hW' := hW
  obtain ⟨p, q, hA0, hV, rfl, hfz, hnd⟩ := hW
  have hA : DataW.TrodAll enc Try.prog W 0 (fun _ => true) true Try.f4.params.toList args.toList ds p := hA0
  rw [Try.params4] at hA hval
  obtain ⟨v0, vs0, d0, ds0, p0, q0, hargs, rfl, rfl, h0, r0⟩ := trodAll_cons hA
  obtain ⟨v1, vs1, d1, ds1, p1, q1, rfl, rfl, rfl, h1, r1⟩ := trodAll_cons r0
  obtain ⟨v2, vs2, d2, ds2, p2, q2, rfl, rfl, rfl, h2, r2⟩ := trodAll_cons r1
  obtain ⟨v3, vs3, d3, ds3, p3, q3, rfl, rfl, rfl, h3, r3⟩ := trodAll_cons r2
  obtain ⟨v4, vs4, d4, ds4, p4, q4, rfl, rfl, rfl, h4, r4⟩ := trodAll_cons r3
  obtain ⟨rfl, rfl, rfl⟩ := trodAll_nil r4
  obtain rfl : args = #[v0, v1, v2, v3, v4] := by cases args; simp_all
  obtain ⟨rfl, rfl⟩ := trodVars_none hV
  obtain ⟨m, rfl, rfl, rfl, wm⟩ := open_int Try.underlying5 (hval 0 5 v0 rfl rfl) h0
  obtain ⟨n, rfl, rfl, rfl, wn⟩ := open_int Try.underlying5 (hval 1 5 v1 rfl rfl) h1
  obtain ⟨u0, u1, u2, u3, rfl, rfl, rfl, wu0, wu1, wu2, wu3⟩ := open_arr (hval 2 33 v2 rfl rfl) h2
  obtain ⟨x0, x1, x2, x3, rfl, rfl, rfl, wx0, wx1, wx2, wx3⟩ := open_arr (hval 3 33 v3 rfl rfl) h3
  obtain ⟨t0, t1, t2, t3, rfl, rfl, rfl, wt0, wt1, wt2, wt3⟩ := open_arr (hval 4 33 v4 rfl rfl) h4
  clear hA0 hval0
  simp only [List.append_nil] at hW'
  have bm := bounds_u8 wm
  have bn := bounds_u8 wn
  refine (walk m n u0 u1 u2 u3 x0 x1 x2 x3 t0 t1 t2 t3 bm.1 bm.2 bn.1 bn.2 W).mono fun e W' ⟨he, hg⟩ => ?_
  subst he
  exact ⟨_, rfl, post_of_same (pa := []) (pv := []) hW' (fun _ _ _ => (trodAll_cons_mk (shut_bool Try.underlying4 _) trodAll_mk0)) (fun sp _ => (trodAll_cons_mk (shut_int Try.underlying5 wm) (trodAll_cons_mk (shut_int Try.underlying5 wn) (trodAll_cons_mk (shut_arr wu0 wu1 wu2 wu3) (trodAll_cons_mk (shut_arr wx0 wx1 wx2 wx3) (trodAll_cons_mk (shut_arr wt0 wt1 wt2 wt3) trodAll_mk0)))))) (fun _ _ => rfl) rfl
    (hg.frame _) hg.2.1 (ok_one (by kernel_rfl) rfl (okWide_bool_mk Try.underlying4 _))⟩

theorem over : Rows.fnApplyToLaterGivenCountWinsRow.holds Try.pinned (OpenSpec.ofChange Rows.fnApplyToLaterGivenCountWinsSpec) :=
  OpenClaim.holds_of_wide 4 Try.f4 rfl rfl rfl rfl rfl rfl rfl ⟨rfl, rfl, rfl, rfl, rfl⟩ rfl rfl rfl rfl rfl (by kernel_rfl) Try.func4 (by kernel_rfl)
    (of_decide_eq_true (by kernel_rfl)) (by unfold Func.isWrapper; first | (rw [if_pos (by decide +kernel)]; kernel_rfl) | (rw [if_neg (by decide +kernel)]; exact ⟨rfl, rfl⟩))
    (fun os started H enc _ => lifted os started H enc)

/-- THE STATEMENT -/
theorem proved : Rows.FnApplyToLaterGivenCountWinsSaid :=
  over
#print axioms proved
end Go.Proofs.Qxb6600861a.fnApplyToLaterGivenCountWins
