/-
  A LAW ON REGIONS THAT DRAW THEIR ORDER, beside the library's 'wpAnyH_take' (Derived/OrdersHeld.lean): a CALL that in every world meeting S returns one known value and leaves the world as it is may be taken first, too.
-/
import Derived.OrdersHeld
namespace Go.Proofs.Qxb6600861a

section
variable {P : Program} {ops : Array Oper} {Q : Exit → Act → World → Prop} {md : Region.Mode} {S : World → Prop}

/-- In state 'a', in every world that meets 'S', the call 'o' is of one function at known arguments, returns 'v' and changes nothing. -/
def QuietCall (P : Program) (ops : Array Oper) (S : World → Prop) (o : Oper) (v : Value) (a : Act) : Prop :=
  Region.wanted o (yielded ops a.tmps) = true ∧ ∃ f args, ∀ w, S w → (execOp a.eval o).run P w = .ok (.enter f args) w ∧ Calls P f args w fun e w' => e = .returned v ∧ w = w'

theorem QuietCall.wpOp {i : Nat} {o : Oper} {v : Value} {a : Act} (hi : ops[i]? = some o) (hy : QuietCall P ops S o v a)
    {K : Act → World → Prop} {w : World} (hS : S w) (h : K (a.put o.dst v) w) : wpOp P ops Q i K a w := by
  obtain ⟨hw, f, args, hrun⟩ := hy
  obtain ⟨hr, hc⟩ := hrun w hS
  unfold Go.wpOp
  simp only [hi, hw, if_true]
  refine .inl ?_
  unfold Oper.wp
  rw [hr, Oper.upon_enter]
  refine hc.mono ?_
  rintro e w' ⟨rfl, rfl⟩
  exact h

theorem QuietCall.same {o : Oper} {v : Value} {a a' : Act} (hy : QuietCall P ops S o v a) (he : execOp a'.eval o = execOp a.eval o)
    (hw : Region.wanted o (yielded ops a'.tmps) = Region.wanted o (yielded ops a.tmps)) : QuietCall P ops S o v a' := by
  obtain ⟨h1, f, args, h2⟩ := hy
  exact ⟨hw.trans h1, f, args, fun w hS => by rw [he]; exact h2 w hS⟩

/-- Another operation, apart from the call: whether the call's value lies there already makes no difference to it, and it makes none to the call. -/
theorem wpOp_behindCall {j : Nat} {oi oj : Oper} {v : Value} (hj : ops[j]? = some oj) (hap : oi.apart ops oj = true)
    (hsi : ∀ cs b, oi.op ≠ .select cs b) (hsj : ∀ cs b, oj.op ≠ .select cs b)
    (hQ : ∀ c a w, Q (.panic c) (a.put oi.dst v) w → Q (.panic c) a w) {K : Act → World → Prop} {a : Act} {w : World}
    (hy : QuietCall P ops S oi v a) (h : wpOp P ops Q j K (a.put oi.dst v) w) :
    wpOp P ops Q j (fun a' w' => QuietCall P ops S oi v a' ∧ K (a'.put oi.dst v) w') a w := by
  obtain ⟨h1, h2, h3⟩ := Oper.apart_spec hap
  have stay : ∀ (a : Act), QuietCall P ops S oi v a → ∀ u, QuietCall P ops S oi v (a.put oj.dst u) := fun a hy u =>
    hy.same (execOp_put oi hsi a oj.dst u h3) (wanted_put oi a oj.dst u h3)
  have stayD : ∀ d, QuietCall P ops S oi v { a with defers := d :: a.defers } := fun d => hy.same rfl rfl
  unfold Go.wpOp at h ⊢
  simp only [hj] at h ⊢
  rw [wanted_put oj a oi.dst v h1] at h
  by_cases hw : Region.wanted oj (yielded ops a.tmps) = true
  · rw [if_pos hw] at h ⊢
    rcases h with h | ⟨hasks, hlets⟩
    · refine .inl ?_
      unfold Oper.wp at h ⊢
      rw [execOp_put oj hsj a oi.dst v h1] at h
      generalize (execOp a.eval oj).run P w = r at h ⊢
      match r, h with
      | .ok (.value u) _, h => exact ⟨stay a hy u, by rw [← Act.put_comm a v u h2]; exact h⟩
      | .ok .skip _, h => exact ⟨stay a hy _, by rw [← Act.put_comm a v undef h2]; exact h⟩
      | .ok (.defer d) _, h => exact ⟨stay _ (stayD d) _, by rw [← Act.put_comm _ v undef h2, ← Act.put_defers]; exact h⟩
      | .ok (.enter f args) _, h =>
        refine Calls.mono h fun e w'' he => ?_
        match e, he with
        | .returned u, he => exact ⟨stay a hy u, by rw [← Act.put_comm a v u h2]; exact he⟩
        | .panicked c, he => exact hQ _ _ _ he
        | .outgrown, he => exact he
      | .ok (.row row args) _, h => exact Rows.mono h fun u w'' he => ⟨stay a hy u, by rw [← Act.put_comm a v u h2]; exact he⟩
      | .halt (.panic u) _, h => exact hQ _ _ _ h
    · exact .inr ⟨by unfold Oper.asks at *; rw [execOp_put oj hsj a oi.dst v h1] at hasks; exact hasks, hlets⟩
  · rw [if_neg hw] at h ⊢
    exact ⟨stay a hy _, by rw [← Act.put_comm a v undef h2]; exact h⟩

theorem firstCall {i : Nat} {oi : Oper} {v : Value} (hi : ops[i]? = some oi) (hsel : ∀ (j : Nat) (o : Oper) cs b, ops[j]? = some o → o.op ≠ .select cs b)
    (hQ : ∀ c a w, Q (.panic c) (a.put oi.dst v) w → Q (.panic c) a w) :
    ∀ (fuel : Nat) (listed : Array Bool) (a : Act) (w : World),
      (∀ j oj, ops[j]? = some oj → j ≠ i → listed.getD j true = false → (∀ e ∈ oj.after, Region.binds md e = true → e.on ≠ i) → oi.apart ops oj = true) →
      i ∈ Region.ready md ops listed → QuietCall P ops S oi v a → S w →
      wpAnyH P md ops Q S fuel (listed.setIfInBounds i true) (a.put oi.dst v) w → wpAnyH P md ops Q S (fuel + 1) listed a w
  | 0, listed, a, w => fun _ hr hy hS H => by
    refine ⟨fun h => (by rw [h] at hr; cases hr), fun j hj => ?_⟩
    by_cases hji : j = i
    · subst hji; exact hy.wpOp hi hS ⟨hS, H⟩
    · have := ready_mono hj hji
      rw [H.1] at this
      cases this
  | fuel + 1, listed, a, w => fun hfree hr hy hS H => by
    refine ⟨fun h => (by rw [h] at hr; cases hr), fun j hj => ?_⟩
    by_cases hji : j = i
    · subst hji; exact hy.wpOp hi hS ⟨hS, H⟩
    · have h1 := H.2 j (ready_mono hj hji)
      obtain ⟨hjun, oj, hoj, hall⟩ := mem_ready.1 hj
      have hnot : ∀ e ∈ oj.after, Region.binds md e = true → e.on ≠ i := fun e he hb heq => by
        have h1 := hall e he hb
        have h0 := (mem_ready.1 hr).1
        rw [heq] at h1
        rcases Nat.lt_or_ge i listed.size with h' | h'
        · simp [h'] at h0 h1; rw [h0] at h1; cases h1
        · simp [Array.getElem?_eq_none h'] at h1
      have h2 := wpOp_behindCall hoj (hfree j oj hoj hji hjun hnot) (fun cs b => hsel i oi cs b hi) (fun cs b => hsel j oj cs b hoj) hQ hy h1
      have hfree' : ∀ k ok, ops[k]? = some ok → k ≠ i → (listed.setIfInBounds j true).getD k true = false →
          (∀ e ∈ ok.after, Region.binds md e = true → e.on ≠ i) → oi.apart ops ok = true := fun k ok hk hki hun hno => by
        refine hfree k ok hk hki ?_ hno
        by_cases hjk : j = k
        · subst hjk; exact hjun
        · rw [getD_set_ne true hjk] at hun; exact hun
      refine wpOp_mono (fun a' w' h3 => ⟨h3.2.1, firstCall hi hsel hQ fuel (listed.setIfInBounds j true) a' w' hfree' (ready_mono hr (Ne.symm hji)) h3.1 h3.2.1 ?_⟩) h2
      rw [Array.setIfInBounds_comm _ _ hji]
      exact h3.2.2

/-- Take the call number 'i' first. -/
theorem takeCall {i : Nat} {oi : Oper} {v : Value} {fuel : Nat} {listed : Array Bool} {a : Act} {w : World} (hi : ops[i]? = some oi)
    (hs : Region.noSelect ops = true) (hf : Region.free md ops listed i = true) (hr : (Region.ready md ops listed).contains i = true)
    (hQ : ∀ c a w, Q (.panic c) (a.put oi.dst v) w → Q (.panic c) a w) (hy : QuietCall P ops S oi v a) (hS : S w)
    (h : wpAnyH P md ops Q S fuel (listed.setIfInBounds i true) (a.put oi.dst v) w) : wpAnyH P md ops Q S (fuel + 1) listed a w :=
  firstCall hi (Region.noSelect_spec hs) hQ fuel listed a w (Region.free_spec hi hf) (by simpa using hr) hy hS h

end
end Go.Proofs.Qxb6600861a
