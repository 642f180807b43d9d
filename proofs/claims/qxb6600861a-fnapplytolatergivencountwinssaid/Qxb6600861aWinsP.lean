import Derived.Test.Qxb6600861aKeepA



namespace Go.Proofs.Qxb6600861a
open Go.RowKit

/-- A Usage lies in block U, its pointers' counts in new cells; what was in w0 is as it was. -/
structure Laid (w0 : World) (h : Nat → Bool) (v : Nat → Int) (f : Nat → Option Addr) (U : Nat) (x : World) : Prop where
  lt : U < x.heap.size
  use : ∀ j, j < 4 → x.cell? ⟨U, j, none⟩ = some (.pointer (f j))
  src : ∀ j, j < 4 → GivenAt w0 (h j) (v j) (f j) x
  size : w0.heap.size ≤ x.heap.size
  old : ∀ b o, b < w0.heap.size → x.cell? ⟨b, o, none⟩ = w0.cell? ⟨b, o, none⟩
  grown : Grown w0 x

/-- Four counts in a row of a block. -/
structure Row4 (x : World) (b : Nat) (a0 a1 a2 a3 : Value) : Prop where
  lt : b < x.heap.size
  c0 : x.cell? ⟨b, 0, none⟩ = some a0
  c1 : x.cell? ⟨b, 1, none⟩ = some a1
  c2 : x.cell? ⟨b, 2, none⟩ = some a2
  c3 : x.cell? ⟨b, 3, none⟩ = some a3

theorem Row4.keep {x y : World} {b : Nat} {a0 a1 a2 a3 : Value} (r : Row4 x b a0 a1 a2 a3) (hs : x.heap.size ≤ y.heap.size) (h : ∀ b o, b < x.heap.size → y.cell? ⟨b, o, none⟩ = x.cell? ⟨b, o, none⟩) : Row4 y b a0 a1 a2 a3 :=
  ⟨Nat.lt_of_lt_of_le r.lt hs, (h b 0 r.lt).trans r.c0, (h b 1 r.lt).trans r.c1, (h b 2 r.lt).trans r.c2, (h b 3 r.lt).trans r.c3⟩

theorem Given.keeps {X w1 : World} {h : Nat → Bool} {v : Nat → Int} {f : Nat → Option Addr} (g : Given X h v f w1) : ∀ b o, b < X.heap.size → w1.cell? ⟨b, o, none⟩ = X.cell? ⟨b, o, none⟩ := fun b o h => g.below.cell (p := ⟨b, o, none⟩) h

theorem usage_a (X : World) (b : Nat) (h0 h1 h2 h3 : Bool) (v0 v1 v2 v3 : Int) (r : Row4 X b (.int .i64 v0) (.int .i64 v1) (.int .i64 v2) (.int .i64 v3)) :
    Calls Try.prog 11 #[.bool h0, .bool h1, .bool h2, .bool h3, .int .i64 v0, .int .i64 v1, .int .i64 v2, .int .i64 v3] X.drew fun e w1 => ∃ f, e = .returned (.agg #[.pointer (f 0), .pointer (f 1), .pointer (f 2), .pointer (f 3)]) ∧ Given X (seq4 h0 h1 h2 h3) (seq4 v0 v1 v2 v3) f w1
      ∧ w1.cell? ⟨b, 0, none⟩ = some (.int .i64 v0) ∧ w1.cell? ⟨b, 1, none⟩ = some (.int .i64 v1) ∧ w1.cell? ⟨b, 2, none⟩ = some (.int .i64 v2) ∧ w1.cell? ⟨b, 3, none⟩ = some (.int .i64 v3) ∧ b < w1.heap.size := by
  refine (usage_any h0 h1 h2 h3 v0 v1 v2 v3 X.drew).mono ?_
  rintro e w1 ⟨f, rfl, g⟩
  have g' : Given X (seq4 h0 h1 h2 h3) (seq4 v0 v1 v2 v3) f w1 := ⟨g.all, ⟨g.below.os, g.below.tape, g.below.output, g.below.size, g.below.block⟩, g.grown⟩
  have k := r.keep g'.below.size g'.keeps
  exact ⟨f, rfl, g', k.c0, k.c1, k.c2, k.c3, k.lt⟩

theorem usage_b (X : World) (b : Nat) (h0 h1 h2 h3 : Bool) (v0 v1 v2 v3 : Int) (r : Row4 X b (.int .i64 v0) (.int .i64 v1) (.int .i64 v2) (.int .i64 v3)) :
    Calls Try.prog 11 #[.bool h0, .bool h1, .bool h2, .bool h3, .int .i64 v0, .int .i64 v1, .int .i64 v2, .int .i64 v3] (X.alloc (.cells #[.pointer none, .pointer none, .pointer none, .pointer none] 24)).drew fun e w1 => ∃ f, e = .returned (.agg #[.pointer (f 0), .pointer (f 1), .pointer (f 2), .pointer (f 3)]) ∧ Given (X.alloc (.cells #[.pointer none, .pointer none, .pointer none, .pointer none] 24)) (seq4 h0 h1 h2 h3) (seq4 v0 v1 v2 v3) f w1
      ∧ w1.cell? ⟨b, 0, none⟩ = some (.int .i64 v0) ∧ w1.cell? ⟨b, 1, none⟩ = some (.int .i64 v1) ∧ w1.cell? ⟨b, 2, none⟩ = some (.int .i64 v2) ∧ w1.cell? ⟨b, 3, none⟩ = some (.int .i64 v3)
      ∧ w1.cell? ⟨X.heap.size, 0, none⟩ = some (.pointer none) ∧ w1.cell? ⟨X.heap.size, 1, none⟩ = some (.pointer none) ∧ w1.cell? ⟨X.heap.size, 2, none⟩ = some (.pointer none) ∧ w1.cell? ⟨X.heap.size, 3, none⟩ = some (.pointer none)
      ∧ w1.frozen? ⟨X.heap.size, 0, none⟩ = false ∧ w1.frozen? ⟨X.heap.size, 1, none⟩ = false ∧ w1.frozen? ⟨X.heap.size, 2, none⟩ = false ∧ w1.frozen? ⟨X.heap.size, 3, none⟩ = false ∧ b < w1.heap.size := by
  refine (usage_any h0 h1 h2 h3 v0 v1 v2 v3 (X.alloc (.cells #[.pointer none, .pointer none, .pointer none, .pointer none] 24)).drew).mono ?_
  rintro e w1 ⟨f, rfl, g⟩
  have g' : Given (X.alloc (.cells #[.pointer none, .pointer none, .pointer none, .pointer none] 24)) (seq4 h0 h1 h2 h3) (seq4 v0 v1 v2 v3) f w1 := ⟨g.all, ⟨g.below.os, g.below.tape, g.below.output, g.below.size, g.below.block⟩, g.grown⟩
  have r1 : Row4 (X.alloc (.cells #[.pointer none, .pointer none, .pointer none, .pointer none] 24)) b (.int .i64 v0) (.int .i64 v1) (.int .i64 v2) (.int .i64 v3) :=
    r.keep (by simp) fun c o hc => World.cell?_alloc_past _ _ _ hc
  have k := r1.keep g'.below.size g'.keeps
  have hsz : X.heap.size < (X.alloc (.cells #[.pointer none, .pointer none, .pointer none, .pointer none] 24)).heap.size := by simp
  have z : ∀ o, o < 4 → w1.cell? ⟨X.heap.size, o, none⟩ = some (.pointer none) := fun o ho => by
    rw [g'.keeps _ _ hsz, World.cell?_alloc_at _ _ _ _ rfl]
    match o, ho with
    | 0, _ => rfl
    | 1, _ => rfl
    | 2, _ => rfl
    | 3, _ => rfl
  have fz : ∀ o, w1.frozen? ⟨X.heap.size, o, none⟩ = false := fun o => by
    rw [g'.below.frozen (p := ⟨X.heap.size, o, none⟩) hsz, World.frozen?_alloc_at _ _ _ _ rfl]
  exact ⟨f, rfl, g', k.c0, k.c1, k.c2, k.c3, z 0 (by omega), z 1 (by omega), z 2 (by omega), z 3 (by omega), fz 0, fz 1, fz 2, fz 3, k.lt⟩

theorem far_set (x : World) (U b i j : Nat) (v : Value) (h : U ≠ b) : (x.setCell ⟨U, i, none⟩ v).cell? ⟨b, j, none⟩ = x.cell? ⟨b, j, none⟩ :=
  World.cell?_setCell_other _ _ _ _ (fun e => h (by injection e))

theorem laid_a {X w1 : World} {h : Nat → Bool} {v : Nat → Int} {f : Nat → Option Addr} (g : Given X h v f w1) :
    Laid X h v f w1.heap.size (w1.alloc (.cells #[.pointer (f 0), .pointer (f 1), .pointer (f 2), .pointer (f 3)] 24)) := by
  refine ⟨by simp, ?_, fun j hj => ?_, by have := g.below.size; simp; omega, fun b o hb => ?_, g.grown.alloc _ _⟩
  · exact all4 (by simp [go_sem]) (by simp [go_sem]) (by simp [go_sem]) (by simp [go_sem])
  · refine ⟨fun e => ?_, (g.all j hj).2⟩
    obtain ⟨b, h1, h2, h3, h4⟩ := (g.all j hj).1 e
    exact ⟨b, h1, h2, by simp; omega, by rw [World.cell?_alloc_past _ _ _ h3]; exact h4⟩
  · rw [World.cell?_alloc_past _ _ _ (Nat.lt_of_lt_of_le hb g.below.size)]; exact g.keeps b o hb

theorem laid_b {X w1 : World} {h : Nat → Bool} {v : Nat → Int} {f : Nat → Option Addr} {c : Array Value} {ty : TypeId} (g : Given (X.alloc (.cells c ty)) h v f w1)
    (z0 : w1.cell? ⟨X.heap.size, 0, none⟩ = some (.pointer none)) (z1 : w1.cell? ⟨X.heap.size, 1, none⟩ = some (.pointer none)) (z2 : w1.cell? ⟨X.heap.size, 2, none⟩ = some (.pointer none)) (z3 : w1.cell? ⟨X.heap.size, 3, none⟩ = some (.pointer none)) :
    Laid X h v f X.heap.size ((((w1.setCell ⟨X.heap.size, 0, none⟩ (.pointer (f 0))).setCell ⟨X.heap.size, 1, none⟩ (.pointer (f 1))).setCell ⟨X.heap.size, 2, none⟩ (.pointer (f 2))).setCell ⟨X.heap.size, 3, none⟩ (.pointer (f 3))) := by
  have hs : X.heap.size + 1 ≤ w1.heap.size := by have := g.below.size; simpa using this
  have far : ∀ b o, X.heap.size ≠ b → ((((w1.setCell ⟨X.heap.size, 0, none⟩ (.pointer (f 0))).setCell ⟨X.heap.size, 1, none⟩ (.pointer (f 1))).setCell ⟨X.heap.size, 2, none⟩ (.pointer (f 2))).setCell ⟨X.heap.size, 3, none⟩ (.pointer (f 3))).cell? ⟨b, o, none⟩ = w1.cell? ⟨b, o, none⟩ := fun b o hb => by
    rw [far_set _ _ _ _ _ _ hb, far_set _ _ _ _ _ _ hb, far_set _ _ _ _ _ _ hb, far_set _ _ _ _ _ _ hb]
  have ne : ∀ i j : Nat, i ≠ j → (⟨X.heap.size, i, none⟩ : Addr) ≠ ⟨X.heap.size, j, none⟩ := fun i j hij e => hij (by injection e)
  refine ⟨by simp only [World.size_setCell]; omega, all4 ?_ ?_ ?_ ?_, fun j hj => ?_, by simp only [World.size_setCell]; omega, fun b o hb => ?_, ?_⟩
  · rw [World.cell?_setCell_other _ _ _ _ (ne 3 0 (by omega)), World.cell?_setCell_other _ _ _ _ (ne 2 0 (by omega)), World.cell?_setCell_other _ _ _ _ (ne 1 0 (by omega)), World.cell?_setCell_same _ _ _ z0]
  · rw [World.cell?_setCell_other _ _ _ _ (ne 3 1 (by omega)), World.cell?_setCell_other _ _ _ _ (ne 2 1 (by omega))]
    exact World.cell?_setCell_same _ _ _ ((World.cell?_setCell_other _ _ _ _ (ne 0 1 (by omega))).trans z1)
  · rw [World.cell?_setCell_other _ _ _ _ (ne 3 2 (by omega))]
    exact World.cell?_setCell_same _ _ _ ((World.cell?_setCell_other _ _ _ _ (ne 1 2 (by omega))).trans ((World.cell?_setCell_other _ _ _ _ (ne 0 2 (by omega))).trans z2))
  · exact World.cell?_setCell_same _ _ _ ((World.cell?_setCell_other _ _ _ _ (ne 2 3 (by omega))).trans ((World.cell?_setCell_other _ _ _ _ (ne 1 3 (by omega))).trans ((World.cell?_setCell_other _ _ _ _ (ne 0 3 (by omega))).trans z3)))
  · refine ⟨fun e => ?_, (g.all j hj).2⟩
    obtain ⟨b, h1, h2, h3, h4⟩ := (g.all j hj).1 e
    have h2' : X.heap.size + 1 ≤ b := by simpa using h2
    exact ⟨b, h1, by omega, by simp only [World.size_setCell]; exact h3, by rw [far b 0 (by omega)]; exact h4⟩
  · rw [far b o (by omega), g.keeps b o (by simp; omega), World.cell?_alloc_past _ _ _ hb]
  · have g0 : Grown X w1 := grown_trans ((Grown.refl X).alloc _ _) g.grown
    exact (((g0.setCell (a := ⟨X.heap.size, 0, none⟩) (Nat.le_refl _) _).setCell (a := ⟨X.heap.size, 1, none⟩) (Nat.le_refl _) _).setCell (a := ⟨X.heap.size, 2, none⟩) (Nat.le_refl _) _).setCell (a := ⟨X.heap.size, 3, none⟩) (Nat.le_refl _) _

theorem GivenAt.later {w0 x y : World} {h : Bool} {v : Int} {p : Option Addr} (g : GivenAt w0 h v p x) (hs : x.heap.size ≤ y.heap.size) (hk : ∀ b o, b < x.heap.size → y.cell? ⟨b, o, none⟩ = x.cell? ⟨b, o, none⟩) : GivenAt w0 h v p y :=
  ⟨fun e => by obtain ⟨b, h1, h2, h3, h4⟩ := g.1 e; exact ⟨b, h1, h2, Nat.lt_of_lt_of_le h3 hs, (hk b 0 h3).trans h4⟩, g.2⟩

/-- ApplyTo on a total that lies in block T, in whatever world; Z: a world ahead of it, in which the sources lie. -/
theorem apply_row (W x Z X0 : World) (T : Nat) (h : Nat → Bool) (v : Nat → Int) (f : Nat → Option Addr) (t0 t1 t2 t3 : Int) (hW : W.heap.size ≤ T)
    (r : Row4 x T (.int .i64 t0) (.int .i64 t1) (.int .i64 t2) (.int .i64 t3)) (fz : ∀ j, j < 4 → x.frozen? ⟨T, j, none⟩ = false)
    (g : ∀ j, j < 4 → GivenAt X0 (h j) (v j) (f j) Z) (hk : ∀ b, b < Z.heap.size → x.cell? ⟨b, 0, none⟩ = Z.cell? ⟨b, 0, none⟩) (hT : Z.heap.size ≤ T) (hg : Grown W x) :
    Calls Try.prog 12 #[.agg #[.pointer (f 0), .pointer (f 1), .pointer (f 2), .pointer (f 3)], .pointer (some ⟨T, 0, none⟩)] x fun e y => e = .returned (.tuple #[]) ∧ x.heap.size ≤ y.heap.size ∧ (∀ b o, b < x.heap.size → b ≠ T → y.cell? ⟨b, o, none⟩ = x.cell? ⟨b, o, none⟩)
      ∧ Row4 y T (.int .i64 (pickB (h 0) (v 0) t0)) (.int .i64 (pickB (h 1) (v 1) t1)) (.int .i64 (pickB (h 2) (v 2) t2)) (.int .i64 (pickB (h 3) (v 3) t3)) ∧ (∀ a, y.frozen? a = x.frozen? a) ∧ Grown W y := by
  refine (apply_any W x T f v (seq4 t0 t1 t2 t3) hW r.lt (fun j hj => (g j hj).src hT hk) (all4 r.c0 r.c1 r.c2 r.c3) fz hg).mono ?_
  rintro e y ⟨rfl, hd⟩
  refine ⟨rfl, hd.size, fun b o hb hne => hd.old ⟨b, o, none⟩ hb hne, ⟨Nat.lt_of_lt_of_le r.lt hd.size, ?_, ?_, ?_, ?_⟩, hd.frozen, hd.grown⟩
  · rw [hd.tot 0 (by omega), pick_given (g 0 (by omega))]; rfl
  · rw [hd.tot 1 (by omega), pick_given (g 1 (by omega))]; rfl
  · rw [hd.tot 2 (by omega), pick_given (g 2 (by omega))]; rfl
  · rw [hd.tot 3 (by omega), pick_given (g 3 (by omega))]; rfl

end Go.Proofs.Qxb6600861a
