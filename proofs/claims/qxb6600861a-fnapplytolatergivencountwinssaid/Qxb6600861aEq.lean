/-
  THE SEAT b6600861a: '==' on canonical.Usage (type 27), as the model runs it.
-/
import Derived.Test.Qxb6600861aRows
import Derived.WalkKit
namespace Go.Proofs.Qxb6600861a
theorem fields27 : (Try.prog.fieldsOf 27).toList = [{ name := "InputTokens", type := 2, offset := 0, embedded := false, tag := "", pkgPath := "", byteOffset := 0 },
        { name := "CacheCreationInputTokens", type := 2, offset := 1, embedded := false, tag := "", pkgPath := "", byteOffset := 8 },
        { name := "CacheReadInputTokens", type := 2, offset := 2, embedded := false, tag := "", pkgPath := "", byteOffset := 16 },
        { name := "OutputTokens", type := 2, offset := 3, embedded := false, tag := "", pkgPath := "", byteOffset := 24 }] := by
  simp only [Program.fieldsOf, Try.underlying27]
theorem part2 (xs : Array Value) (i : Nat) (v : Value) (h : xs[i]? = some v) (w : World) : (part 2 xs i).run Try.prog w = .ok v w := by
  have hn : (isAgg 2).run Try.prog w = .ok false w := by kernel_rfl
  simp only [part, Sem.run_bind, hn, Result.andThen_ok, h]
  rfl
theorem eqStep (d : Nat) (xs ys : Array Value) (nm tg pk : String) (o bo : Nat) (fs : List Field) (a b : Int) (w : World) (hn : nm ≠ "_") (hx : xs[o]? = some (.int .i64 a)) (hy : ys[o]? = some (.int .i64 b)) :
    (Op.eqFields (d + 1) xs ys ({ name := nm, type := 2, offset := o, embedded := false, tag := tg, pkgPath := pk, byteOffset := bo } :: fs)).run Try.prog w = if a = b then (Op.eqFields (d + 1) xs ys fs).run Try.prog w else .ok false w := by
  have hi := run_equalIn_int (P := Try.prog) w d 2 .i64 .i64 a b Try.underlying2
  conv => lhs; unfold Op.eqFields
  rw [if_pos hn]
  simp only [Sem.run_bind, part2 xs o _ hx, part2 ys o _ hy, Result.andThen_ok, hi, Sem.run_ite, Sem.run_pure]
  by_cases h : a = b
  · simp [h]
  · simp [h]
theorem eq27d (d : Nat) (a0 a1 a2 a3 b0 b1 b2 b3 : Int) (w : World) :
    (Op.equalIn (d + 1 + 1) 27 (.agg #[.int .i64 a0, .int .i64 a1, .int .i64 a2, .int .i64 a3]) (.agg #[.int .i64 b0, .int .i64 b1, .int .i64 b2, .int .i64 b3])).run Try.prog w = .ok (decide (a0 = b0 ∧ a1 = b1 ∧ a2 = b2 ∧ a3 = b3)) w := by
  have hu : Try.prog.underlying 27 = some (.struct (Try.prog.fieldsOf 27)) := by simp only [Program.fieldsOf, Try.underlying27]
  rw [run_equalIn_struct w (d + 1) 27 _ _ hu Try.stoodInHeld27, fields27, eqStep (a := a0) (b := b0) (hn := by decide) (hx := rfl) (hy := rfl), eqStep (a := a1) (b := b1) (hn := by decide) (hx := rfl) (hy := rfl), eqStep (a := a2) (b := b2) (hn := by decide) (hx := rfl) (hy := rfl), eqStep (a := a3) (b := b3) (hn := by decide) (hx := rfl) (hy := rfl)]
  by_cases h0 : a0 = b0
  · by_cases h1 : a1 = b1
    · by_cases h2 : a2 = b2
      · by_cases h3 : a3 = b3
        · simp [h0, h1, h2, h3, Op.eqFields]
        · simp [h0, h1, h2, h3]
      · simp [h0, h1, h2]
    · simp [h0, h1]
  · simp [h0]
theorem eq27 (a0 a1 a2 a3 b0 b1 b2 b3 : Int) (w : World) :
    (Op.equalIn 10000 27 (.agg #[.int .i64 a0, .int .i64 a1, .int .i64 a2, .int .i64 a3]) (.agg #[.int .i64 b0, .int .i64 b1, .int .i64 b2, .int .i64 b3])).run Try.prog w = .ok (decide (a0 = b0 ∧ a1 = b1 ∧ a2 = b2 ∧ a3 = b3)) w :=
  eq27d 9998 a0 a1 a2 a3 b0 b1 b2 b3 w
end Go.Proofs.Qxb6600861a
