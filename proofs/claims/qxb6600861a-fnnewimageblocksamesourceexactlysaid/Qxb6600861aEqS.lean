/-
  THE SEAT b6600861a: '==' on ImageSource (type 43) and CacheControl (type 49), as the model runs it.
-/
import Derived.Test.Qxb6600861aRows
import Derived.WalkKit
namespace Go.Proofs.Qxb6600861a
theorem part9 (xs : Array Value) (i : Nat) (v : Value) (h : xs[i]? = some v) (w : World) : (part 9 xs i).run Try.prog w = .ok v w := by
  have hn : (isAgg 9).run Try.prog w = .ok false w := by kernel_rfl
  simp only [part, Sem.run_bind, hn, Result.andThen_ok, h]
  rfl
theorem eqStepS (d : Nat) (xs ys : Array Value) (nm tg pk : String) (o bo : Nat) (fs : List Field) (a b : ByteArray) (w : World) (hn : nm ≠ "_") (hx : xs[o]? = some (.string a)) (hy : ys[o]? = some (.string b)) :
    (Op.eqFields (d + 1) xs ys ({ name := nm, type := 9, offset := o, embedded := false, tag := tg, pkgPath := pk, byteOffset := bo } :: fs)).run Try.prog w = if a.toList == b.toList then (Op.eqFields (d + 1) xs ys fs).run Try.prog w else .ok false w := by
  have hi := run_equalIn_string (P := Try.prog) w d 9 a b Try.underlying9
  conv => lhs; unfold Op.eqFields
  rw [if_pos hn]
  simp only [Sem.run_bind, part9 xs o _ hx, part9 ys o _ hy, Result.andThen_ok, hi, Sem.run_ite, Sem.run_pure]
  cases (a.toList == b.toList) <;> rfl
theorem eq43d (d : Nat) (a0 a1 a2 a3 b0 b1 b2 b3 : ByteArray) (w : World) :
    (Op.equalIn (d + 1 + 1) 43 (.agg #[.string a0, .string a1, .string a2, .string a3]) (.agg #[.string b0, .string b1, .string b2, .string b3])).run Try.prog w = .ok ((a0.toList == b0.toList) && ((a1.toList == b1.toList) && ((a2.toList == b2.toList) && (a3.toList == b3.toList)))) w := by
  have hu : Try.prog.underlying 43 = some (.struct (Try.prog.fieldsOf 43)) := by simp only [Program.fieldsOf, Try.underlying43]
  rw [run_equalIn_struct w (d + 1) 43 _ _ hu Try.stoodInHeld43]
  simp only [Program.fieldsOf, Try.underlying43]
  rw [eqStepS (a := a0) (b := b0) (hn := by decide) (hx := rfl) (hy := rfl), eqStepS (a := a1) (b := b1) (hn := by decide) (hx := rfl) (hy := rfl), eqStepS (a := a2) (b := b2) (hn := by decide) (hx := rfl) (hy := rfl), eqStepS (a := a3) (b := b3) (hn := by decide) (hx := rfl) (hy := rfl)]
  cases (a0.toList == b0.toList) <;> cases (a1.toList == b1.toList) <;> cases (a2.toList == b2.toList) <;> cases (a3.toList == b3.toList) <;> simp [Op.eqFields]
theorem eq43 (a0 a1 a2 a3 b0 b1 b2 b3 : ByteArray) (w : World) :
    (Op.equalIn 10000 43 (.agg #[.string a0, .string a1, .string a2, .string a3]) (.agg #[.string b0, .string b1, .string b2, .string b3])).run Try.prog w = .ok ((a0.toList == b0.toList) && ((a1.toList == b1.toList) && ((a2.toList == b2.toList) && (a3.toList == b3.toList)))) w :=
  eq43d 9998 a0 a1 a2 a3 b0 b1 b2 b3 w
theorem eq49d (d : Nat) (a0 a1 b0 b1 : ByteArray) (w : World) :
    (Op.equalIn (d + 1 + 1) 49 (.agg #[.string a0, .string a1]) (.agg #[.string b0, .string b1])).run Try.prog w = .ok ((a0.toList == b0.toList) && (a1.toList == b1.toList)) w := by
  have hu : Try.prog.underlying 49 = some (.struct (Try.prog.fieldsOf 49)) := by simp only [Program.fieldsOf, Try.underlying49]
  rw [run_equalIn_struct w (d + 1) 49 _ _ hu Try.stoodInHeld49]
  simp only [Program.fieldsOf, Try.underlying49]
  rw [eqStepS (a := a0) (b := b0) (hn := by decide) (hx := rfl) (hy := rfl), eqStepS (a := a1) (b := b1) (hn := by decide) (hx := rfl) (hy := rfl)]
  cases (a0.toList == b0.toList) <;> cases (a1.toList == b1.toList) <;> simp [Op.eqFields]
theorem eq49 (a0 a1 b0 b1 : ByteArray) (w : World) :
    (Op.equalIn 10000 49 (.agg #[.string a0, .string a1]) (.agg #[.string b0, .string b1])).run Try.prog w = .ok ((a0.toList == b0.toList) && (a1.toList == b1.toList)) w :=
  eq49d 9998 a0 a1 b0 b1 w
end Go.Proofs.Qxb6600861a
