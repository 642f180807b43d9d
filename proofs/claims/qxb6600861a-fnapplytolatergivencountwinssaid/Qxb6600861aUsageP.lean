/-
  THE PARTS of the seat b6600861a, second: what zzUsageOf leaves ('Given'), what zzPick answers ('pickB'), what zzHolds asks ('HoldsAt').
-/
import Derived.Test.Qxb6600861aParts
namespace Go.Proofs.Qxb6600861a
open Go.RowKit

def pickB (h : Bool) (v t : Int) : Int := if h = true then v else t
def HoldsAt (w : World) (p : Option Addr) (h : Bool) (v : Int) : Prop :=
  (h = true → ∃ b, p = some ⟨b, 0, none⟩ ∧ w.cell? ⟨b, 0, none⟩ = some (.int .i64 v)) ∧ (h = false → p = none)

def seq4 {α : Type} (a b c d : α) : Nat → α
  | 0 => a
  | 1 => b
  | 2 => c
  | _ => d

theorem all4 {p : Nat → Prop} (h0 : p 0) (h1 : p 1) (h2 : p 2) (h3 : p 3) : ∀ j, j < 4 → p j := fun j hj => by
  match j, hj with
  | 0, _ => exact h0
  | 1, _ => exact h1
  | 2, _ => exact h2
  | 3, _ => exact h3

/-- One count's pointer: nil where it is not given, else to a new cell that holds the count. -/
def GivenAt (w : World) (h : Bool) (v : Int) (p : Option Addr) (w' : World) : Prop :=
  (h = true → ∃ b, p = some ⟨b, 0, none⟩ ∧ w.heap.size ≤ b ∧ b < w'.heap.size ∧ w'.cell? ⟨b, 0, none⟩ = some (.int .i64 v)) ∧ (h = false → p = none)

theorem givenAt_no (w : World) (v : Int) (w' : World) : GivenAt w false v none w' := ⟨fun h => (by cases h), fun _ => rfl⟩
theorem givenAt_yes {w : World} {v : Int} {b : Nat} {w' : World} (h1 : w.heap.size ≤ b) (h2 : b < w'.heap.size) (h3 : w'.cell? ⟨b, 0, none⟩ = some (.int .i64 v)) : GivenAt w true v (some ⟨b, 0, none⟩) w' :=
  ⟨fun _ => ⟨b, rfl, h1, h2, h3⟩, fun h => (by cases h)⟩

structure Given (w : World) (h : Nat → Bool) (v : Nat → Int) (f : Nat → Option Addr) (w' : World) : Prop where
  all : ∀ j, j < 4 → GivenAt w (h j) (v j) (f j) w'
  below : Below w.heap.size w w'
  grown : Grown w w'

theorem pick_given {w w' : World} {h : Bool} {v : Int} {p : Option Addr} (g : GivenAt w h v p w') (t : Int) : pick p v t = pickB h v t := by
  cases h
  · rw [g.2 rfl]; rfl
  · obtain ⟨b, hb, _⟩ := g.1 rfl; rw [hb]; rfl

/-- A given count still lies there in whatever world has kept the old cells. -/
theorem GivenAt.holds {w w' x : World} {h : Bool} {v : Int} {p : Option Addr} (g : GivenAt w h v p w') (hx : ∀ b, b < w'.heap.size → x.cell? ⟨b, 0, none⟩ = w'.cell? ⟨b, 0, none⟩) : HoldsAt x p h v :=
  ⟨fun e => by obtain ⟨b, hb, _, h2, h3⟩ := g.1 e; exact ⟨b, hb, (hx b h2).trans h3⟩, g.2⟩

theorem GivenAt.src {w w' x : World} {h : Bool} {v : Int} {p : Option Addr} {T : Nat} (g : GivenAt w h v p w') (hT : w'.heap.size ≤ T) (hx : ∀ b, b < w'.heap.size → x.cell? ⟨b, 0, none⟩ = w'.cell? ⟨b, 0, none⟩) :
    ∀ a, p = some a → ∃ b o, a = ⟨b, o, none⟩ ∧ b ≠ T ∧ x.cell? ⟨b, o, none⟩ = some (.int .i64 v) := by
  intro a ha
  cases h
  · rw [g.2 rfl] at ha; cases ha
  · obtain ⟨b, hb, _, h2, h3⟩ := g.1 rfl
    rw [hb] at ha
    exact ⟨b, 0, (Option.some.inj ha).symm, by omega, (hx b h2).trans h3⟩

end Go.Proofs.Qxb6600861a
