/-
  THE PARTS of the seat b6600861a: what is no walk: 'Inv': memory at each round's head of ApplyTo's loop; 'Done': what ApplyTo leaves.
-/
import Derived.WalkKit
import Derived.RowKit3
import Derived.Deep.Draws
namespace Go.Proofs.Qxb6600861a
open Go.RowKit

theorem grown_drewN {W w' : World} (h : Grown W w') (n : Nat) : Grown W (w'.drewN n) := h
theorem grown_trans {a b c : World} (h : Grown a b) (k : Grown b c) : Grown a c :=
  ⟨World.keptBut_trans h.1 k.1, fun x => (k.2.1 x).trans (h.2.1 x), Nat.le_trans h.2.2 k.2.2⟩

/-- The count that lies in total behind ApplyTo: the source's where there is one. -/
def pick (f : Option Addr) (v t : Int) : Int := match f with | none => t | some _ => v

/-- B: how many blocks there were at the call; block B + 1 is the array of the four pairs; T: total's block. -/
structure Inv (W w : World) (T : Nat) (f : Nat → Option Addr) (v t : Nat → Int) (k : Nat) (wr : World) : Prop where
  size : w.heap.size + 2 ≤ wr.heap.size
  frm : ∀ j, j < 4 → wr.cell? ⟨w.heap.size + 1, j * 2, none⟩ = some (.pointer (f j))
  to : ∀ j, j < 4 → wr.cell? ⟨w.heap.size + 1, j * 2 + 1, none⟩ = some (.pointer (some ⟨T, j, none⟩))
  tot : ∀ j, j < 4 → wr.cell? ⟨T, j, none⟩ = some (.int .i64 (if j < k then pick (f j) (v j) (t j) else t j))
  old : ∀ a : Addr, a.block < w.heap.size → a.block ≠ T → wr.cell? a = w.cell? a
  grown : Grown W wr
  frozen : ∀ a, wr.frozen? a = w.frozen? a

structure Done (W w : World) (T : Nat) (f : Nat → Option Addr) (v t : Nat → Int) (w' : World) : Prop where
  size : w.heap.size ≤ w'.heap.size
  tot : ∀ j, j < 4 → w'.cell? ⟨T, j, none⟩ = some (.int .i64 (pick (f j) (v j) (t j)))
  old : ∀ a : Addr, a.block < w.heap.size → a.block ≠ T → w'.cell? a = w.cell? a
  grown : Grown W w'
  frozen : ∀ a, w'.frozen? a = w.frozen? a

theorem Inv.drew {W w : World} {T : Nat} {f : Nat → Option Addr} {v t : Nat → Int} {k : Nat} {wr : World} (h : Inv W w T f v t k wr) : Inv W w T f v t k wr.drew :=
  ⟨h.size, h.frm, h.to, h.tot, h.old, h.grown, h.frozen⟩

theorem Inv.alloc {W w : World} {T : Nat} {f : Nat → Option Addr} {v t : Nat → Int} {k : Nat} {wr : World} (h : Inv W w T f v t k wr) (hT : T < w.heap.size) (c : Array Value) (ty : TypeId) : Inv W w T f v t k (wr.alloc (.cells c ty)) := by
  have hs := h.size
  refine ⟨by rw [World.size_alloc]; omega, fun j hj => ?_, fun j hj => ?_, fun j hj => ?_, fun a h1 h2 => ?_, h.grown.alloc _ _, fun a => ?_⟩
  · rw [World.cell?_alloc_past _ _ _ (by omega)]; exact h.frm j hj
  · rw [World.cell?_alloc_past _ _ _ (by omega)]; exact h.to j hj
  · rw [World.cell?_alloc_past _ _ _ (by omega)]; exact h.tot j hj
  · rw [World.cell?_alloc_lt _ _ _ (by omega)]; exact h.old a h1 h2
  · rw [frozen?_alloc_cells]; exact h.frozen a

theorem Inv.skip {W w : World} {T : Nat} {f : Nat → Option Addr} {v t : Nat → Int} {k : Nat} {wr : World} (h : Inv W w T f v t k wr) (hf : f k = none) : Inv W w T f v t (k + 1) wr := by
  refine ⟨h.size, h.frm, h.to, fun j hj => ?_, h.old, h.grown, h.frozen⟩
  rw [h.tot j hj]
  by_cases c : j < k
  · rw [if_pos c, if_pos (by omega)]
  · by_cases e : j = k
    · subst e; rw [if_neg c, if_pos (by omega), hf]; rfl
    · rw [if_neg c, if_neg (by omega)]

theorem Inv.set {W w : World} {T : Nat} {f : Nat → Option Addr} {v t : Nat → Int} {k : Nat} {wr : World} (h : Inv W w T f v t k wr) (hW : W.heap.size ≤ T) (hT : T < w.heap.size) {a : Addr} (hf : f k = some a) (hk : k < 4) :
    Inv W w T f v t (k + 1) (wr.setCell ⟨T, k, none⟩ (.int .i64 (v k))) := by
  have ho : ∀ b : Addr, (b.block ≠ T ∨ b.off ≠ k) → (wr.setCell ⟨T, k, none⟩ (.int .i64 (v k))).cell? b = wr.cell? b := fun b hb =>
    World.cell?_setCell_other _ _ _ _ (fun e => by subst e; simp at hb)
  refine ⟨by rw [World.size_setCell]; exact h.size, fun j hj => ?_, fun j hj => ?_, fun j hj => ?_, fun b h1 h2 => ?_, h.grown.setCell hW _, fun b => ?_⟩
  · rw [ho _ (.inl (by show w.heap.size + 1 ≠ T; omega))]; exact h.frm j hj
  · rw [ho _ (.inl (by show w.heap.size + 1 ≠ T; omega))]; exact h.to j hj
  · by_cases e : j = k
    · subst e
      rw [World.cell?_setCell_same _ _ _ (h.tot j hj), if_pos (by omega), hf]; rfl
    · rw [ho _ (.inr e), h.tot j hj]
      by_cases c : j < k
      · rw [if_pos c, if_pos (by omega)]
      · rw [if_neg c, if_neg (by omega)]
  · rw [ho _ (.inl h2)]; exact h.old b h1 h2
  · rw [World.frozen?_setCell]; exact h.frozen b

theorem Inv.done {W w : World} {T : Nat} {f : Nat → Option Addr} {v t : Nat → Int} {wr : World} (h : Inv W w T f v t 4 wr) : Done W w T f v t wr :=
  ⟨by have := h.size; omega, fun j hj => by rw [h.tot j hj, if_pos hj], h.old, h.grown, h.frozen⟩

theorem Inv.start {W w : World} {T : Nat} {f : Nat → Option Addr} {v t : Nat → Int} (hT : T < w.heap.size) (ht : ∀ j, j < 4 → w.cell? ⟨T, j, none⟩ = some (.int .i64 (t j))) (hg : Grown W w) (c : Array Value) :
    Inv W w T f v t 0 ((w.alloc (.cells c 24)).alloc (.cells #[.pointer (f 0), .pointer (some ⟨T, 0, none⟩), .pointer (f 1), .pointer (some ⟨T, 1, none⟩), .pointer (f 2), .pointer (some ⟨T, 2, none⟩), .pointer (f 3), .pointer (some ⟨T, 3, none⟩)] 58)) := by
  have hn : w.heap.size + 1 = (w.alloc (.cells c 24)).heap.size := by rw [World.size_alloc]
  refine ⟨by rw [World.size_alloc, World.size_alloc]; omega, fun j hj => ?_, fun j hj => ?_, fun j hj => ?_, fun a h1 h2 => ?_, (hg.alloc _ _).alloc _ _, fun a => ?_⟩
  · rw [World.cell?_alloc_at _ _ _ _ hn]
    match j, hj with
    | 0, _ => rfl
    | 1, _ => rfl
    | 2, _ => rfl
    | 3, _ => rfl
  · rw [World.cell?_alloc_at _ _ _ _ hn]
    match j, hj with
    | 0, _ => rfl
    | 1, _ => rfl
    | 2, _ => rfl
    | 3, _ => rfl
  · rw [World.cell?_alloc_past _ _ _ (by rw [World.size_alloc]; omega), World.cell?_alloc_past _ _ _ (by omega), ht j hj, if_neg (by omega)]
  · rw [World.cell?_alloc_lt _ _ _ (by rw [World.size_alloc]; omega), World.cell?_alloc_lt _ _ _ h1]
  · rw [frozen?_alloc_cells, frozen?_alloc_cells]

end Go.Proofs.Qxb6600861a
