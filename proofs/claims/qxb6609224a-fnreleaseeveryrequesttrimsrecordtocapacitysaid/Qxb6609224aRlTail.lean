import Derived.Test.Qxb6609224aRlOwns
import Derived.Test.Qxb6609224aRlPlainB
import Derived.Deep.CutBlock
import Derived.Deep.LoopGhost
import Derived.BigQuiet
namespace Go.Proofs.Qxb6609224a.Rl
open Go.RowKit

/-- What follows a function's first n statements. -/
def dropSeq : Nat → Code → Code
  | 0, c => c
  | n + 1, .seq _ b => dropSeq n b
  | _ + 1, c => c
def bodyOf (o : Option Code) : Code := o.getD .skip

theorem below_same {w w' : World} (h1 : w'.os = w.os) (h2 : w'.tape = w.tape) (h3 : w'.output = w.output) (h4 : w'.heap = w.heap) : Below w.heap.size w w' := ⟨h1, h2, h3, by rw [h4]; exact Nat.le_refl _, fun _ _ => by rw [h4]⟩
theorem below_drewN (w : World) (q : Nat) : Below w.heap.size w (w.drewN q) := ⟨rfl, rfl, rfl, Nat.le_refl _, fun _ _ => rfl⟩
theorem in_cell {w wx : World} {a : Addr} {v : Value} (hb : Below w.heap.size w wx) (h : w.cell? a = some v) : wx.cell? a = some v := by
  rw [World.cell?_of_block (hb.block a.block (World.block_lt_of_cell? w _ h))]; exact h

/-- What the arguments are, once they have passed the tests. -/
structure Ctx (en0 : Int) (bI oI bE oE bL oL K N : Nat) (I E L : List Int) (w : World) : Prop where
  hIl : I.length = K
  hEl : E.length = K
  hLl : L.length = N
  hK1 : 1 ≤ K
  hK2 : K ≤ 65536
  hN1 : 1 ≤ N
  hN2 : N ≤ 4096
  hI : ∀ j, j < K → w.cell? ⟨bI, oI + j, none⟩ = some (.int .i64 (I.getD j 0))
  hE : ∀ j, j < K → w.cell? ⟨bE, oE + j, none⟩ = some (.int .i64 (E.getD j 0))
  hL : ∀ j, j < N → w.cell? ⟨bL, oL + j, none⟩ = some (.int .i64 (L.getD j 0))
  hEr : ∀ j, j < K → E.getD j 0 ≤ 9223372036854775807
  hE0 : 0 < E.getD 0 0
  hinc : ∀ j, 1 ≤ j → j < K → E.getD (j - 1) 0 < E.getD j 0
  hnd : I.Nodup
  hLr : ∀ t, t < N → 0 ≤ L.getD t 0 ∧ L.getD t 0 < K

/-- The record lies in new blocks; the two rows of the function's own are others. -/
def Ends (w wy : World) (rb pb mb : Nat) (d : Dat) (ub : Nat) (U : List Int) (K : Nat) : Prop :=
  Owns w wy rb pb mb d (fun _ => False) ∧ Below w.heap.size w wy ∧ ∀ j, j < K → wy.cell? ⟨ub, j, none⟩ = some (.int .u64 (U.getD j 0))
theorem Ends.below {w wy w' : World} {rb pb mb : Nat} {d : Dat} {ub : Nat} {U : List Int} {K : Nat} (h : Ends w wy rb pb mb d ub U K) (hb : Below wy.heap.size wy w') : Ends w w' rb pb mb d ub U K := by
  obtain ⟨h1, h2, h3⟩ := h
  refine ⟨h1.more hb.size (fun b hb' => hb.block b hb') (fun _ h => Or.inl h), ?_, fun j hj => in_cell hb (h3 j hj)⟩
  have := h2.size
  exact ⟨hb.os.trans h2.os, hb.tape.trans h2.tape, hb.output.trans h2.output, Nat.le_trans h2.size hb.size, fun b h => (hb.block b (by omega)).trans (h2.block b h)⟩
theorem Ends.drewN {w wy : World} {rb pb mb : Nat} {d : Dat} {ub : Nat} {U : List Int} {K : Nat} (h : Ends w wy rb pb mb d ub U K) (q : Nat) : Ends w (wy.drewN q) rb pb mb d ub U K := h.below (below_drewN _ _)
end Go.Proofs.Qxb6609224a.Rl
