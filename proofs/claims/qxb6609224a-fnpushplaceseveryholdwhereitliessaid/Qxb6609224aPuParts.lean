import Derived.Test.Qxb6609224aProg
import Derived.WalkKit
import Derived.WalkLawsBesides
import Derived.Outline
import Derived.Laws.Tables
import Derived.Deep.AppendLies
namespace Go.Proofs.Qxb6609224a
open Go.RowKit

/-- A struct is built: its cells as one array that the walk does not open. -/
theorem wpList_built' {P : Program} {ops : Array Oper} {rest : List Oper} {o : Oper} {a : Act} {w : World} {Q : Exit → Act → World → Prop} (hgd : o.guard = none) (t : TypeId) (parts : Array (Nat × Operand)) (ho : o.op = .build t parts)
    (cells : Array Value) (vals : List (Nat × Value)) (hv : (parts.map fun (i, x) => (i, a.eval x)).toList = vals) (hc : P.built t vals = some cells)
    (h : wpList P ops Q rest (a.put o.dst (.agg cells)) w) : wpList P ops Q (o :: rest) a w := by
  subst hv
  exact wpList_plain hgd fun _ hK => wp_build t parts ho (by rw [hc]; rfl) (by rw [hc]; exact hK _ _ h)

def holdCells (a n : Int) : Array Value := #[.pointer none, .nilIface, .int .i64 0, .int .i64 0, .int .i64 0, .int .i64 0, .int .i64 0, .slice none 0 0, .int .i64 0, .slice none 0 0, .slice none 0 0, .bool false, .int .u64 0, .int .i64 0, .pointer none, .int .i64 0, .bool false, .bool false, .bool false, .int .u64 0, .int .i64 0, .pointer none, .bool false, .bool false, .float .f64 0, .int .i64 0, .int .u64 0, .int .i64 0, .pointer none, .int .u64 0, .int .i64 0, .pointer none, .int .u64 n, .int .i64 a, .slice none 0 0, .pointer none, .int .u64 0, .pointer none, .int .u64 0, .pointer none, .int .u64 0, .pointer none, .int .u64 0, .bool false, .bool false, .bool false, .int .u64 0, .chan none]
theorem hold_built (a n : Int) : Try.prog.built 116 [(6, .int .i64 a), (5, .int .u64 n)] = some (holdCells a n) := by kernel_rfl

/-- Block b is a hold: its number and its place in the heap. -/
def HoldAt (w : World) (b : Nat) (n a : Int) : Prop := ∃ cur : Array Value, w.heap[b]? = some (.cells cur 116 (0, 0)) ∧ cur[32]? = some (.int .u64 n) ∧ cur[33]? = some (.int .i64 a)

theorem HoldAt.c32 {w : World} {b : Nat} {n a : Int} (h : HoldAt w b n a) : w.cell? ⟨b, 32, none⟩ = some (.int .u64 n) := by
  obtain ⟨cur, hb, h1, _⟩ := h
  rw [cell_of_row _ _ _ _ _ _ hb]; exact h1
theorem HoldAt.c33 {w : World} {b : Nat} {n a : Int} (h : HoldAt w b n a) : w.cell? ⟨b, 33, none⟩ = some (.int .i64 a) := by
  obtain ⟨cur, hb, _, h1⟩ := h
  rw [cell_of_row _ _ _ _ _ _ hb]; exact h1
theorem HoldAt.f33 {w : World} {b : Nat} {n a : Int} (h : HoldAt w b n a) : w.frozen? ⟨b, 33, none⟩ = false := by
  obtain ⟨cur, hb, _⟩ := h
  exact frozen_of_row _ _ _ _ _ hb
theorem HoldAt.lt {w : World} {b : Nat} {n a : Int} (h : HoldAt w b n a) : b < w.heap.size := by
  obtain ⟨cur, hb, _⟩ := h
  exact (Array.getElem?_eq_some_iff.1 hb).1
theorem HoldAt.keep {w w' : World} {b : Nat} {n a : Int} (h : HoldAt w b n a) (e : w'.heap[b]? = w.heap[b]?) : HoldAt w' b n a := by
  obtain ⟨cur, hb, r⟩ := h
  exact ⟨cur, e.trans hb, r⟩
theorem HoldAt.set {w : World} {b : Nat} {n a : Int} (h : HoldAt w b n a) (x : Int) : HoldAt (w.setCell ⟨b, 33, none⟩ (.int .i64 x)) b n x := by
  obtain ⟨cur, hb, h1, h2⟩ := h
  have hs : 33 < cur.size := (Array.getElem?_eq_some_iff.1 h2).1
  refine ⟨_, heap_setCell_same w b 33 cur 116 (.int .i64 x) hb, ?_, ?_⟩
  · rw [Array.getElem?_setIfInBounds_ne (by omega)]; exact h1
  · rw [Array.getElem?_setIfInBounds_self_of_lt hs]

set_option maxHeartbeats 400000 in
theorem newHold (a n : Int) (w : World) :
    Calls Try.prog 37 #[.int .i64 a, .int .u64 n] w fun e w' => e = .returned (.pointer (some ⟨w.heap.size, 0, none⟩)) ∧ Below w.heap.size w w' ∧ w'.heap.size = w.heap.size + 1 ∧ HoldAt w' w.heap.size n a := by
  go_enter Try.func37, Try.ntmps37
  go_wp2_with (with_reducible refine wpList_built' (o := ⟨some 7, .build 116 _, _, _, _, none⟩) ?g1 116 #[(6, .tmp 5), (5, .tmp 6)] ?g2 (holdCells a n) [(6, .int .i64 a), (5, .int .u64 n)] ?g3 ?g4 ?next)
  case g1 => rfl
  case g2 => rfl
  case g4 => exact hold_built a n
  go_ret
  exact ⟨rfl, (Below.refl _ _).alloc (Nat.le_refl _) _, by simp, holdCells a n, heap_alloc_new w _, rfl, rfl⟩

set_option maxHeartbeats 400000 in
theorem newHeap (w : World) :
    Calls Try.prog 36 #[] w fun e w' => e = .returned (.pointer (some ⟨w.heap.size + 1, 0, none⟩)) ∧ Below w.heap.size w w' ∧ w'.heap.size = w.heap.size + 2 ∧
      w'.heap[w.heap.size + 1]? = some (.cells #[.slice (some ⟨w.heap.size, 0, none⟩) 0 0] 105 (0, 0)) ∧ w'.ownsRow w.heap.size 68 1 (.slice (some ⟨w.heap.size, 0, none⟩) 0 0) 0 [] := by
  go_enter Try.func36, Try.ntmps36
  go_wp2
  go_ret
  refine ⟨rfl, ((Below.refl _ _).alloc (Nat.le_refl _) _).alloc (by simp) _, by simp, ?_, ?_⟩
  · have := heap_alloc_new (w.alloc (.cells #[] 68)) (.cells #[.slice (some ⟨w.heap.size, 0, none⟩) 0 0] 105)
    simpa using this
  · exact (World.ownsRow_made w #[] 0 (Nat.le_refl _) (Nat.zero_le _) rfl).alloc _

set_option maxHeartbeats 400000 in
theorem heapLen (q : Nat) (a : Option Addr) (n c : Nat) (w : World) (hq : w.cell? ⟨q, 0, none⟩ = some (.slice a n c)) :
    Calls Try.prog 39 #[.pointer (some ⟨q, 0, none⟩)] w fun e w' => e = .returned (.int .i64 n) ∧ w = w' := by
  go_enter Try.func39, Try.ntmps39
  go_wp2
  go_ret
  exact ⟨rfl, rfl⟩

set_option maxHeartbeats 400000 in
theorem heapEntry (q g n c k : Nat) (u : Option Addr) (w : World) (hq : w.cell? ⟨q, 0, none⟩ = some (.slice (some ⟨g, 0, none⟩) n c)) (hk : k < n) (hc : w.cell? ⟨g, k, none⟩ = some (.pointer u)) :
    Calls Try.prog 40 #[.pointer (some ⟨q, 0, none⟩), .int .i64 k] w fun e w' => e = .returned (.pointer u) ∧ w = w' := by
  go_enter Try.func40, Try.ntmps40
  go_wp2
  go_ret
  exact ⟨rfl, rfl⟩

set_option maxHeartbeats 400000 in
theorem holdPlace (b : Nat) (n a : Int) (w : World) (h : HoldAt w b n a) :
    Calls Try.prog 41 #[.pointer (some ⟨b, 0, none⟩)] w fun e w' => e = .returned (.int .i64 a) ∧ w = w' := by
  have c := h.c33
  clear h
  go_enter Try.func41, Try.ntmps41
  go_wp2
  go_ret
  exact ⟨rfl, rfl⟩

set_option maxHeartbeats 400000 in
theorem holdNumber (b : Nat) (n a : Int) (w : World) (h : HoldAt w b n a) :
    Calls Try.prog 42 #[.pointer (some ⟨b, 0, none⟩)] w fun e w' => e = .returned (.int .u64 n) ∧ w = w' := by
  have c := h.c32
  clear h
  go_enter Try.func42, Try.ntmps42
  go_wp2
  go_ret
  exact ⟨rfl, rfl⟩
end Go.Proofs.Qxb6609224a
