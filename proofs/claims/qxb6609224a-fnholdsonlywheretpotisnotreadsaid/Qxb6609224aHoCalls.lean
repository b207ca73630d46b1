import Derived.Test.Qxb6609224aHoParts
namespace Go.Proofs.Qxb6609224a
open Go.RowKit

/-- 'strategy == fewest-misses', 'picker == max-score', as the walk reckons them. -/
def isFewest (s : ByteArray) : Bool := s.toList == [102, 101, 119, 101, 115, 116, 45, 109, 105, 115, 115, 101, 115]
def isMax (s : ByteArray) : Bool := s.toList == [109, 97, 120, 45, 115, 99, 111, 114, 101]

set_option maxHeartbeats 400000 in
theorem holds31 (hb : Nat) (h : Bool) (s : ByteArray) (w : World) (c3 : w.cell? ⟨hb, 3, none⟩ = some (.string s)) (c6 : w.cell? ⟨hb, 6, none⟩ = some (.bool h)) :
    Calls Try.prog 31 #[.pointer (some ⟨hb, 0, none⟩)] w fun e w' => e = .returned (.bool (h && isFewest s)) ∧ w = w' := by
  unfold isFewest
  cases h
  · go_enter Try.func31, Try.ntmps31
    go_wp2
    go_ret
    exact ⟨rfl, rfl⟩
  · go_enter Try.func31, Try.ntmps31
    go_wp2
    go_ret
    exact ⟨rfl, rfl⟩

set_option maxHeartbeats 400000 in
theorem tpot32 (hb : Nat) (s : ByteArray) (t p : Int) (w : World) (c3 : w.cell? ⟨hb, 3, none⟩ = some (.string s)) (hlt : hb < w.heap.size) :
    Calls Try.prog 32 #[.pointer (some ⟨hb, 0, none⟩), .agg (reqCells t p).toArray] w fun e w' => e = .returned (.bool (!isFewest s || (t == 0 && p == 0))) ∧ Below w.heap.size w w' := by
  have q2 : (reqCells t p)[2]? = some (.int .i64 t) := rfl
  have q3 : (reqCells t p)[3]? = some (.int .i64 p) := rfl
  unfold isFewest
  cases hf : (s.toList == [102, 101, 119, 101, 115, 116, 45, 109, 105, 115, 115, 101, 115])
  · go_enter Try.func32, Try.ntmps32
    go_wp2
    go_ret
    exact ⟨rfl, (Below.refl _ _).alloc (Nat.le_refl _) _⟩
  · go_enter Try.func32, Try.ntmps32
    go_wp2
    all_goals
      go_ret
      exact ⟨by simp [*], (Below.refl _ _).alloc (Nat.le_refl _) _⟩

set_option maxHeartbeats 400000 in
theorem every46 (hb : Nat) (s : ByteArray) (w : World) (c4 : w.cell? ⟨hb, 4, none⟩ = some (.string s)) (c5 : w.cell? ⟨hb, 5, none⟩ = some (.float .f64 0)) :
    Calls Try.prog 46 #[.pointer (some ⟨hb, 0, none⟩)] w fun e w' => e = .returned (.bool (!isMax s)) ∧ w = w' := by
  have h0 : (FloatKind.f64.format.order 0 0 == some Ordering.gt) = false := by decide +kernel
  unfold isMax
  cases hf : (s.toList == [109, 97, 120, 45, 115, 99, 111, 114, 101])
  · go_enter Try.func46, Try.ntmps46
    go_wp2
    go_ret
    exact ⟨rfl, rfl⟩
  · go_enter Try.func46, Try.ntmps46
    go_wp2
    go_ret
    exact ⟨rfl, rfl⟩

theorem range_new (w : World) (cs : List Value) (t : TypeId) : (w.alloc (.cells cs.toArray t)).rangeAt w.heap.size 0 cs := fun j v hv => by
  rw [cell_of_row _ _ _ _ _ _ (heap_alloc_new w _)]
  simpa using hv

set_option maxHeartbeats 1000000 in
theorem ttft34 (hb : Nat) (s pk : ByteArray) (t p : Int) (w : World) (c3 : w.cell? ⟨hb, 3, none⟩ = some (.string s)) (c4 : w.cell? ⟨hb, 4, none⟩ = some (.string pk)) (c5 : w.cell? ⟨hb, 5, none⟩ = some (.float .f64 0)) (hlt : hb < w.heap.size) :
    Calls Try.prog 34 #[.pointer (some ⟨hb, 0, none⟩), .agg (reqCells t p).toArray] w fun e w' => e = .returned (.bool ((!isFewest s || (t == 0 && p == 0)) || !isMax pk)) ∧ Below w.heap.size w w' := by
  have C3 : Hid _ := c3
  have C4 : Hid _ := c4
  have C5 : Hid _ := c5
  clear c3 c4 c5
  go_enter Try.func34, Try.ntmps34
  go_wp2_with (with_reducible refine wpList_load_mid (op := ⟨some 6, .load 55 (.tmp 3), _, _, _, none⟩) ?g1 55 (.tmp 3) ?g2 w.heap.size 0 ?g3 (reqCells t p) _ ?g4 Try.underlying55 ?g5 ?g6 ?next)
  case g1 => rfl
  case g2 => rfl
  case g3 => rfl
  case g4 => exact range_new w _ 55
  case g5 => rfl
  case g6 => kernel_rfl
  have hb0 : Below w.heap.size w (w.alloc (Obj.cells (reqCells t p).toArray 55)) := (Below.refl _ _).alloc (Nat.le_refl _) _
  refine (tpot32 hb s t p _ ((hb0.cell (p := ⟨hb, 3, none⟩) hlt).trans C3.out) (by simp; omega)).mono ?_
  rintro e w1 ⟨rfl, hb1⟩
  have hb2 := hb0.trans (hb1.mono (by simp))
  cases hB : (!isFewest s || (t == 0 && p == 0))
  · go_wp2_with fail
    refine (every46 hb pk _ ((hb2.cell (p := ⟨hb, 4, none⟩) hlt).trans C4.out) ((hb2.cell (p := ⟨hb, 5, none⟩) hlt).trans C5.out)).mono ?_
    rintro e w2 ⟨rfl, rfl⟩
    go_wp2
    go_ret
    exact ⟨by rw [hB]; rfl, hb2⟩
  · go_wp2
    go_ret
    exact ⟨by rw [hB]; rfl, hb2⟩
end Go.Proofs.Qxb6609224a
