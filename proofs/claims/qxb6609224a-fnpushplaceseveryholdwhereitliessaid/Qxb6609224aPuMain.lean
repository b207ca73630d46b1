import Derived.Test.Qxb6609224aPuPush
import Derived.Lib.Builder
namespace Go.Proofs.Qxb6609224a
open Go.RowKit

/-- The number of the k-th hold, as the model reckons 'number + uint64(k)'. -/
def numAt (number : Int) (k : Nat) : Int := IntKind.u64.wrap (number + k)

def ptrs (H : Nat → Nat) (k : Nat) : List Value := (List.range k).map fun j => .pointer (some ⟨H j, 0, none⟩)

/-- k holds have been pushed. -/
structure Inv (B q : Nat) (w wr : World) (k g cap : Nat) (H : Nat → Nat) (number : Int) : Prop where
  hq : wr.heap[q]? = some (.cells #[.slice (some ⟨g, 0, none⟩) k cap] 105 (0, 0))
  own : wr.ownsRow B 68 1 (.slice (some ⟨g, 0, none⟩) k cap) k (ptrs H k)
  holds : ∀ j, j < k → HoldAt wr (H j) (numAt number j) (j + 1)
  below : Below B w wr

theorem Inv.keep {B q : Nat} {w wr w' : World} {k g cap : Nat} {H : Nat → Nat} {number : Int} (h : Inv B q w wr k g cap H number) (hb : Below wr.heap.size wr w') (hB : B ≤ wr.heap.size) : Inv B q w w' k g cap H number := by
  obtain ⟨h1, h2, h3, h4⟩ := h
  refine ⟨(hb.block q (lt_of_block h1)).trans h1, ?_, fun j hj => (h3 j hj).keep (hb.block _ (h3 j hj).lt), h4.trans (hb.mono hB)⟩
  obtain ⟨a, b⟩ := h2
  refine ⟨a, ?_⟩
  rcases b with b | ⟨g', cap', cur, e, b1, b2, r⟩
  · exact Or.inl b
  · exact Or.inr ⟨g', cap', cur, e, b1, (hb.block g' (lt_of_block b2)).trans b2, r⟩

theorem Inv.push {B q hb : Nat} {w wr w' : World} {k g cap : Nat} {H : Nat → Nat} {number : Int} (h : Inv B q w wr k g cap H number) (hnew : ∀ j, j < k → H j ≠ hb) (hp : Pushed B q hb k (.slice (some ⟨g, 0, none⟩) k cap) (ptrs H k) (numAt number k) wr w') :
    ∃ g' cap', Inv B q w w' (k + 1) g' cap' (fun j => if j = k then hb else H j) number := by
  obtain ⟨⟨g', cap', p1, p2⟩, p3, p4, p5⟩ := hp
  refine ⟨g', cap', p1, ?_, ?_, h.below.trans p5⟩
  · have e : ptrs (fun j => if j = k then hb else H j) (k + 1) = ptrs H k ++ [.pointer (some ⟨hb, 0, none⟩)] := by
      unfold ptrs
      rw [List.range_succ, List.map_append]
      congr 1
      · apply List.map_congr_left
        intro j hj
        have := List.mem_range.1 hj
        simp only [if_neg (show ¬ j = k by omega)]
      · simp
    rw [e]; exact p2
  · intro j hj
    by_cases e : j = k
    · subst e
      rw [if_pos rfl]; exact p3
    · have hjk : j < k := by omega
      show HoldAt w' (if j = k then hb else H j) _ _
      rw [if_neg e]
      have hh := h.holds j hjk
      refine hh.keep (p4 _ hh.lt ?_ (hnew j hjk) ?_)
      · intro e2
        obtain ⟨cur, c1, _⟩ := hh
        rw [e2] at c1
        rw [h.hq] at c1; simp at c1
      · intro e2
        simp [Value.ownBlock] at e2
        obtain ⟨cur, c1, _⟩ := hh
        rcases h.own.2 with ⟨x, _⟩ | ⟨g2, cap2, cur2, x, _, y, _⟩
        · simp at x
        · simp only [Value.slice.injEq, Option.some.injEq, Addr.mk.injEq, and_true, true_and] at x
          obtain ⟨rfl, rfl⟩ := x
          rw [← e2] at c1
          rw [y] at c1; simp at c1

theorem Inv.entry {B q : Nat} {w wr : World} {k g cap : Nat} {H : Nat → Nat} {number : Int} (h : Inv B q w wr k g cap H number) (j : Nat) (hj : j < k) : wr.cell? ⟨g, j, none⟩ = some (.pointer (some ⟨H j, 0, none⟩)) := by
  rw [h.own.cellAt j (by omega)]
  simp [ptrs, hj]

set_option maxRecDepth 100000 in
set_option maxHeartbeats 1000000 in
theorem push_main (n : Nat) (stale number : Int) (w : World) (hn : n ≤ 65536) :
    Calls Try.prog 8 #[.int .i64 n, .int .i64 stale, .int .u64 number] w fun e w' => e = .returned (.bool true) ∧ Below w.heap.size w w' := by
  obtain ⟨j116, hj116⟩ : ∃ j, Try.prog.info? 116 = some j := Option.isSome_iff_exists.1 (by kernel_rfl)
  have hpe := fun (w : World) (a : Addr) => Lib.run_neq_ptr_same (P := Try.prog) w a Try.underlying68 hj116
  clear hj116
  go_enter Try.func8, Try.ntmps8
  go_wp2_with fail
  refine (newHeap w).mono ?_
  rintro e w1 ⟨rfl, hb1, hz1, hq1, ho1⟩
  have I0 : Inv w.heap.size (w.heap.size + 1) w w1 0 w.heap.size 0 (fun _ => 0) number := ⟨hq1, ho1, fun j hj => by omega, hb1⟩
  have hs1 : w.heap.size + 2 ≤ w1.heap.size := by omega
  clear hb1 hz1 hq1 ho1
  go_wp2_with fail
  go_loopw [8, 9] (fun i _ wr => ∃ (k g cap : Nat) (H : Nat → Nat), k ≤ n ∧ i = .int .i64 k ∧ Inv w.heap.size (w.heap.size + 1) w wr k g cap H number ∧ w.heap.size + 2 ≤ wr.heap.size) (fun i _ _ => n - (intOf i).toNat)
  case atStart => exact ⟨0, _, _, _, Nat.zero_le _, rfl, I0, hs1⟩
  case round =>
    obtain ⟨k, g, cap, H, hk, rfl, I, hs⟩ := hrel
    clear I0 hs1
    by_cases hlt : k < n
    · go_wp2_with fail
      refine (newHold stale (numAt number k) wr).mono ?_
      rintro e w2 ⟨rfl, hb2, hz2, hh2⟩
      have I2 := I.keep hb2 (by omega)
      have hold_lt : ∀ j, j < k → H j ≠ wr.heap.size := fun j hj => by have := (I.holds j hj).lt; omega
      have hs2 : w.heap.size + 3 ≤ w2.heap.size := by omega
      clear hb2 hz2
      go_wp2_with fail
      refine (push38 w.heap.size (w.heap.size + 1) wr.heap.size g cap k (ptrs H k) (numAt number k) stale w2 I2.hq I2.own hh2 (by omega) (by omega) (by omega)).mono ?_
      rintro e w3 ⟨rfl, hp⟩
      have hs3 := hp.below.size
      obtain ⟨g', cap', I3⟩ := I2.push hold_lt hp
      clear hp I2 I hh2
      have hself := I3.holds k (by omega)
      have hent := I3.entry k (by omega)
      simp only [if_true] at hself hent
      have hq3 := cell_of_one I3.hq
      generalize hH' : (fun j => if j = k then wr.heap.size else H j) = H' at I3
      clear hH'
      have HS : Hid (HoldAt w3 wr.heap.size (numAt number k) (k + 1)) := hself
      clear hself
      go_wp2_with fail
      refine (heapLen (w.heap.size + 1) _ (k + 1) cap' w3 hq3).mono ?_
      rintro e w4 ⟨rfl, rfl⟩
      go_wp2_with fail
      refine (heapEntry (w.heap.size + 1) g' (k + 1) cap' k _ w3 hq3 (by omega) hent).mono ?_
      rintro e w4 ⟨rfl, rfl⟩
      go_wp2_with fail
      refine (holdPlace wr.heap.size (numAt number k) (k + 1) w3 HS.out).mono ?_
      rintro e w4 ⟨rfl, rfl⟩
      go_wp2_with fail
      refine (holdNumber wr.heap.size (numAt number k) (k + 1) w3 HS.out).mono ?_
      rintro e w4 ⟨rfl, rfl⟩
      unfold numAt
      go_wp2
      go_roundw
      case rel => exact ⟨k + 1, g', cap', H', hlt, by go_num, I3, by omega⟩
      case measure => simp [intOf]; omega
    · obtain rfl : k = n := by omega
      have hq3 := cell_of_one I.hq
      go_wp2_with fail
      refine (heapLen (w.heap.size + 1) _ k cap wr hq3).mono ?_
      rintro e w4 ⟨rfl, rfl⟩
      go_wp2_with fail
      go_loop [10, 11] (fun i _ => ∃ m : Nat, m ≤ k ∧ i = .int .i64 m) (fun i _ => k - (intOf i).toNat)
      case atStart => exact ⟨0, Nat.zero_le _, rfl⟩
      case round =>
        obtain ⟨m, hm, rfl⟩ := hrel
        by_cases hlt2 : m < k
        · have hself := I.holds m hlt2
          have hent := I.entry m hlt2
          have HS : Hid (HoldAt wr (H m) (numAt number m) (m + 1)) := hself
          clear hself
          go_wp2_with fail
          refine (heapEntry (w.heap.size + 1) g k cap m _ wr hq3 hlt2 hent).mono ?_
          rintro e w4 ⟨rfl, rfl⟩
          go_wp2_with fail
          refine (holdPlace (H m) (numAt number m) (m + 1) wr HS.out).mono ?_
          rintro e w4 ⟨rfl, rfl⟩
          go_wp2_with fail
          refine (holdNumber (H m) (numAt number m) (m + 1) wr HS.out).mono ?_
          rintro e w4 ⟨rfl, rfl⟩
          unfold numAt
          go_wp2
          go_round
          case rel => exact ⟨m + 1, hlt2, by go_num⟩
          case measure => simp [intOf]; omega
        · go_wp2
          go_ret
          exact ⟨rfl, I.below⟩

set_option maxHeartbeats 400000 in
theorem push_all (n stale number : Int) (w : World) :
    Calls Try.prog 8 #[.int .i64 n, .int .i64 stale, .int .u64 number] w fun e w' => e = .returned (.bool true) ∧ Below w.heap.size w w' := by
  by_cases h1 : n < 0
  · go_enter Try.func8, Try.ntmps8
    go_wp2
    go_ret
    exact ⟨rfl, Below.refl _ _⟩
  by_cases h2 : 65536 < n
  · go_enter Try.func8, Try.ntmps8
    go_wp2
    go_ret
    exact ⟨rfl, Below.refl _ _⟩
  obtain ⟨m, rfl⟩ := Int.eq_ofNat_of_zero_le (show 0 ≤ n by omega)
  exact push_main m stale number w (by omega)
end Go.Proofs.Qxb6609224a
