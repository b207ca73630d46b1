import Derived.Test.Qxb6609224aRlPop
namespace Go.Proofs.Qxb6609224a.Rl
open Go.RowKit
section
variable {B : Nat} {w : World} {rb pb mb : Nat} {d : Dat} {F : Nat → Prop}

/-- The tokens up to the last of these blocks. -/
def lastEnd (l : List (Int × Int × Int)) : Int := (l.getLast?.map (·.2.1)).getD 0
theorem lastEnd_take (l : List (Int × Int × Int)) (i : Nat) (h : i < l.length) : lastEnd (l.take (i + 1)) = (l[i]).2.1 := by
  unfold lastEnd
  rw [List.getLast?_eq_getElem?, List.length_take, List.getElem?_take, if_pos (by omega), List.getElem?_eq_getElem (by omega)]
  simp [show min (i + 1) l.length - 1 = i by omega]

set_option maxHeartbeats 400000 in
theorem start60 (i : Nat) (h : St B w rb pb mb d F) (hi : i ≤ d.blocks.length) (hn : d.blocks.length ≤ 1048576) :
    Calls Try.prog 60 #[.pointer (some ⟨pb, 0, none⟩), .int .i64 i] w fun e w' => e = .returned (.int .i64 (lastEnd (d.blocks.take i))) ∧ w = w' := by
  obtain ⟨LV, SV, BV, TV, hA, hf⟩ := h
  obtain ⟨p0, -, p2, -, -, -⟩ := hA.pc
  cases i with
  | zero =>
    clear hA hf p2
    go_enter Try.func60, Try.ntmps60
    go_wp2
    go_ret
    exact ⟨by simp [lastEnd], rfl⟩
  | succ i =>
    obtain ⟨g, cap, hv, -, -, c1, -, -⟩ := hA.blk i (by omega)
    subst hv
    rw [lastEnd_take _ _ (by omega)]
    generalize (d.blocks[i]'(by omega)).2.1 = u at c1 ⊢
    have hb : (i : Int) < d.blocks.length := by omega
    have hb2 : (i : Int) ≤ 1048576 := by omega
    clear hA hf p0
    go_enter Try.func60, Try.ntmps60
    go_wp2
    go_ret
    exact ⟨rfl, rfl⟩

theorem eql82 (w : World) (a : Option Addr) (n c n' c' : Nat) : (binOp .eql 82 (.slice a n c) (.slice none n' c')).run Try.prog w = .ok (.bool a.isNone) w := Lib.run_eql_slice_nil w _ _ a n c n' c' Try.underlying82

set_option maxHeartbeats 1000000 in
theorem clone61 (g n cap : Nat) (w : World) (bl : List (Int × Int × Int)) (hn : n ≤ 1048576) (ho : w.ownsRow B 86 4 (.slice (some ⟨g, 0, none⟩) n cap) n (blkCells bl)) :
    Calls Try.prog 61 #[.slice (some ⟨g, 0, none⟩) n cap] w fun e w' => ∃ v', e = .returned v' ∧ w'.ownsRow w.heap.size 86 4 v' n (blkCells bl) ∧ Below w.heap.size w w' := by
  obtain ⟨i0, hi, hz0, hz1, hz2⟩ := info_parts info86
  have q82 := eql82
  have hlen : bl.length = n := by have := ho.1; rw [blkCells_length] at this; omega
  have HO : Hid (w.ownsRow B 86 4 (.slice (some ⟨g, 0, none⟩) n cap) n (blkCells bl)) := ho
  clear ho
  go_enter Try.func61, Try.ntmps61
  go_wp2_with (at_builtin; refine wpList_append_own _ rfl _ _ 82 rfl w.heap.size 86 i0 _ 4 32 Try.underlying82 hi hz0 hz1 hz2 rfl (by decide) _ _ _ rfl (World.ownsRow_made w #[] 0 (Nat.le_refl _) (Nat.zero_le _) rfl) ⟨g, 0, none⟩ n cap (blkCells bl) rfl ?qc1 ?qc2 ?qc3 ?qc4 ?qc5 ?qc6 ?_)
  case qc1 => rw [blkCells_length, hlen]
  case qc2 =>
    intro j u hj
    have hjl : j < n * 4 := by
      have := (List.getElem?_eq_some_iff.1 hj).1
      rw [blkCells_length, hlen] at this; exact this
    rw [Addr.add_lit, Nat.zero_add]
    refine Lib.cell?_alloc_some _ ?_
    rw [HO.out.cellAt j hjl]; exact hj
  case qc3 =>
    intro u hu
    obtain ⟨b, _, hb⟩ := List.mem_flatMap.1 hu
    simp only [blkCell, List.mem_cons, List.mem_nil_iff, or_false] at hb
    rcases hb with rfl | rfl | rfl | rfl <;> rfl
  case qc4 => unfold maxLen; omega
  case qc5 => omega
  case qc6 => simp
  intro v' w1 hown hgrow hnil
  go_wp2
  go_ret
  refine ⟨v', rfl, by simpa using hown, ?_⟩
  exact ((Below.refl _ w).alloc (Nat.le_refl _) _).grown hgrow (by simp) (by intro k hk; simp [Value.ownBlock] at hk; omega)
end
end Go.Proofs.Qxb6609224a.Rl
