import Derived.Test.Qxb6609224aPuParts
import Derived.Deep.DeepMust
namespace Go.Proofs.Qxb6609224a
open Go.RowKit

theorem info68 : (Try.prog.info? 68).map (fun i => (i.zero, i.size, i.bytes)) = some (some (.pointer none), 1, 8) := by kernel_rfl

theorem assert68 (x : Value) (w : World) : (Instr.typeAssert (.iface 68 x) 20 68 false).run Try.prog w = .ok x w := by kernel_rfl

/-- What a push leaves. -/
structure Pushed (B q hb k : Nat) (v : Value) (xs : List Value) (num : Int) (w w' : World) : Prop where
  own : ∃ g cap, w'.heap[q]? = some (.cells #[.slice (some ⟨g, 0, none⟩) (k + 1) cap] 105 (0, 0)) ∧ w'.ownsRow B 68 1 (.slice (some ⟨g, 0, none⟩) (k + 1) cap) (k + 1) (xs ++ [.pointer (some ⟨hb, 0, none⟩)])
  hold : HoldAt w' hb num (k + 1)
  rest : ∀ b, b < w.heap.size → b ≠ q → b ≠ hb → v.ownBlock ≠ some b → w'.heap[b]? = w.heap[b]?
  below : Below B w w'

set_option maxRecDepth 100000 in
set_option maxHeartbeats 1000000 in
theorem push48 (B q hb g cap k : Nat) (xs : List Value) (num a0 : Int) (w : World) (hq : w.heap[q]? = some (.cells #[.slice (some ⟨g, 0, none⟩) k cap] 105 (0, 0))) (hown : w.ownsRow B 68 1 (.slice (some ⟨g, 0, none⟩) k cap) k xs)
    (hh : HoldAt w hb num a0) (hk : k ≤ 65536) (hBq : B ≤ q) (hBh : B ≤ hb) :
    Calls Try.prog 48 #[.pointer (some ⟨q, 0, none⟩), .iface 68 (.pointer (some ⟨hb, 0, none⟩))] w fun e w' => e = .returned (.tuple #[]) ∧ Pushed B q hb k (.slice (some ⟨g, 0, none⟩) k cap) xs num w w' := by
  have c33 := hh.c33
  have f33 := hh.f33
  have cq : w.cell? ⟨q, 0, none⟩ = some (.slice (some ⟨g, 0, none⟩) k cap) := by rw [cell_of_row _ _ _ _ _ _ hq]; rfl
  have fq : w.frozen? ⟨q, 0, none⟩ = false := frozen_of_row _ _ _ _ _ hq
  have hqlt : q < w.heap.size := (Array.getElem?_eq_some_iff.1 hq).1
  have hhlt := hh.lt
  have hne : ¬ hb = q := by
    intro e; subst e
    obtain ⟨cur, h1, _⟩ := hh
    rw [h1] at hq; simp at hq
  obtain ⟨i0, hi, hz0, hz1, hz2⟩ := info_parts info68
  have HO : Hid _ := hown
  have HH : Hid (HoldAt w hb num a0) := hh
  have HQ : Hid _ := hq
  clear hown hh hq
  have hta := assert68 (.pointer (some ⟨hb, 0, none⟩))
  have hgh : ¬ g = hb ∧ ¬ g = q ∧ B ≤ g ∧ g < w.heap.size := by
    rcases HO.out.2 with ⟨h, _⟩ | ⟨g', cap', cur, h, hb', hg, _⟩
    · simp at h
    · simp only [Value.slice.injEq, Option.some.injEq, Addr.mk.injEq, and_true, true_and] at h
      obtain ⟨rfl, rfl⟩ := h
      refine ⟨?_, ?_, hb', (Array.getElem?_eq_some_iff.1 hg).1⟩
      · intro e; subst e
        obtain ⟨c, h1, _⟩ := HH.out
        rw [h1] at hg; simp at hg
      · intro e; subst e
        rw [HQ.out] at hg; simp at hg
  obtain ⟨n1, n2, n3, n4⟩ := hgh
  go_enter Try.func48, Try.ntmps48
  go_wp2_with (at_builtin; go_must (refine wpList_append_lies _ rfl (.tmp 18) (.tmp 20) 105 rfl B 68 i0 (.pointer none) 1 8 Try.underlying105 hi hz0 hz1 hz2 rfl (by decide) (.slice (some ⟨g, 0, none⟩) k cap) k xs rfl ?hown ⟨w.heap.size, 0, none⟩ 1 1 [.pointer (some ⟨hb, 0, none⟩)] rfl rfl ?c1 ?c2 (by decide) ?c3 ?c4 ?c5 (w.heap.size + 1) ?c6 ?_))
  case hown => exact (ownsRow_setCell_other HO.out (by simp [Value.ownBlock]; exact n1) _).alloc _
  case c1 =>
    intro j u hu
    have := cell_one_new (w.setCell ⟨hb, 33, none⟩ (.int .i64 (↑k + 1))) (.pointer (some ⟨hb, 0, none⟩)) 68 j u hu
    simpa using this
  case c2 => simp [Value.oneCell']
  case c3 => unfold maxLen; omega
  case c4 => omega
  case c5 => simp; omega
  case c6 => simp
  intro g' cap' w1 hown' hgrow hat hlt
  have far : ∀ b, b < w.heap.size → b ≠ g → b ≠ hb → w1.heap[b]? = w.heap[b]? := by
    intro b hb1 hb2 hb3
    rw [hgrow.block b (by simp; omega) (by simp [Value.ownBlock]; omega), Below.heap_alloc _ _ _ (by simp; exact hb1), Below.heap_setCell _ _ _ _ (by exact hb3)]
  have hq1 : w1.heap[q]? = some (.cells #[.slice (some ⟨g, 0, none⟩) k cap] 105 (0, 0)) := (far q hqlt (by omega) (by omega)).trans HQ.out
  have hh1 : HoldAt w1 hb num (k + 1) := by
    refine (HH.out.set (k + 1)).keep ?_
    rw [hgrow.block hb (by simp; omega) (by simp [Value.ownBlock]; omega), Below.heap_alloc _ _ _ (by simp; exact hhlt)]
  have bel : Below B w w1 := (((Below.refl B w).setCell (p := ⟨hb, 33, none⟩) hBh _).alloc (by simp; omega) _).grown hgrow (by simp; omega) (fun x hx => by simp [Value.ownBlock] at hx; omega)
  have g'q : ¬ g' = q := by
    rcases hat with h | h
    · simp [Value.ownBlock] at h; omega
    · omega
  have hqc := cell_of_one hq1
  have hqf := free_of_one hq1
  have HQ1 : Hid _ := hq1
  have HO1 : Hid _ := hown'
  have HF : Hid _ := far
  have HH1 : Hid (HoldAt w1 hb num (k + 1)) := hh1
  have BEL : Hid _ := bel
  clear far hq1 hown' hgrow hat hh1 bel cq fq c33 f33
  go_wp2
  go_end0
  refine ⟨rfl, ⟨⟨g', cap', one_setCell HQ1.out, ownsRow_setCell_other HO1.out (by simp [Value.ownBlock]; exact g'q) _⟩, HH1.out.keep (Below.heap_setCell _ _ _ _ hne), ?_, BEL.out.setCell hBq _⟩⟩
  intro b hb1 hb2 hb3 hb4
  rw [Below.heap_setCell _ _ _ _ hb2]
  exact HF.out b hb1 (by intro e; subst e; exact hb4 rfl) hb3

set_option maxHeartbeats 400000 in
theorem push38 (B q hb g cap k : Nat) (xs : List Value) (num a0 : Int) (w : World) (hq : w.heap[q]? = some (.cells #[.slice (some ⟨g, 0, none⟩) k cap] 105 (0, 0))) (hown : w.ownsRow B 68 1 (.slice (some ⟨g, 0, none⟩) k cap) k xs)
    (hh : HoldAt w hb num a0) (hk : k ≤ 65536) (hBq : B ≤ q) (hBh : B ≤ hb) :
    Calls Try.prog 38 #[.pointer (some ⟨q, 0, none⟩), .pointer (some ⟨hb, 0, none⟩)] w fun e w' => e = .returned (.tuple #[]) ∧ Pushed B q hb k (.slice (some ⟨g, 0, none⟩) k cap) xs num w w' := by
  have H := push48 B q hb g cap k xs num a0 w hq hown hh hk hBq hBh
  clear hq hown hh
  go_enter Try.func38, Try.ntmps38
  go_wp2_with fail
  refine H.mono ?_
  rintro e w' ⟨rfl, hp⟩
  go_wp2
  go_end0
  exact ⟨rfl, hp⟩
end Go.Proofs.Qxb6609224a
