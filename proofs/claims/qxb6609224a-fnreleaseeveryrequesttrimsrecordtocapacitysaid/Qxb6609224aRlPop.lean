import Derived.Test.Qxb6609224aRlRel
namespace Go.Proofs.Qxb6609224a.Rl
open Go.RowKit
section
variable {B : Nat} {w : World} {rb pb mb : Nat} {d : Dat} {F : Nat → Prop}

theorem same_heap (w : World) (b o : Nat) (cur : Array Value) (t : TypeId) (v : Value) (h : w.heap[b]? = some (.cells cur t (0, 0))) (hv : cur[o]? = some v) : ∀ k : Nat, (w.setCell ⟨b, o, none⟩ v).heap[k]? = w.heap[k]? := by
  intro k
  by_cases e : k = b
  · subst e
    rw [heap_setCell_same w k o cur t v h, h]
    have : cur.setIfInBounds o v = cur := by
      apply Array.ext_getElem?
      intro j
      by_cases ej : j = o
      · subst ej
        have hlt : j < cur.size := by
          rcases Nat.lt_or_ge j cur.size with h | h
          · exact h
          · rw [Array.getElem?_eq_none h] at hv; cases hv
        rw [Array.getElem?_setIfInBounds_self_of_lt hlt, hv]
      · rw [Array.getElem?_setIfInBounds_ne (Ne.symm ej)]
    rw [this]
  · exact Below.heap_setCell _ _ _ _ e

theorem same_step {w w1 : World} {b o : Nat} {cur : Array Value} {t : TypeId} {v : Value} (hk : ∀ k : Nat, w1.heap[k]? = w.heap[k]?) (h : w.heap[b]? = some (.cells cur t (0, 0))) (hv : cur[o]? = some v) : ∀ k : Nat, (w1.setCell ⟨b, o, none⟩ v).heap[k]? = w.heap[k]? :=
  fun k => (same_heap w1 b o cur t v ((hk b).trans h) hv k).trans (hk k)

/-- What stands in the row of leaves, where the path is a leaf. -/
theorem At.leafRow {LV SV BV TV : Value} (h : At B w rb pb mb d LV SV BV TV) (hl : d.leaf = true) : ∃ g cap cur, LV = .slice (some ⟨g, 0, none⟩) 1 cap ∧ B ≤ g ∧ 1 ≤ cap ∧ cap ≤ maxLen ∧ w.heap[g]? = some (.cells cur 29 (0, 0)) ∧ cur.size = cap * 1 ∧ cur[0]? = some (.pointer (some ⟨pb, 0, none⟩)) := by
  have ho := h.l
  rw [hl] at ho
  simp only [if_true] at ho
  rcases ho.2 with ⟨_, h0⟩ | ⟨g, cap, cur, hv, hb, hg, hnc, hcm, hcs, htake⟩
  · simp at h0
  · refine ⟨g, cap, cur, hv, hb, hnc, hcm, hg, hcs, ?_⟩
    have := congrArg (fun l => l[0]?) htake
    simpa [List.getElem?_take] using this

set_option maxHeartbeats 1000000 in
theorem swap00 {LV SV BV TV : Value} (hA : At B w rb pb mb d LV SV BV TV) (hl : d.leaf = true) :
    Calls Try.prog 99 #[LV, .int .i64 0, .int .i64 0] w fun e w' => e = .returned (.tuple #[]) ∧ (∀ k : Nat, w'.heap[k]? = w.heap[k]?) ∧ Fr w w' (fun _ => False) := by
  obtain ⟨g, cap, cur, rfl, -, hc1, -, hg, hcs, h0⟩ := hA.leafRow hl
  have hgp : ¬ g = pb := (hA.p_ne.2.2.2.1 g rfl).1
  have hpg : ¬ pb = g := fun e => hgp e.symm
  have c0 : w.cell? ⟨g, 0, none⟩ = some (.pointer (some ⟨pb, 0, none⟩)) := by rw [cell_of_row _ _ _ _ _ _ hg]; exact h0
  have f0 : w.frozen? ⟨g, 0, none⟩ = false := frozen_of_row _ _ _ _ _ hg
  obtain ⟨-, -, -, -, p4, pf⟩ := hA.pc
  have pf4 := pf 4
  rw [hl] at p4
  simp only [if_true] at p4
  have hp := hA.p
  rw [hl] at hp
  have HP : Hid (w.heap[pb]? = some (.cells #[.pointer none, .int .i64 0, BV, TV, .int .i64 0] 84 (0, 0))) := hp
  have HG : Hid (w.heap[g]? = some (.cells cur 29 (0, 0))) := hg
  clear pf hA hp hg hl
  go_enter Try.func99, Try.ntmps99
  go_wp2_with fail
  go_region
  go_wp2_with fail
  go_region
  go_wp2_with fail
  go_end0
  have K := same_step (o := 4) (v := .int .i64 0) (same_step (o := 4) (v := .int .i64 0) (same_step (same_step (fun k => rfl) HG.out h0) HG.out h0) HP.out rfl) HP.out rfl
  exact ⟨rfl, K, ⟨rfl, rfl, rfl, by show _ ≤ (World.heap (World.setCell _ _ _)).size; simp, fun b _ _ => K b⟩⟩

set_option maxHeartbeats 400000 in
theorem down00 (x : Value) : Calls Try.prog 56 #[x, .int .i64 0, .int .i64 0] w fun e w' => e = .returned (.bool false) ∧ w = w' := by
  go_enter Try.func56, Try.ntmps56
  go_wp2
  refine wp_loop_rounds 1 ?_
  rw [rounds_succ]
  go_wp2
  go_ret
  exact ⟨rfl, rfl⟩

/-- The path is taken from the leaves. -/
theorem At.popL {g cap : Nat} {SV BV TV : Value} (hA : At B w rb pb mb d (.slice (some ⟨g, 0, none⟩) 1 cap) SV BV TV) (hl : d.leaf = true) :
    At B ((w.setCell ⟨pb, 4, none⟩ (.int .i64 (-1))).setCell ⟨rb, 3, none⟩ (.slice (some ⟨g, 0, none⟩) 0 cap)) rb pb mb { d with leaf := false } (.slice (some ⟨g, 0, none⟩) 0 cap) SV BV TV := by
  obtain ⟨n1, n2, n3, nl, ns, nb, nt, nbo, nto⟩ := hA.p_ne
  have keep : ∀ b, b ≠ rb → b ≠ pb → ((w.setCell ⟨pb, 4, none⟩ (.int .i64 (-1))).setCell ⟨rb, 3, none⟩ (.slice (some ⟨g, 0, none⟩) 0 cap)).heap[b]? = w.heap[b]? := fun b h3 h4 => (Below.heap_setCell _ _ _ _ h3).trans (Below.heap_setCell _ _ _ _ h4)
  obtain ⟨es, clock, m, hm⟩ := hA.m
  have hr1 := (Below.heap_setCell w ⟨pb, 4, none⟩ (.int .i64 (-1)) rb n1).trans hA.r
  have hp1 := heap_setCell_same w pb 4 _ 84 (.int .i64 (-1)) hA.p
  refine ⟨heap_setCell_same _ rb 3 _ 81 _ hr1, (Below.heap_setCell _ _ _ _ (Ne.symm n1)).trans hp1, ⟨es, clock, (keep mb n3 n2).trans m, hm⟩, ?_, ?_, ?_, ?_, ?_, hA.Br, hA.Bp, hA.Bm⟩
  · have ho := hA.l
    rw [hl] at ho
    simp only [if_true] at ho
    rcases ho.2 with ⟨h, _⟩ | ⟨g', cap', cur, h, hb, hg, hnc, hcm, hcs, htake⟩
    · simp at h
    · simp only [Value.slice.injEq, Option.some.injEq, Addr.mk.injEq, and_true, true_and] at h
      obtain ⟨rfl, rfl⟩ := h
      refine ⟨rfl, Or.inr ⟨g, cap, cur, rfl, hb, (keep g (nl g rfl).2.1 (nl g rfl).1).trans hg, Nat.zero_le _, hcm, hcs, by simp⟩⟩
  · exact own_keep hA.s (fun k hk => keep k (ns k hk).2.1 (ns k hk).1)
  · exact own_keep hA.b (fun k hk => keep k (nb k hk).2.1 (nb k hk).1)
  · exact own_keep hA.t (fun k hk => keep k (nt k hk).2.1 (nt k hk).1)
  · exact fun k hk => hA.ls k hk

set_option maxHeartbeats 1000000 in
theorem leavesPop (h : St B w rb pb mb d F) (hl : d.leaf = true) :
    Calls Try.prog 104 #[.pointer (some ⟨rb, 3, none⟩)] w fun e w' => e = .returned (.iface 29 (.pointer (some ⟨pb, 0, none⟩))) ∧ St B w' rb pb mb { d with leaf := false } F ∧ Fr w w' F := by
  obtain ⟨LV, SV, BV, TV, hA, hf⟩ := h
  obtain ⟨g, cap, cur, rfl, -, hc1, -, hg, hcs, h0⟩ := hA.leafRow hl
  have c0 : w.cell? ⟨g, 0, none⟩ = some (.pointer (some ⟨pb, 0, none⟩)) := by rw [cell_of_row _ _ _ _ _ _ hg]; exact h0
  obtain ⟨-, -, -, -, p4, pf⟩ := hA.pc
  obtain ⟨-, -, -, r3, -, -, rf⟩ := hA.rc
  have pf4 := pf 4
  have rf3 := rf 3
  have hrp : ¬ rb = pb := hA.p_ne.1
  have hpr : ¬ pb = rb := fun e => hrp e.symm
  have HN : Hid (At B _ rb pb mb _ _ SV BV TV) := hA.popL hl
  clear hA pf rf hg h0 hcs hl
  go_enter Try.func104, Try.ntmps104
  go_wp2
  go_ret
  exact ⟨rfl, ⟨_, _, _, _, HN.out, hf⟩, ((Fr.refl w F).setCell _ _ (Or.inl (hf pb (Or.inr (Or.inl rfl))))).setCell _ _ (Or.inl (hf rb (Or.inl rfl)))⟩

theorem methodPop (a : Addr) (w : World) : (method 362 120 (.pointer (some a)) "Pop").run Try.prog w = .ok (104, .pointer (some a)) w := by kernel_rfl

set_option maxRecDepth 100000 in
set_option maxHeartbeats 1000000 in
theorem heapPop (h : St B w rb pb mb d F) (hl : d.leaf = true) :
    Calls Try.prog 59 #[.iface 120 (.pointer (some ⟨rb, 3, none⟩))] w fun e w' => e = .returned (.iface 29 (.pointer (some ⟨pb, 0, none⟩))) ∧ St B w' rb pb mb { d with leaf := false } F ∧ Fr w w' F := by
  obtain ⟨LV, SV, BV, TV, hA, hf⟩ := h
  obtain ⟨g, cap, cur, rfl, -, hc1, -, hg, hcs, h0⟩ := hA.leafRow hl
  obtain ⟨-, -, -, r3, -, -, -⟩ := hA.rc
  have hm1 := methodLen ⟨rb, 3, none⟩ _ w r3
  have hm2 := methodSwap ⟨rb, 3, none⟩ _ w r3
  have hm3 := methodPop ⟨rb, 3, none⟩
  have HSW : Hid (Calls Try.prog 99 #[.slice (some ⟨g, 0, none⟩) 1 cap, .int .i64 0, .int .i64 0] w fun e w' => e = .returned (.tuple #[]) ∧ (∀ k : Nat, w'.heap[k]? = w.heap[k]?) ∧ Fr w w' (fun _ => False)) := swap00 hA hl
  have HS : Hid (St B w rb pb mb d F) := ⟨_, _, _, _, hA, hf⟩
  have HP : Hid (∀ w1, St B w1 rb pb mb d F → Calls Try.prog 104 #[.pointer (some ⟨rb, 3, none⟩)] w1 fun e w' => e = .returned (.iface 29 (.pointer (some ⟨pb, 0, none⟩))) ∧ St B w' rb pb mb { d with leaf := false } F ∧ Fr w1 w' F) := fun w1 h1 => leavesPop h1 hl
  clear hA hf hl hg h0 hcs r3
  go_enter Try.func59, Try.ntmps59
  go_wp2_with (first | (go_at_call 99; refine HSW.out.mono ?_; rintro e w1 ⟨rfl, K, hfr⟩; clear hm1 hm2; have HK : Hid (∀ k : Nat, w1.heap[k]? = w.heap[k]?) := K; clear K) | (go_at_call 56; refine (down00 _).mono ?_; rintro e w' ⟨rfl, rfl⟩) | (go_at_call 104; refine (HP.out _ (HS.out.keep (fun b _ _ => HK.out b))).mono ?_; rintro e w2 ⟨rfl, hs2, hf2⟩) | go_in)
  go_ret
  refine ⟨rfl, hs2, ?_⟩
  exact (hfr.mono (fun b hb => hb.elim)).trans (hf2.mono (fun b hb => Or.inl hb))
end
end Go.Proofs.Qxb6609224a.Rl
