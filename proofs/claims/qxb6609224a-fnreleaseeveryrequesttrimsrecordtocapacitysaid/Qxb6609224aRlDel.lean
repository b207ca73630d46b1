import Derived.Test.Qxb6609224aRlSlices
namespace Go.Proofs.Qxb6609224a.Rl
open Go.RowKit

set_option maxHeartbeats 2000000 in
set_option maxRecDepth 1000000 in
theorem delete58 (B g n cap m : Nat) (S : List Int) (w : World) (ho : w.ownsRow B 3 1 (.slice (some ⟨g, 0, none⟩) n cap) n (S.map (Value.int .i64))) (hm : 1 ≤ m) (hmn : m ≤ n) (hn : n ≤ 1048576) :
    Calls Try.prog 58 #[.slice (some ⟨g, 0, none⟩) n cap, .int .i64 ((m : Int) - 1), .int .i64 m] w fun e w' => e = .returned (.slice (some ⟨g, 0, none⟩) (n - 1) cap) ∧
      w'.ownsRow B 3 1 (.slice (some ⟨g, 0, none⟩) (n - 1) cap) (n - 1) ((S.eraseIdx (m - 1)).map (Value.int .i64)) ∧ w.grownBy w' (some g) := by
  obtain ⟨i0, hi0, hz0, hz1, hz2⟩ := info_parts info3
  have hlen : S.length = n := by have := ho.1; simpa using this
  obtain ⟨i, rfl⟩ : ∃ i, m = i + 1 := ⟨m - 1, by omega⟩
  have HO : Hid (w.ownsRow B 3 1 (.slice (some ⟨g, 0, none⟩) n cap) n (S.map (Value.int .i64))) := ho
  have hthere : n ≤ cap ∧ ∀ j, j < cap → (w.cell? ⟨g, j, none⟩).isSome = true ∧ w.frozen? ⟨g, j, none⟩ = false := by
    rcases ho.2 with ⟨h, _⟩ | ⟨g', cap', cur, h, hb, hg, hnc, hcm, hcs, htake⟩
    · simp at h
    · simp only [Value.slice.injEq, Option.some.injEq, Addr.mk.injEq, and_true, true_and] at h
      obtain ⟨rfl, rfl⟩ := h
      refine ⟨hnc, fun j hj => ⟨?_, frozen_of_row _ _ _ _ _ hg⟩⟩
      rw [cell_of_row _ _ _ _ _ _ hg]; simp; omega
  obtain ⟨hcap, hth⟩ := hthere
  have hcapm : cap ≤ 9223372036854775807 := by
    rcases ho.2 with ⟨h, _⟩ | ⟨g', cap', cur, h, hb, hg, hnc, hcm, hcs, htake⟩
    · simp at h
    · simp only [Value.slice.injEq, Option.some.injEq, Addr.mk.injEq, and_true, true_and] at h
      obtain ⟨rfl, rfl⟩ := h
      unfold maxLen at hcm; omega
  have hcell : ∀ j, j < n → w.cell? ⟨g, j, none⟩ = some (.int .i64 (S[j]?.getD 0)) := fun j hj => by
    rw [ho.cellAt j (by omega), List.getElem?_map, List.getElem?_eq_getElem (show j < S.length by omega)]; rfl
  obtain ⟨A, hA, hnews⟩ : ∃ A : Addr, (if cap = i + 1 then some (⟨g, 0, none⟩ : Addr) else some ⟨g, i + 1, none⟩) = some A ∧ Hid (∀ j u, ((S.drop (i + 1)).map (Value.int .i64))[j]? = some u → w.drew.cell? (A.add j) = some u) := by
    by_cases h : cap = i + 1
    · refine ⟨⟨g, 0, none⟩, by simp [h], fun j u hu => ?_⟩
      have := (List.getElem?_eq_some_iff.1 hu).1
      simp at this; omega
    · refine ⟨⟨g, i + 1, none⟩, by simp [h], fun j u hu => ?_⟩
      have hj : j < n - (i + 1) := by
        have := (List.getElem?_eq_some_iff.1 hu).1
        simp at this; omega
      rw [Addr.add_lit]
      refine (hcell (i + 1 + j) (by omega)).trans ?_
      rw [← hu, List.getElem?_map, List.getElem?_drop, List.getElem?_eq_getElem (show i + 1 + j < S.length by omega)]; rfl
  have s1 : Hid (((S.drop (i + 1)).map (Value.int .i64)).length = (n - (i + 1)) * 1) := by show _ = _; simp; omega
  have s2 : Hid (∀ u ∈ (S.drop (i + 1)).map (Value.int .i64), u.oneCell' = true) := by
    intro u hu
    obtain ⟨x, _, rfl⟩ := List.mem_map.1 hu
    rfl
  have s3 : Hid (∀ j, j < ((S.drop (i + 1)).map (Value.int .i64)).length → (w.drew.cell? ⟨g, 0 + i * 1 + j, none⟩).isSome = true ∧ w.drew.frozen? ⟨g, 0 + i * 1 + j, none⟩ = false) := by
    intro j hj
    have hj' : j < n - (i + 1) := by simp at hj; omega
    rw [show 0 + i * 1 + j = i + j by omega]
    exact hth (i + j) (by omega)
  have hic : i ≤ cap := by omega
  have hin : (i : Int) + 1 ≤ (n : Int) := by omega
  have hcin : (n : Int) ≤ (cap : Int) := by omega
  have hne : ¬ cap = n - 1 := by omega
  have hp0 : (0 : Int) ≤ (i : Int) + 1 := by omega
  have hp2 : ((i : Int) + 1).toNat = i + 1 := by omega
  have hthr2 : ∀ j, j < cap → ((w.drew.setCells g i (List.drop (i + 1) (List.map (Value.int .i64) S))).cell? ⟨g, j, none⟩).isSome = true ∧ (w.drew.setCells g i (List.drop (i + 1) (List.map (Value.int .i64) S))).frozen? ⟨g, j, none⟩ = false := by
    rcases ho.2 with ⟨h, _⟩ | ⟨g', cap', cur, h, hb, hg, hnc, hcm, hcs, htake⟩
    · simp at h
    · simp only [Value.slice.injEq, Option.some.injEq, Addr.mk.injEq, and_true, true_and] at h
      obtain ⟨rfl, rfl⟩ := h
      obtain ⟨c1, h1, z1, g1⟩ := setCells_block g 3 (List.drop (i + 1) (List.map (Value.int .i64) S)) i w.drew cur hg
      intro j hj
      refine ⟨?_, frozen_of_row _ _ _ _ _ h1⟩
      rw [cell_of_row _ _ _ _ _ _ h1]
      simp; omega
  have hcl : (Builtin.clear_ #[24] 0 #[.slice (some ⟨g, i + (n - (i + 1)), none⟩) (n - (i + (n - (i + 1)))) (cap - (i + (n - (i + 1))))]).run Try.prog (w.drew.setCells g i (List.drop (i + 1) (List.map (Value.int .i64) S))) = .ok (.tuple #[]) ((w.drew.setCells g i (List.drop (i + 1) (List.map (Value.int .i64) S))).setCells g (n - 1) [.int .i64 0]) := by
    have q1 : i + (n - (i + 1)) = n - 1 := by omega
    have q2 : n - (n - 1) = 1 := by omega
    rw [q1, q2]
    exact Lib.run_clear_slice (P := Try.prog) _ 24 3 0 (.int .i64 0) Try.underlying24 (fun w => by kernel_rfl) rfl rfl g (n - 1) 1 _ (by omega) (fun j hj => (hthr2 (n - 1 + j) (by omega)).1) (fun j hj => (hthr2 (n - 1 + j) (by omega)).2)
  have hcln : i + (n - (i + 1)) = n - 1 := by omega
  have HCN : Hid (i + (n - (i + 1)) = n - 1) := hcln
  clear ho hth hcell hm hthr2 hcln
  go_enter Try.func58, Try.ntmps58
  go_wp2_with fail
  go_region_law (refine step_append_room rfl (.tmp 22) (.tmp 25) 24 rfl 3 i0 1 Try.underlying24 hi0 hz1 g 0 i cap (by simp [Act.eval, Act.put]) A (n - (i + 1)) (cap - (i + 1)) ((S.drop (i + 1)).map (Value.int .i64)) (by simp [Act.eval, Act.put]) s1.out hnews.out s2.out (by omega) s3.out ?_)
  go_wp2_with fail
  go_ret
  have hd := deleted B g n cap (i + 1) S w.drew HO.out (by omega) (by omega)
  rw [← List.map_drop] at *
  rw [HCN.out]
  refine ⟨rfl, hd, ?_⟩
  have e1 := setCells_grown g ((S.drop (i + 1)).map (Value.int .i64)) i w.drew
  have e2 := setCells_grown g [.int .i64 0] (n - 1) (w.drew.setCells g i ((S.drop (i + 1)).map (Value.int .i64)))
  exact ⟨e2.os.trans e1.os, e2.tape.trans e1.tape, e2.output.trans e1.output, Nat.le_trans e1.size e2.size, fun k hk hne => (e2.block k (Nat.lt_of_lt_of_le hk e1.size) hne).trans (e1.block k hk hne)⟩
end Go.Proofs.Qxb6609224a.Rl
