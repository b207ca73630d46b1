import Derived.Test.Qxb6609224aRlSearch
namespace Go.Proofs.Qxb6609224a.Rl
open Go.RowKit
section
variable {B : Nat} {w : World} {rb pb mb : Nat} {d : Dat} {F : Nat → Prop}

theorem St.drewN (h : St B w rb pb mb d F) (n : Nat) : St B (w.drewN n) rb pb mb d F := h.keep (fun _ _ _ => rfl)

set_option maxRecDepth 100000 in
set_option maxHeartbeats 1000000 in
theorem pathRelease (i : Int) (h : St B w rb pb mb d F) (hn : d.stops.length ≤ 1048576) (hs : d.stops.Pairwise (· ≤ ·)) (hi : i ∈ d.stops) (hi0 : 0 ≤ i) (hi1 : i ≤ 1048576) :
    Calls Try.prog 52 #[.pointer (some ⟨pb, 0, none⟩), .int .i64 i] w fun e w' => e = .returned (.tuple #[]) ∧ St B w' rb pb mb { d with stops := drop1 d.stops i } (grow F w w') ∧ Fr w w' F := by
  obtain ⟨LV, SV, BV, TV, hA, hf⟩ := h
  obtain ⟨-, -, -, p3, -, pf⟩ := hA.pc
  have pf3 := pf 3
  have hpos : 0 < d.stops.length := List.length_pos_of_mem hi
  obtain ⟨g, cap, hv, hg, -⟩ := hA.stop 0 hpos
  subst hv
  have HA : Hid (At B w rb pb mb d LV SV BV (.slice (some ⟨g, 0, none⟩) d.stops.length cap)) := hA
  obtain ⟨hm1, hm2, -⟩ := drop1_at d.stops i hs hi
  have H57 : Hid (Calls Try.prog 57 #[.slice (some ⟨g, 0, none⟩) d.stops.length cap, .int .i64 (i + 1)] w fun e w' => e = .returned (.tuple #[.int .i64 (d.stops.countP (· < i + 1) : Nat), .bool (d.stops.contains (i + 1))]) ∧ ∃ q, w' = w.drewN q) := search57 B g _ cap d.stops (i + 1) w hA.t hs hn
  have hl1 := drop1_length d.stops i hs hi
  have H58 : Hid (∀ q, Calls Try.prog 58 #[.slice (some ⟨g, 0, none⟩) d.stops.length cap, .int .i64 (((d.stops.countP (· < i + 1) : Nat) : Int) - 1), .int .i64 (d.stops.countP (· < i + 1) : Nat)] (w.drewN q) fun e w' => e = .returned (.slice (some ⟨g, 0, none⟩) (d.stops.length - 1) cap) ∧
      w'.ownsRow B 3 1 (.slice (some ⟨g, 0, none⟩) (d.stops.length - 1) cap) (d.stops.length - 1) ((drop1 d.stops i).map (Value.int .i64)) ∧ (w.drewN q).grownBy w' (some g)) := fun q => delete58 B g _ cap _ d.stops (w.drewN q) hA.t hm1 (by omega) hn
  have hnp : pb ≠ g := fun e => (hA.p_ne.2.2.2.2.2.2.1 g rfl).1 e.symm
  have hplt := hA.lt pb (Or.inr (Or.inl rfl))
  generalize hcc : d.stops.countP (· < i + 1) = m at *
  have hms : (1 : Int) ≤ m := by omega
  have hms2 : (m : Int) ≤ 1048576 := by omega
  have HL : Hid ((drop1 d.stops i).length = d.stops.length - 1) := hl1
  clear hA pf hs hi hl1 hcc hm2
  go_enter Try.func52, Try.ntmps52
  go_wp2
  refine wp_loop_rounds 2 ?_
  rw [rounds_succ]
  go_wp2_with (first | (go_at_call 57; refine H57.out.mono ?_; rintro e w' ⟨rfl, q, rfl⟩) | (go_at_call 58; refine (H58.out _).mono ?_))
  rintro e w1 ⟨rfl, hown, hgr⟩
  have far : ∀ b, b < w.heap.size → (Value.slice (some ⟨g, 0, none⟩) d.stops.length cap).ownBlock ≠ some b → w1.heap[b]? = w.heap[b]? := fun b h1 h2 => hgr.block b h1 (Ne.symm h2)
  have hnew := HA.out.newT far (TV' := .slice (some ⟨g, 0, none⟩) (d.stops.length - 1) cap) (drop1 d.stops i) (by rw [HL.out]; exact hown) (fun k hk => Or.inl hk)
  have hfr : Fr w w1 F := ((Fr.refl w F).drewN q).grown (row := some g) hgr (fun k hk => Or.inl (hf k (Or.inr (Or.inr (Or.inr (Or.inr (Or.inr (Or.inr hk))))))))
  have e3 := far pb hplt (fun e => hnp (by simpa [Value.ownBlock] using e.symm))
  have hc2 : w1.cell? ⟨pb, 3, none⟩ = some (.slice (some ⟨g, 0, none⟩) d.stops.length cap) := by
    rw [World.cell?_of_block (w := w) e3]; exact p3
  have hf2 : w1.frozen? ⟨pb, 3, none⟩ = false := by
    rw [World.frozen?_of_block (w := w) e3]; exact pf3
  obtain ⟨p0', p1', -, -, -, -⟩ := hnew.pc
  have q0 : w1.cell? ⟨pb, 0, none⟩ = some (.pointer none) := by rw [World.cell?_of_block (w := w) e3]; exact HA.out.pc.1
  have q1 : w1.cell? ⟨pb, 1, none⟩ = some (.int .i64 0) := by rw [World.cell?_of_block (w := w) e3]; exact HA.out.pc.2.1
  have HN : Hid (At B _ rb pb mb _ LV SV BV _) := hnew
  have HF : Hid (Fr w w1 F) := hfr
  clear hnew hfr far hgr hown p3 pf3 H57 H58 e3 p0' p1'
  have fin : Hid (St B (w1.setCell ⟨pb, 3, none⟩ (.slice (some ⟨g, 0, none⟩) (d.stops.length - 1) cap)) rb pb mb { d with stops := drop1 d.stops i } (grow F w (w1.setCell ⟨pb, 3, none⟩ (.slice (some ⟨g, 0, none⟩) (d.stops.length - 1) cap)))) := ⟨_, _, _, _, HN.out, foot_T hf (fun k hk => Or.inl hk) (fun k hk => HN.out.lt k (Or.inr (Or.inr (Or.inr (Or.inr (Or.inr (Or.inr hk)))))))⟩
  have frf : Hid (Fr w (w1.setCell ⟨pb, 3, none⟩ (.slice (some ⟨g, 0, none⟩) (d.stops.length - 1) cap)) F) := HF.out.setCell _ _ (Or.inl (hf pb (Or.inr (Or.inl rfl))))
  clear HN HF HA
  by_cases h0 : d.stops.length - 1 = 0
  · rw [h0] at fin frf ⊢
    go_wp2_with fail
    go_quiet (fail)
    show Code.rounds Try.prog _ _ 1 _ _
    rw [rounds_succ]
    go_wp2_with fail
    go_end0
    exact ⟨rfl, fin.out.drewN _, frf.out.drewN _⟩
  · have h1 : (0 : Int) < ((d.stops.length - 1 : Nat) : Int) := by omega
    go_wp2_with fail
    refine bodyPost_ret (results_none rfl _ _ _) rfl ?_
    exact ⟨rfl, fin.out, frf.out⟩

set_option maxHeartbeats 1000000 in
theorem heldNone (i : Int) (h : St B w rb pb mb d F) (h0 : d.stops.length = 0) :
    Calls Try.prog 53 #[.agg #[.pointer (some ⟨pb, 0, none⟩), .int .i64 i]] w fun e w' => e = .returned (.int .i64 0) ∧ St B w' rb pb mb d F ∧ Fr w w' (fun _ => False) := by
  have HS : Hid (St B w rb pb mb d F) := h
  obtain ⟨LV, SV, BV, TV, hA, hf⟩ := h
  obtain ⟨p0, p1, -, p3, -, -⟩ := hA.pc
  have hplt := hA.lt pb (Or.inr (Or.inl rfl))
  obtain ⟨a, c, hv⟩ := own_form hA.t
  subst hv
  rw [h0] at p3
  clear hA hf h0
  go_enter Try.func53, Try.ntmps53
  go_wp2_with fail
  go_quiet (fail)
  go_wp2_with fail
  refine wp_loop_rounds 2 ?_
  rw [rounds_succ]
  go_wp2_with fail
  go_quiet (fail)
  show Code.rounds Try.prog _ _ 1 _ _
  rw [rounds_succ]
  go_wp2_with fail
  go_ret
  exact ⟨rfl, (HS.out.keep (fun b hb _ => Below.heap_alloc _ _ _ hb)).drewN _, ((Fr.refl w _).alloc _).drewN _⟩

set_option maxHeartbeats 1000000 in
theorem heldSome (i : Int) (j : Nat) (h : St B w rb pb mb d F) (h0 : 0 < d.stops.length) (hn : d.stops.length ≤ 1048576) (hj : j < d.blocks.length) (hm : (j : Int) = min i (top d.stops)) :
    Calls Try.prog 53 #[.agg #[.pointer (some ⟨pb, 0, none⟩), .int .i64 i]] w fun e w' => e = .returned (.int .i64 (d.blocks[j]).2.1) ∧ St B w' rb pb mb d F ∧ Fr w w' (fun _ => False) := by
  have HS : Hid (St B w rb pb mb d F) := h
  obtain ⟨LV, SV, BV, TV, hA, hf⟩ := h
  obtain ⟨-, -, p2, p3, -, -⟩ := hA.pc
  obtain ⟨g, cap, hv, -, -, c1, -, -⟩ := hA.blk j hj
  subst hv
  obtain ⟨gt, ct, hv, -, c2⟩ := hA.stop (d.stops.length - 1) (by omega)
  subst hv
  have hplt := hA.lt pb (Or.inr (Or.inl rfl))
  have hglt : g < w.heap.size := hA.lt g (Or.inr (Or.inr (Or.inr (Or.inr (Or.inr (Or.inl rfl))))))
  have htlt : gt < w.heap.size := hA.lt gt (Or.inr (Or.inr (Or.inr (Or.inr (Or.inr (Or.inr rfl))))))
  rw [top_eq _ h0] at hm
  generalize d.stops[d.stops.length - 1]'(by omega) = s at c2 hm
  generalize (d.blocks[j]).2.1 = u at c1 ⊢
  have e1 : ((d.stops.length - 1 : Nat) : Int) = (d.stops.length : Int) - 1 := by omega
  have hpos : (0 : Int) < d.stops.length := by omega
  have hjn : min i s < d.blocks.length := by omega
  have hj0 : 0 ≤ min i s := by omega
  rw [show j = (min i s).toNat by omega] at c1
  clear hA hf h0 hm hj
  go_enter Try.func53, Try.ntmps53
  go_wp2_with fail
  go_quiet (fail)
  go_wp2_with fail
  refine wp_loop_rounds 1 ?_
  rw [rounds_succ]
  go_wp2_with fail
  go_region
  go_wp2_with fail
  go_ret
  exact ⟨rfl, (HS.out.keep (fun b hb _ => Below.heap_alloc _ _ _ hb)).drewN _, ((Fr.refl w _).alloc _).drewN _⟩
end
end Go.Proofs.Qxb6609224a.Rl
