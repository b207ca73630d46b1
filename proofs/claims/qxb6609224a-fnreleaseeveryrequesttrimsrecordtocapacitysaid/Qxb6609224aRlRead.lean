import Derived.Test.Qxb6609224aRlMap
namespace Go.Proofs.Qxb6609224a.Rl
open Go.RowKit

theorem own_form {w : World} {B : Nat} {e : TypeId} {size : Nat} {v : Value} {n : Nat} {xs : List Value} (h : w.ownsRow B e size v n xs) : ∃ a c, v = .slice a n c := by
  rcases h.2 with ⟨rfl, rfl⟩ | ⟨g, cap, cur, rfl, _⟩
  · exact ⟨none, 0, rfl⟩
  · exact ⟨_, _, rfl⟩

/-- Blocks that belong behind a turn of the stops' row. -/
theorem foot_T {rb pb mb : Nat} {LV SV BV TV TV' : Value} {F : Nat → Prop} {w w' : World} (hf : ∀ b, foot rb pb mb LV SV BV TV b → F b) (ht : ∀ k, TV'.ownBlock = some k → TV.ownBlock = some k ∨ w.heap.size ≤ k) (hlt : ∀ k, TV'.ownBlock = some k → k < w'.heap.size) :
    ∀ b, foot rb pb mb LV SV BV TV' b → grow F w w' b := by
  intro b hb
  rcases hb with hb | hb | hb | hb | hb | hb | hb
  · exact Or.inl (hf b (Or.inl hb))
  · exact Or.inl (hf b (Or.inr (Or.inl hb)))
  · exact Or.inl (hf b (Or.inr (Or.inr (Or.inl hb))))
  · exact Or.inl (hf b (Or.inr (Or.inr (Or.inr (Or.inl hb)))))
  · exact Or.inl (hf b (Or.inr (Or.inr (Or.inr (Or.inr (Or.inl hb))))))
  · exact Or.inl (hf b (Or.inr (Or.inr (Or.inr (Or.inr (Or.inr (Or.inl hb)))))))
  · rcases ht b hb with h | h
    · exact Or.inl (hf b (Or.inr (Or.inr (Or.inr (Or.inr (Or.inr (Or.inr h)))))))
    · exact Or.inr ⟨h, hlt b hb⟩

set_option maxRecDepth 100000 in
set_option maxHeartbeats 1000000 in
theorem appendStop (B : Nat) (w : World) (rb pb mb : Nat) (d : Dat) (F : Nat → Prop) (i : Int) (h : St B w rb pb mb d F) (hk : d.stops.length ≤ 1048576) :
    Calls Try.prog 15 #[.pointer (some ⟨pb, 0, none⟩), .int .i64 i] w fun e w' => e = .returned (.tuple #[]) ∧ St B w' rb pb mb { d with stops := d.stops ++ [i] } (grow F w w') ∧ Fr w w' F := by
  obtain ⟨LV, SV, BV, TV, hA, hf⟩ := h
  obtain ⟨p0, p1, p2, p3, p4, pf⟩ := hA.pc
  have pf3 := pf 3
  have hplt := hA.lt pb (Or.inr (Or.inl rfl))
  obtain ⟨i0, hi, hz0, hz1, hz2⟩ := info_parts info3
  have hBw : B ≤ w.heap.size := Nat.le_of_lt (Nat.lt_of_le_of_lt hA.Bp hplt)
  obtain ⟨ba, bl, hbv⟩ := own_form hA.t
  subst hbv
  have HA : Hid (At B w rb pb mb d LV SV BV (.slice ba d.stops.length bl)) := hA
  clear hA pf p0 p1 p2 p4
  go_enter Try.func15, Try.ntmps15
  go_wp2_with (at_builtin; go_must (refine wpList_append_lies _ rfl (.tmp 8) (.tmp 10) 24 rfl B 3 i0 (.int .i64 0) 1 8 Try.underlying24 hi hz0 hz1 hz2 rfl (by decide) (.slice ba d.stops.length bl) d.stops.length (d.stops.map (Value.int .i64)) rfl ?hown ⟨w.heap.size, 0, none⟩ 1 1 [.int .i64 i] rfl rfl ?c1 ?c2 (by decide) ?c3 ?c4 ?c5 (w.heap.size + 1) ?c6 ?_))
  case hown => exact HA.out.t.alloc _
  case c1 => exact cell_one_new w (.int .i64 i) 3
  case c2 => simp [Value.oneCell']
  case c3 => unfold maxLen; omega
  case c4 => omega
  case c5 => simp; omega
  case c6 => simp
  intro g cap w1 hown' hgrow hat hlt
  have far : ∀ b, b < w.heap.size → (Value.slice ba d.stops.length bl).ownBlock ≠ some b → w1.heap[b]? = w.heap[b]? := fun b h1 h2 => (hgrow.block b (by simp; omega) (Ne.symm h2)).trans (Below.heap_alloc _ _ _ h1)
  have hat' : ∀ k, (Value.slice (some ⟨g, 0, none⟩) (d.stops.length + 1) cap).ownBlock = some k → (Value.slice ba d.stops.length bl).ownBlock = some k ∨ w.heap.size ≤ k := by
    intro k hk
    simp only [Value.ownBlock, Option.some.injEq] at hk
    subst hk
    rcases hat with h | h
    · exact Or.inl h
    · exact Or.inr (by omega)
  have hnew := HA.out.newT far (TV' := .slice (some ⟨g, 0, none⟩) (d.stops.length + 1) cap) (d.stops ++ [i]) (by
    rw [List.map_append, List.length_append]
    simpa using hown') hat'
  have hfr : Fr w w1 F := ((Fr.refl w F).alloc _).grown hgrow (fun k hk => Or.inl (hf k (Or.inr (Or.inr (Or.inr (Or.inr (Or.inr (Or.inr hk))))))))
  have hc2 : w1.cell? ⟨pb, 3, none⟩ = some (.slice ba d.stops.length bl) := by
    rw [World.cell?_of_block (w := w) (far pb hplt (fun e => (HA.out.p_ne.2.2.2.2.2.2.1 pb e).1 rfl))]; exact p3
  have hf2 : w1.frozen? ⟨pb, 3, none⟩ = false := by
    rw [World.frozen?_of_block (w := w) (far pb hplt (fun e => (HA.out.p_ne.2.2.2.2.2.2.1 pb e).1 rfl))]; exact pf3
  have HN : Hid (At B _ rb pb mb _ LV SV BV _) := hnew
  have HF : Hid (Fr w w1 F) := hfr
  have HT : Hid (∀ k, (Value.slice (some ⟨g, 0, none⟩) (d.stops.length + 1) cap).ownBlock = some k → (Value.slice ba d.stops.length bl).ownBlock = some k ∨ w.heap.size ≤ k) := hat'
  clear hnew hfr far hat hat' hgrow hown' p3 pf3
  go_wp2
  go_end0
  have fr2 := HF.out.setCell ⟨pb, 3, none⟩ (.slice (some ⟨g, 0, none⟩) (d.stops.length + 1) cap) (Or.inl (hf pb (Or.inr (Or.inl rfl))))
  refine ⟨rfl, ⟨_, _, _, _, HN.out, foot_T hf HT.out (fun k hk => HN.out.lt k (Or.inr (Or.inr (Or.inr (Or.inr (Or.inr (Or.inr hk))))))) ⟩, fr2⟩

section
variable {B : Nat} {w : World} {rb pb mb : Nat} {d : Dat} {F : Nat → Prop}

set_option maxHeartbeats 400000 in
theorem readEnded (h : St B w rb pb mb d F) : Calls Try.prog 18 #[.pointer (some ⟨rb, 0, none⟩)] w fun e w' => e = .returned (.int .u64 d.ended) ∧ w = w' := by
  obtain ⟨LV, SV, BV, TV, hA, hf⟩ := h
  obtain ⟨_, _, _, _, r4, _⟩ := hA.rc
  clear hA
  go_enter Try.func18, Try.ntmps18
  go_wp2
  go_ret
  exact ⟨rfl, rfl⟩
set_option maxHeartbeats 400000 in
theorem readTokens (h : St B w rb pb mb d F) : Calls Try.prog 20 #[.pointer (some ⟨rb, 0, none⟩)] w fun e w' => e = .returned (.int .i64 d.tokens) ∧ w = w' := by
  obtain ⟨LV, SV, BV, TV, hA, hf⟩ := h
  obtain ⟨_, r1, _⟩ := hA.rc
  clear hA
  go_enter Try.func20, Try.ntmps20
  go_wp2
  go_ret
  exact ⟨rfl, rfl⟩
set_option maxHeartbeats 400000 in
theorem readLen (h : St B w rb pb mb d F) : Calls Try.prog 19 #[.pointer (some ⟨pb, 0, none⟩)] w fun e w' => e = .returned (.int .i64 d.blocks.length) ∧ w = w' := by
  obtain ⟨LV, SV, BV, TV, hA, hf⟩ := h
  obtain ⟨_, _, p2, _⟩ := hA.pc
  obtain ⟨a, c, rfl⟩ := own_form hA.b
  clear hA hf
  go_enter Try.func19, Try.ntmps19
  go_wp2
  go_ret
  exact ⟨rfl, rfl⟩
set_option maxHeartbeats 400000 in
theorem readStops (h : St B w rb pb mb d F) : Calls Try.prog 21 #[.pointer (some ⟨pb, 0, none⟩)] w fun e w' => e = .returned (.int .i64 d.stops.length) ∧ w = w' := by
  obtain ⟨LV, SV, BV, TV, hA, hf⟩ := h
  obtain ⟨_, _, _, p3, _⟩ := hA.pc
  obtain ⟨a, c, rfl⟩ := own_form hA.t
  clear hA hf
  go_enter Try.func21, Try.ntmps21
  go_wp2
  go_ret
  exact ⟨rfl, rfl⟩
set_option maxHeartbeats 400000 in
theorem readLeaves (h : St B w rb pb mb d F) : Calls Try.prog 22 #[.pointer (some ⟨rb, 0, none⟩)] w fun e w' => e = .returned (.int .i64 (if d.leaf then 1 else 0)) ∧ w = w' := by
  obtain ⟨LV, SV, BV, TV, hA, hf⟩ := h
  obtain ⟨_, _, _, r3, _⟩ := hA.rc
  obtain ⟨a, c, rfl⟩ := own_form hA.l
  clear hA hf
  cases hl : d.leaf
  · rw [hl] at r3
    go_enter Try.func22, Try.ntmps22
    go_wp2
    go_ret
    exact ⟨rfl, rfl⟩
  · rw [hl] at r3
    go_enter Try.func22, Try.ntmps22
    go_wp2
    go_ret
    exact ⟨rfl, rfl⟩
set_option maxHeartbeats 400000 in
theorem readSpare (h : St B w rb pb mb d F) : Calls Try.prog 23 #[.pointer (some ⟨rb, 0, none⟩)] w fun e w' => e = .returned (.int .i64 d.spare) ∧ w = w' := by
  obtain ⟨LV, SV, BV, TV, hA, hf⟩ := h
  obtain ⟨_, _, _, _, _, r5, _⟩ := hA.rc
  obtain ⟨a, c, rfl⟩ := own_form hA.s
  clear hA hf
  go_enter Try.func23, Try.ntmps23
  go_wp2
  go_ret
  exact ⟨rfl, rfl⟩
set_option maxHeartbeats 400000 in
theorem hasBlock (id : Int) (h : St B w rb pb mb d F) (hd : d.keys.Nodup) : Calls Try.prog 24 #[.pointer (some ⟨rb, 0, none⟩), .int .i64 id] w fun e w' => e = .returned (.bool (decide (id ∈ d.keys))) ∧ Below w.heap.size w w' := by
  obtain ⟨LV, SV, BV, TV, hA, hf⟩ := h
  obtain ⟨_, _, r2, _⟩ := hA.rc
  obtain ⟨es, clock, m, hm⟩ := hA.m
  obtain ⟨x, y, hrun⟩ := run_has w mb es clock d.keys id m hm hd
  clear hA hf hm m hd
  generalize decide (id ∈ d.keys) = bb at hrun ⊢
  go_enter Try.func24, Try.ntmps24
  go_wp2
  go_ret
  exact ⟨rfl, (Below.refl _ _).alloc (Nat.le_refl _) _⟩

theorem blk_get (l : List (Int × Int × Int)) (j k : Nat) (hj : j < l.length) (hk : k < 4) : (blkCells l)[j * 4 + k]? = (blkCell (l[j]))[k]? := by
  induction l generalizing j with
  | nil => simp at hj
  | cons b l ih =>
    show ((blkCell b) ++ blkCells l)[j * 4 + k]? = _
    cases j with
    | zero => rw [List.getElem?_append_left (by simp [blkCell]; omega)]; simp
    | succ j =>
      rw [List.getElem?_append_right (by simp [blkCell]; omega)]
      have := ih j (by simpa using hj)
      simp only [blkCell, List.length_cons, List.length_nil, List.getElem_cons_succ] at this ⊢
      rw [show (j + 1) * 4 + k - (0 + 1 + 1 + 1 + 1) = j * 4 + k by omega]
      exact this

/-- Block j of the path, in memory. -/
theorem At.blk {LV SV BV TV : Value} (h : At B w rb pb mb d LV SV BV TV) (j : Nat) (hj : j < d.blocks.length) : ∃ g cap, BV = .slice (some ⟨g, 0, none⟩) d.blocks.length cap ∧ B ≤ g ∧
    w.cell? ⟨g, j * 4, none⟩ = some (.int .i64 (d.blocks[j]).1) ∧ w.cell? ⟨g, j * 4 + 1, none⟩ = some (.int .i64 (d.blocks[j]).2.1) ∧ w.cell? ⟨g, j * 4 + 2, none⟩ = some (.int .u64 (d.blocks[j]).2.2) ∧ w.cell? ⟨g, j * 4 + 3, none⟩ = some (.int .i64 0) := by
  obtain ⟨g, cap, hv, hb, _⟩ := h.b.form (by omega)
  have ho := h.b
  rw [hv] at ho
  have key : ∀ k, k < 4 → w.cell? ⟨g, j * 4 + k, none⟩ = (blkCell (d.blocks[j]))[k]? := fun k hk => by
    rw [ho.cellAt (j * 4 + k) (by omega), blk_get _ _ _ hj hk]
  exact ⟨g, cap, hv, hb, key 0 (by omega), key 1 (by omega), key 2 (by omega), key 3 (by omega)⟩

set_option maxHeartbeats 400000 in
theorem readUsed (j : Nat) (h : St B w rb pb mb d F) (hj : j < d.blocks.length) : Calls Try.prog 25 #[.pointer (some ⟨pb, 0, none⟩), .int .i64 j] w fun e w' => e = .returned (.int .u64 (d.blocks[j]).2.2) ∧ w = w' := by
  obtain ⟨LV, SV, BV, TV, hA, hf⟩ := h
  obtain ⟨_, _, p2, _⟩ := hA.pc
  obtain ⟨g, cap, hv, _, _, _, c2, _⟩ := hA.blk j hj
  subst hv
  clear hA hf
  generalize (d.blocks[j]).2.2 = u at c2 ⊢
  go_enter Try.func25, Try.ntmps25
  go_wp2
  go_ret
  exact ⟨rfl, rfl⟩
end
end Go.Proofs.Qxb6609224a.Rl
