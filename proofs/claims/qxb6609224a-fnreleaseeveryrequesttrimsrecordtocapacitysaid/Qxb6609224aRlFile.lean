import Derived.Test.Qxb6609224aRlRead
namespace Go.Proofs.Qxb6609224a.Rl
open Go.RowKit

/-- The last of the stops; -1 where there is none. -/
def top (l : List Int) : Int := l.getLastD (-1)

section
variable {B : Nat} {w : World} {rb pb mb : Nat} {d : Dat} {F : Nat → Prop}

theorem At.stop {LV SV BV TV : Value} (h : At B w rb pb mb d LV SV BV TV) (j : Nat) (hj : j < d.stops.length) : ∃ g cap, TV = .slice (some ⟨g, 0, none⟩) d.stops.length cap ∧ B ≤ g ∧ w.cell? ⟨g, j, none⟩ = some (.int .i64 (d.stops[j])) := by
  obtain ⟨g, cap, hv, hb, _⟩ := h.t.form (by omega)
  have ho := h.t
  rw [hv] at ho
  exact ⟨g, cap, hv, hb, by rw [ho.cellAt j (by omega)]; simp [hj]⟩

theorem top_eq (l : List Int) (h : 0 < l.length) : top l = l[l.length - 1] := by
  unfold top
  rw [List.getLastD_eq_getLast?, List.getLast?_eq_getElem?, List.getElem?_eq_getElem (by omega)]
  rfl

set_option maxHeartbeats 400000 in
theorem holds49 (i : Int) (h : St B w rb pb mb d F) (hi : 0 ≤ i) (hl : d.stops.length ≤ 1048576) :
    Calls Try.prog 49 #[.pointer (some ⟨pb, 0, none⟩), .int .i64 i] w fun e w' => e = .returned (.bool (decide (i ≤ top d.stops))) ∧ w = w' := by
  obtain ⟨LV, SV, BV, TV, hA, hf⟩ := h
  obtain ⟨_, _, _, p3, _⟩ := hA.pc
  by_cases h0 : d.stops.length = 0
  · obtain ⟨a, c, hv⟩ := own_form hA.t
    subst hv
    rw [h0] at p3
    have ht : top d.stops = -1 := by rw [List.eq_nil_of_length_eq_zero h0]; rfl
    rw [ht, decide_eq_false (by omega)]
    clear hA hf ht h0
    go_enter Try.func49, Try.ntmps49
    go_wp2
    go_ret
    exact ⟨rfl, rfl⟩
  · obtain ⟨g, cap, hv, _, hc⟩ := hA.stop (d.stops.length - 1) (by omega)
    subst hv
    rw [top_eq _ (by omega)]
    generalize d.stops[d.stops.length - 1]'(by omega) = s at hc ⊢
    have e1 : ((d.stops.length - 1 : Nat) : Int) = (d.stops.length : Int) - 1 := by omega
    have hpos : (0 : Int) < d.stops.length := by omega
    generalize d.stops.length = n at *
    clear hA hf
    cases hd : decide (i ≤ s)
    · go_enter Try.func49, Try.ntmps49
      go_wp2
      go_ret
      exact ⟨rfl, rfl⟩
    · go_enter Try.func49, Try.ntmps49
      go_wp2
      go_ret
      exact ⟨rfl, rfl⟩

/-- The path is laid among the leaves. -/
theorem At.newL {w1 : World} {LV SV BV TV : Value} (hA : At B w rb pb mb d LV SV BV TV) (far : ∀ b, b < w.heap.size → LV.ownBlock ≠ some b → w1.heap[b]? = (w.setCell ⟨pb, 4, none⟩ (.int .i64 0)).heap[b]?) {LV' : Value}
    (hb : w1.ownsRow B 29 1 LV' 1 [.pointer (some ⟨pb, 0, none⟩)]) (hat : ∀ k, LV'.ownBlock = some k → LV.ownBlock = some k ∨ w.heap.size ≤ k) : At B (w1.setCell ⟨rb, 3, none⟩ LV') rb pb mb { d with leaf := true } LV' SV BV TV := by
  obtain ⟨n1, n2, n3, nl, ns, nb, nt, nbo, nto⟩ := hA.p_ne
  have lt := hA.lt
  have keep : ∀ b, b < w.heap.size → LV.ownBlock ≠ some b → b ≠ rb → b ≠ pb → (w1.setCell ⟨rb, 3, none⟩ LV').heap[b]? = w.heap[b]? := fun b h1 h2 h3 h4 => (Below.heap_setCell _ _ _ _ h3).trans ((far b h1 h2).trans (Below.heap_setCell _ _ _ _ h4))
  have hr1 : w1.heap[rb]? = _ := (far rb (lt rb (Or.inl rfl)) (fun e => (nl rb e).2.1 rfl)).trans ((Below.heap_setCell _ _ _ _ n1).trans hA.r)
  have hp1 : w1.heap[pb]? = _ := (far pb (lt pb (Or.inr (Or.inl rfl))) (fun e => (nl pb e).1 rfl)).trans (heap_setCell_same w pb 4 _ 84 (.int .i64 0) hA.p)
  obtain ⟨es, clock, m, hm⟩ := hA.m
  refine ⟨heap_setCell_same w1 rb 3 _ 81 LV' hr1, (Below.heap_setCell _ _ _ _ (Ne.symm n1)).trans hp1, ⟨es, clock, (keep mb (lt mb (Or.inr (Or.inr (Or.inl rfl)))) (fun e => (nl mb e).2.2 rfl) n3 n2).trans m, hm⟩, ?_, ?_, ?_, ?_, ?_, hA.Br, hA.Bp, hA.Bm⟩
  · refine own_keep hb (fun k hk => Below.heap_setCell _ _ _ _ (fun e => ?_))
    rcases hat k hk with h | h
    · exact (nl k h).2.1 e
    · have := lt rb (Or.inl rfl); simp at e; omega
  · exact own_keep hA.s (fun k hk => keep k (lt k (Or.inr (Or.inr (Or.inr (Or.inr (Or.inl hk)))))) (fun e => hA.ls k e hk) (ns k hk).2.1 (ns k hk).1)
  · exact own_keep hA.b (fun k hk => keep k (lt k (Or.inr (Or.inr (Or.inr (Or.inr (Or.inr (Or.inl hk))))))) (nbo k hk).1 (nb k hk).2.1 (nb k hk).1)
  · exact own_keep hA.t (fun k hk => keep k (lt k (Or.inr (Or.inr (Or.inr (Or.inr (Or.inr (Or.inr hk))))))) (nto k hk).1 (nt k hk).2.1 (nt k hk).1)
  · intro k hk hs
    rcases hat k hk with h | h
    · exact hA.ls k h hs
    · have := lt k (Or.inr (Or.inr (Or.inr (Or.inr (Or.inl hs))))); omega

theorem foot_L {LV SV BV TV LV' : Value} {w' : World} (hf : ∀ b, foot rb pb mb LV SV BV TV b → F b) (ht : ∀ k, LV'.ownBlock = some k → LV.ownBlock = some k ∨ w.heap.size ≤ k) (hlt : ∀ k, LV'.ownBlock = some k → k < w'.heap.size) :
    ∀ b, foot rb pb mb LV' SV BV TV b → grow F w w' b := by
  intro b hb
  rcases hb with hb | hb | hb | hb | hb | hb | hb
  · exact Or.inl (hf b (Or.inl hb))
  · exact Or.inl (hf b (Or.inr (Or.inl hb)))
  · exact Or.inl (hf b (Or.inr (Or.inr (Or.inl hb))))
  · rcases ht b hb with h | h
    · exact Or.inl (hf b (Or.inr (Or.inr (Or.inr (Or.inl h)))))
    · exact Or.inr ⟨h, hlt b hb⟩
  · exact Or.inl (hf b (Or.inr (Or.inr (Or.inr (Or.inr (Or.inl hb))))))
  · exact Or.inl (hf b (Or.inr (Or.inr (Or.inr (Or.inr (Or.inr (Or.inl hb)))))))
  · exact Or.inl (hf b (Or.inr (Or.inr (Or.inr (Or.inr (Or.inr (Or.inr hb)))))))

theorem assert29 (x : Value) (w : World) : (Instr.typeAssert (.iface 29 x) 20 29 false).run Try.prog w = .ok x w := by kernel_rfl

set_option maxRecDepth 100000 in
set_option maxHeartbeats 1000000 in
theorem leavesPush (h : St B w rb pb mb d F) (hl : d.leaf = false) :
    Calls Try.prog 105 #[.pointer (some ⟨rb, 3, none⟩), .iface 29 (.pointer (some ⟨pb, 0, none⟩))] w fun e w' => e = .returned (.tuple #[]) ∧ St B w' rb pb mb { d with leaf := true } (grow F w w') ∧ Fr w w' F := by
  obtain ⟨LV, SV, BV, TV, hA, hf⟩ := h
  obtain ⟨p0, p1, p2, p3, p4, pf⟩ := hA.pc
  obtain ⟨r0, r1, r2, r3, r4, r5, rf⟩ := hA.rc
  have pf4 := pf 4
  have rf3 := rf 3
  have hplt := hA.lt pb (Or.inr (Or.inl rfl))
  have hrlt := hA.lt rb (Or.inl rfl)
  have hrp : ¬ rb = pb := hA.p_ne.1
  have hpr : ¬ pb = rb := fun e => hrp e.symm
  obtain ⟨i0, hi, hz0, hz1, hz2⟩ := info_parts info29
  have hBw : B ≤ w.heap.size := Nat.le_of_lt (Nat.lt_of_le_of_lt hA.Bp hplt)
  obtain ⟨ba, bl, hbv⟩ := own_form hA.l
  rw [hl] at hbv
  simp only [Bool.false_eq_true, if_false] at hbv
  subst hbv
  have HA : Hid (At B w rb pb mb d (.slice ba 0 bl) SV BV TV) := hA
  have HL : Hid (d.leaf = false) := hl
  have hta := assert29 (.pointer (some ⟨pb, 0, none⟩))
  clear hA pf rf p0 p1 p2 p3 r0 r1 r2 r4 r5 hl
  go_enter Try.func105, Try.ntmps105
  go_wp2_with (at_builtin; go_must (refine wpList_append_lies _ rfl (.tmp 17) (.tmp 19) 79 rfl B 29 i0 (.pointer none) 1 8 Try.underlying79 hi hz0 hz1 hz2 rfl (by decide) (.slice ba 0 bl) 0 [] rfl ?hown ⟨w.heap.size, 0, none⟩ 1 1 [.pointer (some ⟨pb, 0, none⟩)] rfl rfl ?c1 ?c2 (by decide) ?c3 ?c4 ?c5 (w.heap.size + 1) ?c6 ?_))
  case hown =>
    have := HA.out.l
    rw [HL.out] at this
    exact (ownsRow_setCell_other this (fun e => (HA.out.p_ne.2.2.2.1 pb e).1 rfl) _).alloc _
  case c1 =>
    intro j u hu
    have := cell_one_new (w.setCell ⟨pb, 4, none⟩ (.int .i64 0)) (.pointer (some ⟨pb, 0, none⟩)) 29 j u hu
    simpa using this
  case c2 => simp [Value.oneCell']
  case c3 => unfold maxLen; omega
  case c4 => omega
  case c5 => simp; omega
  case c6 => simp
  intro g cap w1 hown' hgrow hat hlt
  have far : ∀ b, b < w.heap.size → (Value.slice ba 0 bl).ownBlock ≠ some b → w1.heap[b]? = (w.setCell ⟨pb, 4, none⟩ (.int .i64 0)).heap[b]? := fun b h1 h2 => (hgrow.block b (by simp; omega) (Ne.symm h2)).trans (Below.heap_alloc _ _ _ (by simp; exact h1))
  have hat' : ∀ k, (Value.slice (some ⟨g, 0, none⟩) 1 cap).ownBlock = some k → (Value.slice ba 0 bl).ownBlock = some k ∨ w.heap.size ≤ k := by
    intro k hk
    simp only [Value.ownBlock, Option.some.injEq] at hk
    subst hk
    rcases hat with h | h
    · exact Or.inl h
    · exact Or.inr (by omega)
  have hnew := HA.out.newL far (LV' := .slice (some ⟨g, 0, none⟩) 1 cap) (by simpa using hown') hat'
  have hfr : Fr w w1 F := (((Fr.refl w F).setCell ⟨pb, 4, none⟩ (.int .i64 0) (Or.inl (hf pb (Or.inr (Or.inl rfl))))).alloc _).grown hgrow (fun k hk => Or.inl (hf k (Or.inr (Or.inr (Or.inr (Or.inl hk))))))
  have e3 := (far rb hrlt (fun e => (HA.out.p_ne.2.2.2.1 rb e).2.1 rfl)).trans (Below.heap_setCell w ⟨pb, 4, none⟩ (.int .i64 0) rb hrp)
  have hc2 : w1.cell? ⟨rb, 3, none⟩ = some (.slice ba 0 bl) := by
    rw [World.cell?_of_block (w := w) e3]; exact r3
  have hf2 : w1.frozen? ⟨rb, 3, none⟩ = false := by
    rw [World.frozen?_of_block (w := w) e3]; exact rf3
  have HN : Hid (At B _ rb pb mb _ _ SV BV TV) := hnew
  have HF : Hid (Fr w w1 F) := hfr
  have HT : Hid (∀ k, (Value.slice (some ⟨g, 0, none⟩) 1 cap).ownBlock = some k → (Value.slice ba 0 bl).ownBlock = some k ∨ w.heap.size ≤ k) := hat'
  clear hnew hfr far hat hat' hgrow hown' r3 rf3 p4 pf4 e3
  go_wp2
  go_end0
  have fr2 := HF.out.setCell ⟨rb, 3, none⟩ (.slice (some ⟨g, 0, none⟩) 1 cap) (Or.inl (hf rb (Or.inl rfl)))
  exact ⟨rfl, ⟨_, _, _, _, HN.out, foot_L hf HT.out (fun k hk => HN.out.lt k (Or.inr (Or.inr (Or.inr (Or.inl hk)))))⟩, fr2⟩

set_option maxHeartbeats 400000 in
theorem heapUp (x : Value) : Calls Try.prog 55 #[x, .int .i64 0] w fun e w' => e = .returned (.tuple #[]) ∧ w = w' := by
  go_enter Try.func55, Try.ntmps55
  go_wp2
  refine wp_loop_rounds 1 ?_
  rw [rounds_succ]
  go_wp2
  go_end0
  exact ⟨rfl, rfl⟩

end
theorem load79 (a : Addr) (v : Value) (w : World) (h : w.cell? a = some v) : (loadVar 79 a).run Try.prog w = .ok v w := by
  simp [loadVar, isAgg, run_underlying Try.underlying79, h, go_sem]
theorem infoLen : (Try.prog.info? 120).map (fun i => (i.methods.find? (·.name == "Len")).map fun m => (m.path.toList, m.func, m.path.isEmpty)) = some (some ([], some (97, false), true)) := by kernel_rfl
theorem recvLen (a : Addr) (nm : String) (w : World) : (receiverAt 120 (.val (.pointer (some a))) false (some nm)).run Try.prog w = (loadVar 79 a).run Try.prog w := by kernel_rfl
theorem methodLen (a : Addr) (v : Value) (w : World) (h : w.cell? a = some v) : (method 362 120 (.pointer (some a)) "Len").run Try.prog w = .ok (97, v) w := by
  have hi := infoLen
  cases hq : Try.prog.info? 120 with
  | none => rw [hq] at hi; simp at hi
  | some i =>
    rw [hq] at hi
    simp only [Option.map_some, Option.some.injEq] at hi
    cases hm : i.methods.find? (·.name == "Len") with
    | none => rw [hm] at hi; simp at hi
    | some m =>
      rw [hm] at hi
      simp only [Option.map_some, Option.some.injEq, Prod.mk.injEq] at hi
      unfold method
      have hp : m.path = #[] := by have := hi.1; exact Array.toList_eq_nil_iff.1 this
      simp [typeInfo, hq, hm, hp, hi.2.1, follow, recvLen, load79 a v w h, Result.andThen]
theorem infoSwap : (Try.prog.info? 120).map (fun i => (i.methods.find? (·.name == "Swap")).map fun m => (m.path.toList, m.func, m.path.isEmpty)) = some (some ([], some (99, false), true)) := by kernel_rfl
theorem methodSwap (a : Addr) (v : Value) (w : World) (h : w.cell? a = some v) : (method 362 120 (.pointer (some a)) "Swap").run Try.prog w = .ok (99, v) w := by
  have hi := infoSwap
  cases hq : Try.prog.info? 120 with
  | none => rw [hq] at hi; simp at hi
  | some i =>
    rw [hq] at hi
    simp only [Option.map_some, Option.some.injEq] at hi
    cases hm : i.methods.find? (·.name == "Swap") with
    | none => rw [hm] at hi; simp at hi
    | some m =>
      rw [hm] at hi
      simp only [Option.map_some, Option.some.injEq, Prod.mk.injEq] at hi
      unfold method
      have hp : m.path = #[] := by have := hi.1; exact Array.toList_eq_nil_iff.1 this
      simp [typeInfo, hq, hm, hp, hi.2.1, follow, recvLen, load79 a v w h, Result.andThen]
section
variable {B : Nat} {w : World} {rb pb mb : Nat} {d : Dat} {F : Nat → Prop}
theorem methodPush (a : Addr) (w : World) : (method 362 120 (.pointer (some a)) "Push").run Try.prog w = .ok (105, .pointer (some a)) w := by kernel_rfl
set_option maxRecDepth 100000 in
set_option maxHeartbeats 400000 in
theorem heapPush (h : St B w rb pb mb d F) (hl : d.leaf = false) :
    Calls Try.prog 50 #[.iface 120 (.pointer (some ⟨rb, 3, none⟩)), .iface 29 (.pointer (some ⟨pb, 0, none⟩))] w fun e w' => e = .returned (.tuple #[]) ∧ St B w' rb pb mb { d with leaf := true } (grow F w w') ∧ Fr w w' F := by
  have H : Hid (Calls Try.prog 105 #[.pointer (some ⟨rb, 3, none⟩), .iface 29 (.pointer (some ⟨pb, 0, none⟩))] w fun e w' => e = .returned (.tuple #[]) ∧ St B w' rb pb mb { d with leaf := true } (grow F w w') ∧ Fr w w' F) := leavesPush h hl
  clear h hl
  have hm1 := methodPush
  go_enter Try.func50, Try.ntmps50
  go_wp2_with fail
  refine H.out.mono ?_
  rintro e w1 ⟨rfl, hs, hfr⟩
  have HS : Hid (St B w1 rb pb mb { d with leaf := true } (grow F w w1)) := hs
  clear hs hm1
  obtain ⟨LV, SV, BV, TV, hA, hf⟩ := HS.out
  obtain ⟨_, _, _, r3, _⟩ := hA.rc
  obtain ⟨ba, bl, hbv⟩ := own_form hA.l
  simp only [if_true] at hbv
  subst hbv
  have hm2 := methodLen ⟨rb, 3, none⟩ _ w1 r3
  clear hA hf
  go_wp2_with (first | (go_at_call 55; refine (heapUp _).mono ?_; rintro e w' ⟨rfl, rfl⟩) | go_in)
  go_end0
  exact ⟨rfl, HS.out, hfr⟩

/-- The path's last block may leave: no stop lies on it. -/
def free (d : Dat) : Bool := decide (top d.stops < (d.blocks.length : Int) - 1)

set_option maxRecDepth 100000 in
set_option maxHeartbeats 1000000 in
theorem file44 (h : St B w rb pb mb d F) (hn : 0 < d.blocks.length) (hn2 : d.blocks.length ≤ 1048576) (hs : d.stops.length ≤ 1048576) (hlf : d.leaf = true → free d = true) :
    Calls Try.prog 44 #[.pointer (some ⟨rb, 0, none⟩), .pointer (some ⟨pb, 0, none⟩)] w fun e w' => e = .returned (.tuple #[]) ∧ St B w' rb pb mb { d with leaf := free d } (grow F w w') ∧ Fr w w' F := by
  have HS : Hid (St B w rb pb mb d F) := h
  obtain ⟨LV, SV, BV, TV, hA, hf⟩ := h
  obtain ⟨-, -, p2, -, p4, -⟩ := hA.pc
  obtain ⟨g, cap, hv, -, -, -, -, c3⟩ := hA.blk (d.blocks.length - 1) (by omega)
  subst hv
  have H49 : Hid (Calls Try.prog 49 #[.pointer (some ⟨pb, 0, none⟩), .int .i64 ((d.blocks.length : Int) - 1)] w fun e w' => e = .returned (.bool (decide ((d.blocks.length : Int) - 1 ≤ top d.stops))) ∧ w = w') := holds49 _ HS.out (by omega) hs
  have e1 : ((d.blocks.length - 1 : Nat) : Int) = (d.blocks.length : Int) - 1 := by omega
  have hpos : (0 : Int) < d.blocks.length := by omega
  clear hA hf
  cases hfr : free d
  · have hl : d.leaf = false := by
      cases hl : d.leaf
      · rfl
      · rw [hlf hl] at hfr; cases hfr
    have hd : decide ((d.blocks.length : Int) - 1 ≤ top d.stops) = true := by
      unfold free at hfr
      simp at hfr ⊢; omega
    rw [hd] at H49
    rw [hl] at p4
    simp only [Bool.false_eq_true, if_false] at p4
    have HD : Hid (St B w rb pb mb { d with leaf := false } F) := by
      have := HS.out
      cases d
      simp only at hl
      subst hl
      exact this
    clear hd hfr hlf hl
    go_enter Try.func44, Try.ntmps44
    go_wp2_with (go_at_call 49; refine H49.out.mono ?_; rintro e w' ⟨rfl, rfl⟩)
    go_end0
    exact ⟨rfl, HD.out.mono (fun b hb => Or.inl hb), Fr.refl _ _⟩
  · have hd : decide ((d.blocks.length : Int) - 1 ≤ top d.stops) = false := by
      unfold free at hfr
      simp at hfr ⊢; omega
    rw [hd] at H49
    cases hl : d.leaf
    · rw [hl] at p4
      simp only [Bool.false_eq_true, if_false] at p4
      have HP : Hid (Calls Try.prog 50 #[.iface 120 (.pointer (some ⟨rb, 3, none⟩)), .iface 29 (.pointer (some ⟨pb, 0, none⟩))] w fun e w' => e = .returned (.tuple #[]) ∧ St B w' rb pb mb { d with leaf := true } (grow F w w') ∧ Fr w w' F) := heapPush HS.out hl
      clear hd hfr hlf hl
      go_enter Try.func44, Try.ntmps44
      go_wp2_with (first | (go_at_call 49; refine H49.out.mono ?_; rintro e w' ⟨rfl, rfl⟩) | (go_at_call 50; refine HP.out.mono ?_; rintro e w1 ⟨rfl, hs1, hf1⟩))
      go_end0
      exact ⟨rfl, hs1, hf1⟩
    · rw [hl] at p4
      simp only [if_true] at p4
      have HD : Hid (St B w rb pb mb { d with leaf := true } F) := by
        have := HS.out
        cases d
        simp only at hl
        subst hl
        exact this
      clear hd hfr hlf hl
      go_enter Try.func44, Try.ntmps44
      go_wp2_with (go_at_call 49; refine H49.out.mono ?_; rintro e w' ⟨rfl, rfl⟩)
      go_end0
      exact ⟨rfl, HD.out.mono (fun b hb => Or.inl hb), Fr.refl _ _⟩
end
end Go.Proofs.Qxb6609224a.Rl
