import Derived.Test.Qxb6609224aRlState
import Derived.Deep.DeepMust
import Derived.MapKept
namespace Go.Proofs.Qxb6609224a.Rl
open Go.RowKit

theorem info86 : (Try.prog.info? 86).map (fun i => (i.zero, i.size, i.bytes)) = some (some (.agg #[.int .i64 0, .int .i64 0, .int .u64 0, .int .i64 0]), 4, 32) := by kernel_rfl
theorem info3 : (Try.prog.info? 3).map (fun i => (i.zero, i.size, i.bytes)) = some (some (.int .i64 0), 1, 8) := by kernel_rfl
theorem info29 : (Try.prog.info? 29).map (fun i => (i.zero, i.size, i.bytes)) = some (some (.pointer none), 1, 8) := by kernel_rfl

set_option maxHeartbeats 400000 in
theorem newRecord (cap tok en : Int) (w : World) :
    Calls Try.prog 11 #[.int .i64 cap, .int .i64 tok, .int .u64 en] w fun e w' => e = .returned (.pointer (some ⟨w.heap.size + 1, 0, none⟩)) ∧ Below w.heap.size w w' ∧ w'.heap.size = w.heap.size + 2 ∧
      w'.heap[w.heap.size + 1]? = some (.cells #[.int .i64 cap, .int .i64 tok, .map (some w.heap.size), .slice none 0 0, .int .u64 en, .slice none 0 0] 81 (0, 0)) ∧ w'.heap[w.heap.size]? = some (.map #[] 0) := by
  have hmm := @run_makeMap Try.prog
  go_enter Try.func11, Try.ntmps11
  go_wp2
  go_ret
  refine ⟨rfl, ((Below.refl _ _).alloc (Nat.le_refl _) _).alloc (by simp) _, by simp, ?_, ?_⟩
  · have := heap_alloc_new (w.alloc (.map #[] 0)) (.cells #[.int .i64 cap, .int .i64 tok, .map (some w.heap.size), .slice none 0 0, .int .u64 en, .slice none 0 0] 81)
    simpa using this
  · exact (Below.heap_alloc _ _ _ (by simp)).trans (heap_alloc_new _ _)

set_option maxHeartbeats 400000 in
theorem newPath (w : World) :
    Calls Try.prog 12 #[] w fun e w' => e = .returned (.pointer (some ⟨w.heap.size, 0, none⟩)) ∧ Below w.heap.size w w' ∧ w'.heap.size = w.heap.size + 1 ∧
      w'.heap[w.heap.size]? = some (.cells #[.pointer none, .int .i64 0, .slice none 0 0, .slice none 0 0, .int .i64 (-1)] 84 (0, 0)) := by
  go_enter Try.func12, Try.ntmps12
  go_wp2
  go_ret
  exact ⟨rfl, (Below.refl _ _).alloc (Nat.le_refl _) _, by simp, heap_alloc_new _ _⟩

/-- A row of structs by its own head: as 'ownsRow_setCell_other'. -/
theorem At.p_ne {B : Nat} {w : World} {rb pb mb : Nat} {d : Dat} {LV SV BV TV : Value} (h : At B w rb pb mb d LV SV BV TV) :
    rb ≠ pb ∧ mb ≠ pb ∧ mb ≠ rb ∧ (∀ k, LV.ownBlock = some k → k ≠ pb ∧ k ≠ rb ∧ k ≠ mb) ∧ (∀ k, SV.ownBlock = some k → k ≠ pb ∧ k ≠ rb ∧ k ≠ mb) ∧ (∀ k, BV.ownBlock = some k → k ≠ pb ∧ k ≠ rb ∧ k ≠ mb) ∧ (∀ k, TV.ownBlock = some k → k ≠ pb ∧ k ≠ rb ∧ k ≠ mb) ∧
    (∀ k, BV.ownBlock = some k → LV.ownBlock ≠ some k ∧ SV.ownBlock ≠ some k ∧ TV.ownBlock ≠ some k) ∧ (∀ k, TV.ownBlock = some k → LV.ownBlock ≠ some k ∧ SV.ownBlock ≠ some k ∧ BV.ownBlock ≠ some k) := by
  obtain ⟨r, p, ⟨es, clock, m, hm⟩, l, s, b, t, ls, _⟩ := h
  refine ⟨?_, ?_, ?_, ?_, ?_, ?_, ?_, ?_, ?_⟩
  · intro e; subst e; rw [r] at p; simp at p
  · intro e; subst e; rw [m] at p; simp at p
  · intro e; subst e; rw [m] at r; simp at r
  · exact fun k hk => ⟨own_ne l p (by simp) k hk, own_ne l r (by simp) k hk, own_ne l m (by simp) k hk⟩
  · exact fun k hk => ⟨own_ne s p (by simp) k hk, own_ne s r (by simp) k hk, own_ne s m (by simp) k hk⟩
  · exact fun k hk => ⟨own_ne b p (by simp) k hk, own_ne b r (by simp) k hk, own_ne b m (by simp) k hk⟩
  · exact fun k hk => ⟨own_ne t p (by simp) k hk, own_ne t r (by simp) k hk, own_ne t m (by simp) k hk⟩
  · intro k hk
    obtain ⟨cur, hc⟩ := own_blk b k hk
    exact ⟨fun e => own_ne l hc (by simp) k e rfl, fun e => own_ne s hc (by simp) k e rfl, fun e => own_ne t hc (by simp) k e rfl⟩
  · intro k hk
    obtain ⟨cur, hc⟩ := own_blk t k hk
    exact ⟨fun e => own_ne l hc (by simp) k e rfl, fun e => own_ne s hc (by simp) k e rfl, fun e => own_ne b hc (by simp) k e rfl⟩

/-- The path's cells. -/
theorem At.pc {B : Nat} {w : World} {rb pb mb : Nat} {d : Dat} {LV SV BV TV : Value} (h : At B w rb pb mb d LV SV BV TV) :
    w.cell? ⟨pb, 0, none⟩ = some (.pointer none) ∧ w.cell? ⟨pb, 1, none⟩ = some (.int .i64 0) ∧ w.cell? ⟨pb, 2, none⟩ = some BV ∧ w.cell? ⟨pb, 3, none⟩ = some TV ∧ w.cell? ⟨pb, 4, none⟩ = some (.int .i64 (if d.leaf then 0 else -1)) ∧ (∀ j, w.frozen? ⟨pb, j, none⟩ = false) := by
  refine ⟨?_, ?_, ?_, ?_, ?_, fun j => frozen_of_row _ _ _ _ _ h.p⟩ <;> (rw [cell_of_row _ _ _ _ _ _ h.p]; rfl)
theorem At.rc {B : Nat} {w : World} {rb pb mb : Nat} {d : Dat} {LV SV BV TV : Value} (h : At B w rb pb mb d LV SV BV TV) :
    w.cell? ⟨rb, 0, none⟩ = some (.int .i64 d.cap) ∧ w.cell? ⟨rb, 1, none⟩ = some (.int .i64 d.tokens) ∧ w.cell? ⟨rb, 2, none⟩ = some (.map (some mb)) ∧ w.cell? ⟨rb, 3, none⟩ = some LV ∧ w.cell? ⟨rb, 4, none⟩ = some (.int .u64 d.ended) ∧ w.cell? ⟨rb, 5, none⟩ = some SV ∧ (∀ j, w.frozen? ⟨rb, j, none⟩ = false) := by
  refine ⟨?_, ?_, ?_, ?_, ?_, ?_, fun j => frozen_of_row _ _ _ _ _ h.r⟩ <;> (rw [cell_of_row _ _ _ _ _ _ h.r]; rfl)

/-- The path gets a new row of blocks. -/
theorem At.newB {B : Nat} {w w1 : World} {rb pb mb : Nat} {d : Dat} {LV SV BV TV : Value} (hA : At B w rb pb mb d LV SV BV TV) (far : ∀ b, b < w.heap.size → BV.ownBlock ≠ some b → w1.heap[b]? = w.heap[b]?) {BV' : Value} (bl : List (Int × Int × Int))
    (hb : w1.ownsRow B 86 4 BV' bl.length (blkCells bl)) (hat : ∀ k, BV'.ownBlock = some k → BV.ownBlock = some k ∨ w.heap.size ≤ k) : At B (w1.setCell ⟨pb, 2, none⟩ BV') rb pb mb { d with blocks := bl } LV SV BV' TV := by
  obtain ⟨n1, n2, n3, nl, ns, nb, nt, nbo, nto⟩ := hA.p_ne
  have lt := hA.lt
  have keep : ∀ b, b < w.heap.size → BV.ownBlock ≠ some b → b ≠ pb → (w1.setCell ⟨pb, 2, none⟩ BV').heap[b]? = w.heap[b]? := fun b h1 h2 h3 => (Below.heap_setCell _ _ _ _ h3).trans (far b h1 h2)
  have hp := hA.p
  have hp1 := (far pb (lt pb (Or.inr (Or.inl rfl))) (fun e => (nb pb e).1 rfl)).trans hp
  obtain ⟨es, clock, m, hm⟩ := hA.m
  refine ⟨(keep rb (lt rb (Or.inl rfl)) (fun e => (nb rb e).2.1 rfl) n1).trans hA.r, ?_, ⟨es, clock, (keep mb (lt mb (Or.inr (Or.inr (Or.inl rfl)))) (fun e => (nb mb e).2.2 rfl) n2).trans m, hm⟩, ?_, ?_, ?_, ?_, hA.ls, hA.Br, hA.Bp, hA.Bm⟩
  · exact heap_setCell_same w1 pb 2 _ 84 BV' hp1
  · exact own_keep hA.l (fun k hk => keep k (lt k (Or.inr (Or.inr (Or.inr (Or.inl hk))))) (fun e => (nbo k e).1 hk) (nl k hk).1)
  · exact own_keep hA.s (fun k hk => keep k (lt k (Or.inr (Or.inr (Or.inr (Or.inr (Or.inl hk)))))) (fun e => (nbo k e).2.1 hk) (ns k hk).1)
  · refine own_keep hb (fun k hk => Below.heap_setCell _ _ _ _ (fun e => ?_))
    rcases hat k hk with h | h
    · exact (nb k h).1 e
    · have := lt pb (Or.inr (Or.inl rfl)); simp at e; omega
  · exact own_keep hA.t (fun k hk => keep k (lt k (Or.inr (Or.inr (Or.inr (Or.inr (Or.inr (Or.inr hk))))))) (fun e => (nbo k e).2.2 hk) (nt k hk).1)

/-- .. a new row of stops. -/
theorem At.newT {B : Nat} {w w1 : World} {rb pb mb : Nat} {d : Dat} {LV SV BV TV : Value} (hA : At B w rb pb mb d LV SV BV TV) (far : ∀ b, b < w.heap.size → TV.ownBlock ≠ some b → w1.heap[b]? = w.heap[b]?) {TV' : Value} (tl : List Int)
    (hb : w1.ownsRow B 3 1 TV' tl.length (tl.map (Value.int .i64))) (hat : ∀ k, TV'.ownBlock = some k → TV.ownBlock = some k ∨ w.heap.size ≤ k) : At B (w1.setCell ⟨pb, 3, none⟩ TV') rb pb mb { d with stops := tl } LV SV BV TV' := by
  obtain ⟨n1, n2, n3, nl, ns, nb, nt, nbo, nto⟩ := hA.p_ne
  have lt := hA.lt
  have keep : ∀ b, b < w.heap.size → TV.ownBlock ≠ some b → b ≠ pb → (w1.setCell ⟨pb, 3, none⟩ TV').heap[b]? = w.heap[b]? := fun b h1 h2 h3 => (Below.heap_setCell _ _ _ _ h3).trans (far b h1 h2)
  have hp := hA.p
  have hp1 := (far pb (lt pb (Or.inr (Or.inl rfl))) (fun e => (nt pb e).1 rfl)).trans hp
  obtain ⟨es, clock, m, hm⟩ := hA.m
  refine ⟨(keep rb (lt rb (Or.inl rfl)) (fun e => (nt rb e).2.1 rfl) n1).trans hA.r, ?_, ⟨es, clock, (keep mb (lt mb (Or.inr (Or.inr (Or.inl rfl)))) (fun e => (nt mb e).2.2 rfl) n2).trans m, hm⟩, ?_, ?_, ?_, ?_, hA.ls, hA.Br, hA.Bp, hA.Bm⟩
  · exact heap_setCell_same w1 pb 3 _ 84 TV' hp1
  · exact own_keep hA.l (fun k hk => keep k (lt k (Or.inr (Or.inr (Or.inr (Or.inl hk))))) (fun e => (nto k e).1 hk) (nl k hk).1)
  · exact own_keep hA.s (fun k hk => keep k (lt k (Or.inr (Or.inr (Or.inr (Or.inr (Or.inl hk)))))) (fun e => (nto k e).2.1 hk) (ns k hk).1)
  · exact own_keep hA.b (fun k hk => keep k (lt k (Or.inr (Or.inr (Or.inr (Or.inr (Or.inr (Or.inl hk))))))) (fun e => (nto k e).2.2 hk) (nb k hk).1)
  · refine own_keep hb (fun k hk => Below.heap_setCell _ _ _ _ (fun e => ?_))
    rcases hat k hk with h | h
    · exact (nt k h).1 e
    · have := lt pb (Or.inr (Or.inl rfl)); simp at e; omega

set_option maxRecDepth 100000 in
set_option maxHeartbeats 1000000 in
theorem appendBlock (B : Nat) (w : World) (rb pb mb : Nat) (d : Dat) (F : Nat → Prop) (id en : Int) (h : St B w rb pb mb d F) (hk : d.blocks.length ≤ 1048576) :
    Calls Try.prog 13 #[.pointer (some ⟨pb, 0, none⟩), .int .i64 id, .int .i64 en] w fun e w' => e = .returned (.tuple #[]) ∧ St B w' rb pb mb { d with blocks := d.blocks ++ [(id, en, 0)] } (grow F w w') ∧ Fr w w' F := by
  obtain ⟨LV, SV, BV, TV, hA, hf⟩ := h
  obtain ⟨p0, p1, p2, p3, p4, pf⟩ := hA.pc
  have pf2 := pf 2
  have hplt := hA.lt pb (Or.inr (Or.inl rfl))
  obtain ⟨i0, hi, hz0, hz1, hz2⟩ := info_parts info86
  have HA : Hid (At B w rb pb mb d LV SV BV TV) := hA
  have hBw : B ≤ w.heap.size := Nat.le_of_lt (Nat.lt_of_le_of_lt hA.Bp hplt)
  obtain ⟨ba, bl, hbv⟩ : ∃ a c, BV = .slice a d.blocks.length c := by
    rcases hA.b.2 with ⟨rfl, h0⟩ | ⟨g, cap, cur, rfl, _⟩
    · exact ⟨none, 0, by rw [h0]⟩
    · exact ⟨_, _, rfl⟩
  clear hA pf p0 p1 p3 p4
  subst hbv
  go_enter Try.func13, Try.ntmps13
  go_wp2_with (at_builtin; go_must (refine wpList_append_lies _ rfl (.tmp 10) (.tmp 14) 82 rfl B 86 i0 _ 4 32 Try.underlying82 hi hz0 hz1 hz2 rfl (by decide) (.slice ba d.blocks.length bl) d.blocks.length (blkCells d.blocks) rfl ?hown ⟨w.heap.size, 0, none⟩ 1 1 (blkCell (id, en, 0)) rfl rfl ?c1 ?c2 (by decide) ?c3 ?c4 ?c5 (w.heap.size + 1) ?c6 ?_))
  case hown => exact HA.out.b.alloc _
  case c1 =>
    have := World.news_of_block (heap_alloc_new w (.cells #[.int .i64 id, .int .i64 en, .int .u64 0, .int .i64 0] 86))
    exact this
  case c2 => simp [blkCell, Value.oneCell']
  case c3 => unfold maxLen; omega
  case c4 => omega
  case c5 => simp; omega
  case c6 => simp
  intro g cap w1 hown' hgrow hat hlt
  have far : ∀ b, b < w.heap.size → (Value.slice ba d.blocks.length bl).ownBlock ≠ some b → w1.heap[b]? = w.heap[b]? := fun b h1 h2 => (hgrow.block b (by simp; omega) (Ne.symm h2)).trans (Below.heap_alloc _ _ _ h1)
  have hat' : ∀ k, (Value.slice (some ⟨g, 0, none⟩) (d.blocks.length + 1) cap).ownBlock = some k → (Value.slice ba d.blocks.length bl).ownBlock = some k ∨ w.heap.size ≤ k := by
    intro k hk
    simp only [Value.ownBlock, Option.some.injEq] at hk
    subst hk
    rcases hat with h | h
    · exact Or.inl h
    · exact Or.inr (by omega)
  have hnew := HA.out.newB far (BV' := .slice (some ⟨g, 0, none⟩) (d.blocks.length + 1) cap) (d.blocks ++ [(id, en, 0)]) (by
    rw [blkCells_append, List.length_append]
    simpa [blkCells] using hown') hat'
  have hfr : Fr w w1 F := ((Fr.refl w F).alloc _).grown hgrow (fun k hk => Or.inl (hf k (Or.inr (Or.inr (Or.inr (Or.inr (Or.inr (Or.inl hk))))))))
  have hc2 : w1.cell? ⟨pb, 2, none⟩ = some (.slice ba d.blocks.length bl) := by
    rw [World.cell?_of_block (w := w) (far pb hplt (fun e => (HA.out.p_ne.2.2.2.2.2.1 pb e).1 rfl))]; exact p2
  have hf2 : w1.frozen? ⟨pb, 2, none⟩ = false := by
    rw [World.frozen?_of_block (w := w) (far pb hplt (fun e => (HA.out.p_ne.2.2.2.2.2.1 pb e).1 rfl))]; exact pf2
  have HN : Hid (At B _ rb pb mb _ LV SV _ TV) := hnew
  have HF : Hid (Fr w w1 F) := hfr
  have HT : Hid (∀ k, (Value.slice (some ⟨g, 0, none⟩) (d.blocks.length + 1) cap).ownBlock = some k → (Value.slice ba d.blocks.length bl).ownBlock = some k ∨ w.heap.size ≤ k) := hat'
  clear hnew hfr far hat hat' hgrow hown' p2 pf2
  go_wp2
  go_end0
  have fr2 := HF.out.setCell ⟨pb, 2, none⟩ (.slice (some ⟨g, 0, none⟩) (d.blocks.length + 1) cap) (Or.inl (hf pb (Or.inr (Or.inl rfl))))
  refine ⟨rfl, ⟨_, _, _, _, HN.out, fun b hb => ?_⟩, fr2⟩
  have hlt2 := HN.out.lt b hb
  rcases hb with hb | hb | hb | hb | hb | hb | hb
  · exact Or.inl (hf b (Or.inl hb))
  · exact Or.inl (hf b (Or.inr (Or.inl hb)))
  · exact Or.inl (hf b (Or.inr (Or.inr (Or.inl hb))))
  · exact Or.inl (hf b (Or.inr (Or.inr (Or.inr (Or.inl hb)))))
  · exact Or.inl (hf b (Or.inr (Or.inr (Or.inr (Or.inr (Or.inl hb))))))
  · rcases HT.out b hb with h | h
    · exact Or.inl (hf b (Or.inr (Or.inr (Or.inr (Or.inr (Or.inr (Or.inl h)))))))
    · exact Or.inr ⟨h, hlt2⟩
  · exact Or.inl (hf b (Or.inr (Or.inr (Or.inr (Or.inr (Or.inr (Or.inr hb)))))))
end Go.Proofs.Qxb6609224a.Rl
