import Derived.Test.Qxb6609224aRlClone
import Derived.Deep.LoopGhost
import Derived.Deep.CutBlock
namespace Go.Proofs.Qxb6609224a.Rl
open Go.RowKit Go.ChangeMaps

/-- The path's last block leaves. -/
def cutBack (d : Dat) : Dat := { d with tokens := lastEnd d.blocks.dropLast, keys := d.keys.dropLast, blocks := d.blocks.dropLast, leaf := false }
/-- One round of the eviction. -/
def step (d : Dat) : Dat := if d.blocks.length = 1 then { cutBack d with spare := d.spare + 1 } else { cutBack d with leaf := free (cutBack d) }
def goes (d : Dat) : Bool := decide (d.cap < d.tokens) && d.leaf
def ev : Nat → Dat → Dat
  | 0, d => d
  | n + 1, d => if goes d then ev n (step d) else d
theorem ev_stop (n : Nat) (d : Dat) (h : goes d = false) : ev n d = d := by
  cases n with
  | zero => rfl
  | succ n => simp [ev, h]
theorem ev_go (n : Nat) (d : Dat) (h : goes d = true) : ev (n + 1) d = ev n (step d) := by simp [ev, h]

structure Ok (d : Dat) : Prop where
  keys : d.keys = d.blocks.map (·.1)
  nodup : d.keys.Nodup
  len : d.blocks.length ≤ 1048576
  ends : ∀ b ∈ d.blocks, 0 ≤ b.2.1 ∧ b.2.1 ≤ 9223372036854775807
  tok : d.tokens = lastEnd d.blocks
  leaf : d.leaf = true → 0 < d.blocks.length ∧ free d = true
  slen : d.stops.length ≤ 1048576
  sp : d.spare + d.blocks.length ≤ 2097152

theorem Ok.step {d : Dat} (h : Ok d) (hg : 0 < d.blocks.length) : Ok (step d) := by
  have hk : d.keys.dropLast = d.blocks.dropLast.map (·.1) := by rw [h.keys, List.map_dropLast]
  have hnd : d.keys.dropLast.Nodup := List.Pairwise.sublist (List.dropLast_sublist _) h.nodup
  have hl : d.blocks.dropLast.length = d.blocks.length - 1 := by simp
  have he : ∀ b ∈ d.blocks.dropLast, 0 ≤ b.2.1 ∧ b.2.1 ≤ 9223372036854775807 := fun b hb => h.ends b (List.dropLast_subset _ hb)
  unfold Rl.step
  have h1 := h.len
  have h2 := h.sp
  by_cases hc : d.blocks.length = 1
  · rw [if_pos hc]
    exact ⟨hk, hnd, by show d.blocks.dropLast.length ≤ _; omega, he, rfl, fun e => (Bool.noConfusion (show false = true from e)), h.slen, by show d.spare + 1 + d.blocks.dropLast.length ≤ _; omega⟩
  · rw [if_neg hc]
    exact ⟨hk, hnd, by show d.blocks.dropLast.length ≤ _; omega, he, rfl, fun e => ⟨by show 0 < d.blocks.dropLast.length; omega, e⟩, h.slen, by show d.spare + d.blocks.dropLast.length ≤ _; omega⟩

theorem last_key {d : Dat} (h : Ok d) (hp : 0 < d.blocks.length) : d.keys = d.keys.dropLast ++ [(d.blocks[d.blocks.length - 1]'(by omega)).1] := by
  have hne : d.keys ≠ [] := by
    intro e
    have := congrArg List.length h.keys
    rw [e] at this
    simp at this; omega
  have := (List.dropLast_concat_getLast hne).symm
  have hl : d.keys.getLast hne = (d.blocks[d.blocks.length - 1]'(by omega)).1 := by
    rw [List.getLast_eq_getElem]
    simp [h.keys]
  rw [hl] at this
  exact this

theorem Fr.setBlock2 {w w1 : World} {F : Nat → Prop} (h : Fr w w1 F) (b : Nat) (o : Obj) (hb : F b ∨ w.heap.size ≤ b) : Fr w (ChangeMaps.setBlock w1 b o) F :=
  ⟨h.os, h.tape, h.output, by have := h.size; simp [ChangeMaps.setBlock]; omega, fun k hk hF => (setBlock_far w1 b o k (fun e => by subst e; rcases hb with hb | hb; exact hF hb; omega)).trans (h.block k hk hF)⟩
theorem At.newTok {B : Nat} {w : World} {rb pb mb : Nat} {d : Dat} {LV SV BV TV : Value} (hA : At B w rb pb mb d LV SV BV TV) (t : Int) : At B (w.setCell ⟨rb, 1, none⟩ (.int .i64 t)) rb pb mb { d with tokens := t } LV SV BV TV := by
  obtain ⟨n1, n2, n3, nl, ns, nb, nt, nbo, nto⟩ := hA.p_ne
  have keep : ∀ b, b ≠ rb → (w.setCell ⟨rb, 1, none⟩ (.int .i64 t)).heap[b]? = w.heap[b]? := fun b h3 => Below.heap_setCell _ _ _ _ h3
  obtain ⟨es, clock, m, hm⟩ := hA.m
  exact ⟨heap_setCell_same w rb 1 _ 81 _ hA.r, (keep pb (Ne.symm n1)).trans hA.p, ⟨es, clock, (keep mb n3).trans m, hm⟩, own_keep hA.l (fun k hk => keep k (nl k hk).2.1), own_keep hA.s (fun k hk => keep k (ns k hk).2.1), own_keep hA.b (fun k hk => keep k (nb k hk).2.1), own_keep hA.t (fun k hk => keep k (nt k hk).2.1), hA.ls, hA.Br, hA.Bp, hA.Bm⟩
theorem own_shrink {B : Nat} {w : World} {g n cap : Nat} {bl : List (Int × Int × Int)} (h : w.ownsRow B 86 4 (.slice (some ⟨g, 0, none⟩) n cap) n (blkCells bl)) (hp : 0 < n) : w.ownsRow B 86 4 (.slice (some ⟨g, 0, none⟩) (n - 1) cap) bl.dropLast.length (blkCells bl.dropLast) := by
  have hlen : bl.length = n := by have := h.1; rw [blkCells_length] at this; omega
  have hl : bl.dropLast.length = n - 1 := by simp [hlen]
  rcases h.2 with ⟨h, _⟩ | ⟨g', cap', cur, h, hb, hg, hnc, hcm, hcs, htake⟩
  · simp at h
  · simp only [Value.slice.injEq, Option.some.injEq, Addr.mk.injEq, and_true, true_and] at h
    obtain ⟨rfl, rfl⟩ := h
    refine ⟨blkCells_length _, Or.inr ⟨g, cap, cur, by rw [hl], hb, hg, by omega, hcm, hcs, ?_⟩⟩
    have e : cur.toList.take (bl.dropLast.length * 4) = (cur.toList.take (n * 4)).take (bl.dropLast.length * 4) := by
      rw [List.take_take, Nat.min_eq_left (by omega)]
    rw [e, htake]
    have hne : bl ≠ [] := by intro e; rw [e] at hlen; simp at hlen; omega
    have hsplit := (List.dropLast_concat_getLast hne).symm
    rw [show blkCells bl = blkCells bl.dropLast ++ blkCells [bl.getLast hne] by rw [← blkCells_append, List.dropLast_concat_getLast]]
    rw [List.take_left' (blkCells_length _)]
theorem own_base {w : World} {B B' : Nat} {e : TypeId} {size : Nat} {v : Value} {n : Nat} {xs : List Value} (h : w.ownsRow B' e size v n xs) (hB : B ≤ B') : w.ownsRow B e size v n xs := by
  obtain ⟨a, b⟩ := h
  refine ⟨a, ?_⟩
  rcases b with b | ⟨g, cap, cur, hv, hb, r⟩
  · exact Or.inl b
  · exact Or.inr ⟨g, cap, cur, hv, Nat.le_trans hB hb, r⟩
theorem fr_of_below {w w1 : World} {G : Nat → Prop} (h : Below w.heap.size w w1) : Fr w w1 G := ⟨h.os, h.tape, h.output, h.size, fun b hb _ => h.block b hb⟩
theorem Fr.trans2 {w w1 w2 : World} {F G : Nat → Prop} (h : Fr w w1 F) (k : Fr w1 w2 G) (hG : ∀ b, G b → F b ∨ w.heap.size ≤ b) : Fr w w2 F :=
  ⟨k.os.trans h.os, k.tape.trans h.tape, k.output.trans h.output, Nat.le_trans h.size k.size, fun b hb hF =>
    (k.block b (Nat.lt_of_lt_of_le hb h.size) (fun hg => by rcases hG b hg with hg | hg; exact hF hg; omega)).trans (h.block b hb hF)⟩
theorem St.tight {B : Nat} {w w' : World} {rb pb mb : Nat} {d : Dat} {F G : Nat → Prop} (h : St B w' rb pb mb d G) (hG : ∀ b, G b → F b ∨ w.heap.size ≤ b) : St B w' rb pb mb d (grow F w w') := by
  obtain ⟨LV, SV, BV, TV, hA, hf⟩ := h
  refine ⟨LV, SV, BV, TV, hA, fun b hb => ?_⟩
  have hlt := hA.lt b hb
  rcases hG b (hf b hb) with h | h
  · exact Or.inl h
  · exact Or.inr ⟨h, hlt⟩
/-- The row of spares turns. -/
theorem At.newS {B : Nat} {w w1 : World} {rb pb mb : Nat} {d : Dat} {LV SV BV TV : Value} (hA : At B w rb pb mb d LV SV BV TV) (far : ∀ b, b < w.heap.size → SV.ownBlock ≠ some b → w1.heap[b]? = w.heap[b]?) {SV' : Value} (n : Nat)
    (hb : w1.ownsRow B 29 1 SV' n (List.replicate n (.pointer (some ⟨pb, 0, none⟩)))) (hat : ∀ k, SV'.ownBlock = some k → SV.ownBlock = some k ∨ w.heap.size ≤ k) : At B (w1.setCell ⟨rb, 5, none⟩ SV') rb pb mb { d with spare := n } LV SV' BV TV := by
  obtain ⟨n1, n2, n3, nl, ns, nb, nt, nbo, nto⟩ := hA.p_ne
  have lt := hA.lt
  have keep : ∀ b, b < w.heap.size → SV.ownBlock ≠ some b → b ≠ rb → (w1.setCell ⟨rb, 5, none⟩ SV').heap[b]? = w.heap[b]? := fun b h1 h2 h3 => (Below.heap_setCell _ _ _ _ h3).trans (far b h1 h2)
  have hr1 : w1.heap[rb]? = _ := (far rb (lt rb (Or.inl rfl)) (fun e => (ns rb e).2.1 rfl)).trans hA.r
  obtain ⟨es, clock, m, hm⟩ := hA.m
  refine ⟨heap_setCell_same w1 rb 5 _ 81 SV' hr1, (keep pb (lt pb (Or.inr (Or.inl rfl))) (fun e => (ns pb e).1 rfl) (Ne.symm n1)).trans hA.p, ⟨es, clock, (keep mb (lt mb (Or.inr (Or.inr (Or.inl rfl)))) (fun e => (ns mb e).2.2 rfl) n3).trans m, hm⟩, ?_, ?_, ?_, ?_, ?_, hA.Br, hA.Bp, hA.Bm⟩
  · exact own_keep hA.l (fun k hk => keep k (lt k (Or.inr (Or.inr (Or.inr (Or.inl hk))))) (hA.ls k hk) (nl k hk).2.1)
  · refine own_keep hb (fun k hk => Below.heap_setCell _ _ _ _ (fun e => ?_))
    rcases hat k hk with h | h
    · exact (ns k h).2.1 e
    · have := lt rb (Or.inl rfl); simp at e; omega
  · exact own_keep hA.b (fun k hk => keep k (lt k (Or.inr (Or.inr (Or.inr (Or.inr (Or.inr (Or.inl hk))))))) (nbo k hk).2.1 (nb k hk).2.1)
  · exact own_keep hA.t (fun k hk => keep k (lt k (Or.inr (Or.inr (Or.inr (Or.inr (Or.inr (Or.inr hk))))))) (nto k hk).2.1 (nt k hk).2.1)
  · intro k hk hs
    rcases hat k hs with h | h
    · exact hA.ls k hk h
    · have := lt k (Or.inr (Or.inr (Or.inr (Or.inl hk)))); omega
theorem clonePost {w w5 : World} {e : Ending} {n : Nat} {xs : List Value} (h : ∃ v', e = .returned v' ∧ w5.ownsRow w.heap.size 86 4 v' n xs ∧ Below w.heap.size w w5) : ∃ va vc, e = .returned (.slice va n vc) ∧ Hid (w5.ownsRow w.heap.size 86 4 (.slice va n vc) n xs ∧ Below w.heap.size w w5) := by
  obtain ⟨v', rfl, h1, h2⟩ := h
  obtain ⟨va, vc, rfl⟩ := own_form h1
  exact ⟨va, vc, rfl, h1, h2⟩
theorem last_tok {d : Dat} (h : Ok d) (hp : 0 < d.blocks.length) : d.tokens = (d.blocks[d.blocks.length - 1]'(by omega)).2.1 := by
  have := lastEnd_take d.blocks (d.blocks.length - 1) (by omega)
  rw [show d.blocks.length - 1 + 1 = d.blocks.length by omega, List.take_length] at this
  rw [h.tok, this]
theorem lastEnd_range (l : List (Int × Int × Int)) (h : ∀ b ∈ l, 0 ≤ b.2.1 ∧ b.2.1 ≤ 9223372036854775807) : 0 ≤ lastEnd l ∧ lastEnd l ≤ 9223372036854775807 := by
  unfold lastEnd
  cases hg : l.getLast? with
  | none => simp
  | some b => simpa using h b (List.mem_of_getLast? hg)

section
variable {B : Nat} {w : World} {rb pb mb : Nat} {d : Dat} {F : Nat → Prop}

set_option maxRecDepth 100000 in
set_option maxHeartbeats 2000000 in
theorem evict54 (h : St B w rb pb mb d F) (hok : Ok d) :
    Calls Try.prog 54 #[.pointer (some ⟨rb, 0, none⟩)] w fun e w' => e = .returned (.tuple #[]) ∧ St B w' rb pb mb (ev d.blocks.length d) (grow F w w') ∧ Fr w w' F := by
  have H0 : Hid (St B w rb pb mb d F) := h
  have O0 : Hid (Ok d) := hok
  clear h hok
  go_enter Try.func54, Try.ntmps54
  go_wp2_with fail
  go_loopg [2] d.blocks.length (fun g s2 wr => ∃ d1, St B wr rb pb mb d1 (grow F w wr) ∧ Fr w wr F ∧ Ok d1 ∧ d1.blocks.length ≤ g ∧ ev g d1 = ev d.blocks.length d)
  case atStart => exact ⟨d, H0.out.mono (fun b hb => Or.inl hb), Fr.refl _ _, O0.out, Nat.le_refl _, rfl⟩
  case round =>
    obtain ⟨d1, hs, hfr, ok, hlen, hev⟩ := hrel
    have HS : Hid (St B wr rb pb mb d1 (grow F w wr)) := hs
    have HF : Hid (Fr w wr F) := hfr
    have HO : Hid (Ok d1) := ok
    have HE : Hid (ev gk d1 = ev d.blocks.length d) := hev
    clear hs hfr ok hev H0 O0
    obtain ⟨LV, SV, BV, TV, hA, hf⟩ := HS.out
    obtain ⟨r0, r1, -, r3, -, -, -⟩ := hA.rc
    obtain ⟨la, lc, hlv⟩ := own_form hA.l
    subst hlv
    by_cases hcap : d1.cap < d1.tokens
    · cases hl : d1.leaf
      · rw [hl] at r3
        simp only [Bool.false_eq_true, if_false] at r3
        have hd : decide (d1.cap < d1.tokens) = true := decide_eq_true hcap
        have hst : Hid (goes d1 = false) := by show _ = _; simp [goes, hl]
        clear hA hf hl
        go_wp2_with fail
        go_quiet (fail)
        go_wp2_with fail
        go_end0
        rw [← HE.out, ev_stop _ _ hst.out]
        exact ⟨rfl, HS.out.drewN _, HF.out.drewN _⟩
      · rw [hl] at r3
        simp only [if_true] at r3
        have hd : decide (d1.cap < d1.tokens) = true := decide_eq_true hcap
        have hst : Hid (goes d1 = true) := by show _ = _; simp [goes, hl, hd]
        obtain ⟨hpos, hfree⟩ := HO.out.leaf hl
        have HPop : Hid (∀ q, Calls Try.prog 59 #[.iface 120 (.pointer (some ⟨rb, 3, none⟩))] (wr.drewN q) fun e w' => e = .returned (.iface 29 (.pointer (some ⟨pb, 0, none⟩))) ∧ St B w' rb pb mb { d1 with leaf := false } (grow F w wr) ∧ Fr (wr.drewN q) w' (grow F w wr)) := fun q => heapPop (HS.out.drewN q) hl
        have hta := assert29 (.pointer (some ⟨pb, 0, none⟩))
        clear hA hf hl
        go_wp2_with fail
        go_quiet (fail)
        go_wp2_with (go_at_call 59; refine (HPop.out _).mono ?_)
        rintro e w1 ⟨rfl, hs1, hf1⟩
        have HF1 : Hid (Fr w w1 F) := (HF.out.drewN _).trans hf1
        clear hf1 HPop r0 r1 r3 HF
        obtain ⟨LV, SV, BV, TV, hA1, hft1⟩ := hs1
        obtain ⟨-, r1, r2, -, -, -, rf⟩ := hA1.rc
        have rf1 := rf 1
        obtain ⟨-, -, p2, -, -, pf⟩ := hA1.pc
        have pf2 := pf 2
        obtain ⟨g, cap, hv, -, c0, c1, -, -⟩ := hA1.blk (d1.blocks.length - 1) (by show _ < d1.blocks.length; omega)
        subst hv
        obtain ⟨es, clock, m, hm⟩ := hA1.m
        have hkk : d1.keys = d1.keys.dropLast ++ [(d1.blocks[d1.blocks.length - 1]'(by omega)).1] := last_key HO.out hpos
        obtain ⟨es', hdel, hes'⟩ := run_del w1.drew 0 mb es clock d1.keys.dropLast _ m (by rw [← hkk]; exact hm) (by rw [← hkk]; exact HO.out.nodup)
        have HA1 : Hid (At B w1 rb pb mb { d1 with leaf := false } LV SV (.slice (some ⟨g, 0, none⟩) d1.blocks.length cap) TV) := hA1
        have HES : Hid (Keys es' d1.keys.dropLast) := hes'
        have HKK : Hid (d1.keys = d1.keys.dropLast ++ [(d1.blocks[d1.blocks.length - 1]'(by omega)).1]) := hkk
        have hn0 : (0 : Int) < d1.blocks.length := by omega
        have hn1 : (d1.blocks.length : Int) ≤ 1048576 := by have := HO.out.len; omega
        have e1 : ((d1.blocks.length - 1 : Nat) : Int) = (d1.blocks.length : Int) - 1 := by omega
        have e2 : ((d1.blocks.length : Int) - 1).toNat = d1.blocks.length - 1 := by omega
        generalize hid : (d1.blocks[d1.blocks.length - 1]'(by omega)).1 = id at *
        generalize hend : (d1.blocks[d1.blocks.length - 1]'(by omega)).2.1 = en at *
        have HEN : Hid ((d1.blocks[d1.blocks.length - 1]'(by omega)).2.1 = en) := hend
        clear hA1 rf pf m hm hes' hkk hid hend
        go_wp2_with fail
        go_region
        have hA2 := (HA1.out.keep (w' := w1.drew) (fun b hb => rfl)).newM es' clock _ HES.out
        have hgr2 : ∀ b, foot rb pb mb LV SV (.slice (some ⟨g, 0, none⟩) d1.blocks.length cap) TV b → grow F w (setBlock w1.drew mb (.map es' clock)) b := fun b hb => by
          have hlt := hA2.lt b hb
          rcases hft1 b hb with h | h
          · exact Or.inl h
          · exact Or.inr ⟨h.1, hlt⟩
        have HF2 : Hid (Fr w (setBlock w1.drew mb (.map es' clock)) F) := HF1.out.drew.setBlock2 mb _ (by
          rcases hft1 mb (Or.inr (Or.inr (Or.inl rfl))) with h | h
          · exact Or.inl h
          · exact Or.inr h.1)
        clear c0 c1 r1 r2 p2 rf1 pf2 hdel HA1 HF1 hft1 HES
        generalize setBlock w1.drew mb (.map es' clock) = w2 at *
        obtain ⟨-, r1, -, -, -, -, rf⟩ := hA2.rc
        have rf1 := rf 1
        obtain ⟨-, -, p2, -, -, pf⟩ := hA2.pc
        have pf2 := pf 2
        obtain ⟨g', cap', hv, -, -, c1, -, -⟩ := hA2.blk (d1.blocks.length - 1) (by show _ < d1.blocks.length; omega)
        simp only [Value.slice.injEq, Option.some.injEq, Addr.mk.injEq, and_true, true_and] at hv
        obtain ⟨rfl, rfl⟩ := hv
        have HA2 : Hid (At B w2 rb pb mb { d1 with leaf := false, keys := d1.keys.dropLast } LV SV (.slice (some ⟨g, 0, none⟩) d1.blocks.length cap) TV) := hA2
        have H60 : Hid (∀ q, Calls Try.prog 60 #[.pointer (some ⟨pb, 0, none⟩), .int .i64 ((d1.blocks.length : Int) - 1)] (w2.drewN q) fun e w' => e = .returned (.int .i64 (lastEnd d1.blocks.dropLast)) ∧ w2.drewN q = w') := fun q => by
          have := start60 (d1.blocks.length - 1) (St.drewN (F := grow F w w2) ⟨_, _, _, _, hA2, hgr2⟩ q) (by show _ ≤ d1.blocks.length; omega) HO.out.len
          rw [e1] at this
          rw [List.dropLast_eq_take]
          exact this
        have HT : Hid (d1.tokens = en) := by rw [← HEN.out]; exact last_tok HO.out hpos
        have hen : 0 ≤ en ∧ en ≤ 9223372036854775807 := by rw [← HEN.out]; exact HO.out.ends _ (List.getElem_mem _)
        have hst0 := lastEnd_range d1.blocks.dropLast (fun b hb => HO.out.ends b (List.dropLast_subset _ hb))
        generalize hsv : lastEnd d1.blocks.dropLast = st at *
        have HSV : Hid (lastEnd d1.blocks.dropLast = st) := hsv
        simp only [] at r1 c1
        rw [HT.out] at r1
        rw [HEN.out] at c1
        obtain ⟨hen0, hen1⟩ := hen
        obtain ⟨hst0, hst1⟩ := hst0
        clear hA2 rf pf hsv
        go_wp2_with fail
        go_cut [] from 46 to 64 (fun wx => wx = (w2.drewN 1).setCell ⟨rb, 1, none⟩ (.int .i64 st))
        case first =>
          have hw1 : IntKind.i64.wrap (en - IntKind.i64.wrap (en - st)) = st := by rw [IntKind.wrap_i64, IntKind.wrap_i64]; omega
          go_region_with (go_at_call 60; refine (H60.out _).mono ?_; rintro e w' ⟨rfl, rfl⟩)
          all_goals (go_wp2_with fail; go_meet; try rfl)
        case rest =>
          subst hcut
          have hA3 := (HA2.out.keep (w' := w2.drewN 1) (fun b hb => rfl)).newTok st
          have HF3 : Hid (Fr w ((w2.drewN 1).setCell ⟨rb, 1, none⟩ (.int .i64 st)) F) := (HF2.out.drewN 1).setCell _ _ (by
            rcases hgr2 rb (Or.inl rfl) with h | h
            · exact Or.inl h
            · exact Or.inr h.1)
          have hgr3 : ∀ b, foot rb pb mb LV SV (.slice (some ⟨g, 0, none⟩) d1.blocks.length cap) TV b → F b ∨ w.heap.size ≤ b := fun b hb => by
            rcases hgr2 b hb with h | h
            · exact Or.inl h
            · exact Or.inr h.1
          obtain ⟨-, -, p2', -, -, pf'⟩ := hA3.pc
          have pf2' := pf' 2
          have hcapn : (d1.blocks.length : Int) ≤ cap := by
            rcases hA3.b.2 with ⟨h, _⟩ | ⟨g', cap', cur, h, hb, hg, hnc, hcm, hcs, htake⟩
            · simp at h
            · simp only [Value.slice.injEq, Option.some.injEq, Addr.mk.injEq, and_true, true_and] at h
              obtain ⟨rfl, rfl⟩ := h
              simp only [] at hnc
              omega
          have hcapm : (cap : Int) ≤ 9223372036854775807 := by
            rcases hA3.b.2 with ⟨h, _⟩ | ⟨g', cap', cur, h, hb, hg, hnc, hcm, hcs, htake⟩
            · simp at h
            · simp only [Value.slice.injEq, Option.some.injEq, Addr.mk.injEq, and_true, true_and] at h
              obtain ⟨rfl, rfl⟩ := h
              unfold maxLen at hcm; omega
          clear r1 rf1 p2 pf2 c1 HF2 hgr2 pf' hen0 hen1 hst0 hst1
          have HA3 : Hid (At B _ rb pb mb { d1 with leaf := false, keys := d1.keys.dropLast, tokens := st } LV SV (.slice (some ⟨g, 0, none⟩) d1.blocks.length cap) TV) := hA3
          clear hA3
          generalize (w2.drewN 1).setCell ⟨rb, 1, none⟩ (.int .i64 st) = w3 at *
          go_upto_region 6 with fail
          have hA4 := HA3.out.newB (w1 := w3) (fun _ _ _ => rfl) (BV' := .slice (some ⟨g, 0, none⟩) (d1.blocks.length - 1) cap) d1.blocks.dropLast (own_shrink HA3.out.b (by omega)) (fun k hk => Or.inl hk)
          have HS4 : Hid (St B (w3.setCell ⟨pb, 2, none⟩ (.slice (some ⟨g, 0, none⟩) (d1.blocks.length - 1) cap)) rb pb mb (cutBack d1) (fun b => F b ∨ w.heap.size ≤ b)) := by
            rw [← HSV.out] at hA4
            exact ⟨_, _, _, _, hA4, hgr3⟩
          have HF4 : Hid (Fr w (w3.setCell ⟨pb, 2, none⟩ (.slice (some ⟨g, 0, none⟩) (d1.blocks.length - 1) cap)) F) := HF3.out.setCell _ _ (hgr3 pb (Or.inr (Or.inl rfl)))
          have hp4 : Hid ((w3.setCell ⟨pb, 2, none⟩ (.slice (some ⟨g, 0, none⟩) (d1.blocks.length - 1) cap)).cell? ⟨pb, 2, none⟩ = some (.slice (some ⟨g, 0, none⟩) (d1.blocks.length - 1) cap)) := hA4.pc.2.2.1
          clear HF3 HA3 p2' pf2' hA4 hgr3 HSV HT
          generalize w3.setCell ⟨pb, 2, none⟩ (.slice (some ⟨g, 0, none⟩) (d1.blocks.length - 1) cap) = w4 at *
          obtain ⟨LV4, SV4, BV4, TV4, hA4, hgr4⟩ := HS4.out
          obtain ⟨-, -, p2, -, -, pf⟩ := hA4.pc
          have pf2 := pf 2
          clear pf
          have hb4 : BV4 = .slice (some ⟨g, 0, none⟩) (d1.blocks.length - 1) cap := by rw [hp4.out] at p2; simpa using p2.symm
          subst hb4
          have HA4 : Hid (At B w4 rb pb mb (cutBack d1) LV4 SV4 (.slice (some ⟨g, 0, none⟩) (d1.blocks.length - 1) cap) TV4) := hA4
          clear hA4
          have hl4 : Hid (d1.blocks.dropLast.length = d1.blocks.length - 1) := by show _ = _; simp
          have H61 : Hid (Calls Try.prog 61 #[.slice (some ⟨g, 0, none⟩) (d1.blocks.length - 1) cap] w4 fun e w' => ∃ v', e = .returned v' ∧ w'.ownsRow w4.heap.size 86 4 v' (d1.blocks.length - 1) (blkCells d1.blocks.dropLast) ∧ Below w4.heap.size w4 w') :=
            clone61 (B := B) g _ cap w4 d1.blocks.dropLast (by omega) (by have := HA4.out.b; rw [show (cutBack d1).blocks.length = d1.blocks.length - 1 from hl4.out] at this; exact this)
          go_upto_region 7 with fail
          go_cut [86] from 79 to 86 (fun s86 wx => (∃ b : Bool, s86 = .bool b) ∧ wx = w4)
          case first =>
            by_cases hbig : (64 : Int) < cap
            · by_cases hq : (d1.blocks.length : Int) - 1 ≤ (cap : Int) / 4
              · go_wp2_with fail
                go_meet
                exact ⟨⟨_, rfl⟩, rfl⟩
              · have hq2 : (cap : Int) / 4 < (d1.blocks.length : Int) - 1 := by omega
                go_wp2_with fail
                go_meet
                exact ⟨⟨_, rfl⟩, rfl⟩
            · go_wp2_with fail
              go_meet
              exact ⟨⟨_, rfl⟩, rfl⟩
          case rest =>
            obtain ⟨⟨bb, rfl⟩, rfl⟩ := hcut
            have HC2 : ∀ (w5 : World) (va : Option Addr) (vc : Nat), _ → w5.cell? ⟨pb, 2, none⟩ = some (.slice (some ⟨g, 0, none⟩) (d1.blocks.length - 1) cap) ∧ w5.frozen? ⟨pb, 2, none⟩ = false := fun w5 va vc (hx : w5.ownsRow wc.heap.size 86 4 (.slice va (d1.blocks.length - 1) vc) (d1.blocks.length - 1) (blkCells d1.blocks.dropLast) ∧ Below wc.heap.size wc w5) => by
              have hlt := HA4.out.lt pb (Or.inr (Or.inl rfl))
              exact ⟨by rw [World.cell?_of_block (hx.2.block pb hlt)]; exact p2, by rw [World.frozen?_of_block (hx.2.block pb hlt)]; exact pf2⟩
            go_upto_if 86 with fail
            go_cut [] from 87 to 94 (fun wx => St B wx rb pb mb (cutBack d1) (fun b => F b ∨ w.heap.size ≤ b) ∧ Fr w wx F)
            case first =>
              cases bb
              · go_wp2_with fail
                go_meet
                exact ⟨HS4.out, HF4.out⟩
              · go_wp2_with (go_at_call 61; refine H61.out.mono ?_; intro e w5 hpost; obtain ⟨va, vc, rfl, HX⟩ := clonePost hpost; clear hpost p2 pf2; obtain ⟨p2, pf2⟩ := HC2 w5 va vc HX.out)
                go_meet
                have hx := HX.out
                have hnew := HA4.out.newB (w1 := w5) (fun b h1 _ => hx.2.block b h1) (BV' := .slice va (d1.blocks.length - 1) vc) d1.blocks.dropLast (by rw [hl4.out]; exact own_base hx.1 (Nat.le_of_lt (Nat.lt_of_le_of_lt HA4.out.Bp (HA4.out.lt pb (Or.inr (Or.inl rfl)))))) (fun k hk => Or.inr (hx.1.lt k hk).1)
                refine ⟨⟨_, _, _, _, hnew, fun b hb => ?_⟩, HF4.out.trans2 ((fr_of_below (G := fun b => F b ∨ w.heap.size ≤ b) hx.2).setCell _ _ (Or.inl (hgr4 pb (Or.inr (Or.inl rfl))))) (fun b hb => hb)⟩
                have hsz := HF4.out.size
                rcases hb with hb | hb | hb | hb | hb | hb | hb
                · exact hgr4 b (Or.inl hb)
                · exact hgr4 b (Or.inr (Or.inl hb))
                · exact hgr4 b (Or.inr (Or.inr (Or.inl hb)))
                · exact hgr4 b (Or.inr (Or.inr (Or.inr (Or.inl hb))))
                · exact hgr4 b (Or.inr (Or.inr (Or.inr (Or.inr (Or.inl hb)))))
                · exact Or.inr (Nat.le_trans hsz (hx.1.lt b hb).1)
                · exact hgr4 b (Or.inr (Or.inr (Or.inr (Or.inr (Or.inr (Or.inr hb))))))
            case rest =>
              clear HC2 H61 HF4 HS4 HA4 hgr4 p2 pf2 hp4
              obtain ⟨hs5, hf5⟩ := hcut
              have HS5 : Hid (St B wc rb pb mb (cutBack d1) (fun b => F b ∨ w.heap.size ≤ b)) := hs5
              have HF5 : Hid (Fr w wc F) := hf5
              clear hs5 hf5
              by_cases hz : d1.blocks.length = 1
              · have HZ : Hid (d1.blocks.length = 1) := hz
                obtain ⟨LV5, SV5, BV5, TV5, hA5, hgr5⟩ := HS5.out
                obtain ⟨p0, -, -, -, -, -⟩ := hA5.pc
                obtain ⟨-, -, -, -, -, r5, rf⟩ := hA5.rc
                have rf5 := rf 5
                obtain ⟨sa, sc, hsv⟩ := own_form hA5.s
                subst hsv
                have HA5 : Hid (At B wc rb pb mb (cutBack d1) LV5 (.slice sa d1.spare sc) BV5 TV5) := hA5
                have hrlt := hA5.lt rb (Or.inl rfl)
                have hBw : B ≤ wc.heap.size := Nat.le_of_lt (Nat.lt_of_le_of_lt hA5.Br hrlt)
                have hspb := HO.out.sp
                obtain ⟨i0, hi, hz0, hz1, hz2⟩ := info_parts info29
                clear hA5 rf
                simp only [hz]
                go_wp2_with (at_builtin; go_must (refine wpList_append_lies _ rfl (.tmp 132) (.tmp 134) 78 rfl B 29 i0 (.pointer none) 1 8 Try.underlying78 hi hz0 hz1 hz2 rfl (by decide) (.slice sa d1.spare sc) d1.spare (List.replicate d1.spare (.pointer (some ⟨pb, 0, none⟩))) rfl ?hown ⟨wc.heap.size, 0, none⟩ 1 1 [.pointer (some ⟨pb, 0, none⟩)] rfl rfl ?c1 ?c2 (by decide) ?c3 ?c4 ?c5 (wc.heap.size + 1) ?c6 ?_))
                case hown => exact HA5.out.s.alloc _
                case c2 => simp [Value.oneCell']
                case c3 => unfold maxLen; omega
                case c4 => omega
                case c5 => omega
                intro g6 cap6 w6 hown' hgrow hat hlt
                have far : ∀ b, b < wc.heap.size → (Value.slice sa d1.spare sc).ownBlock ≠ some b → w6.heap[b]? = wc.heap[b]? := fun b h1 h2 => (hgrow.block b (by simp; omega) (Ne.symm h2)).trans (Below.heap_alloc _ _ _ h1)
                have hat' : ∀ k, (Value.slice (some ⟨g6, 0, none⟩) (d1.spare + 1) cap6).ownBlock = some k → (Value.slice sa d1.spare sc).ownBlock = some k ∨ wc.heap.size ≤ k := by
                  intro k hk
                  simp only [Value.ownBlock, Option.some.injEq] at hk
                  subst hk
                  rcases hat with h | h
                  · exact Or.inl h
                  · exact Or.inr (by omega)
                have hnew := HA5.out.newS far (SV' := .slice (some ⟨g6, 0, none⟩) (d1.spare + 1) cap6) (d1.spare + 1) (by rw [List.replicate_succ']; simpa using hown') hat'
                have e3 := far rb hrlt (fun e => (HA5.out.p_ne.2.2.2.2.1 rb e).2.1 rfl)
                have hc2 : w6.cell? ⟨rb, 5, none⟩ = some (.slice sa d1.spare sc) := by
                  rw [World.cell?_of_block (w := wc) e3]; exact r5
                have hf2 : w6.frozen? ⟨rb, 5, none⟩ = false := by
                  rw [World.frozen?_of_block (w := wc) e3]; exact rf5
                have HN : Hid (At B (w6.setCell ⟨rb, 5, none⟩ (.slice (some ⟨g6, 0, none⟩) (d1.spare + 1) cap6)) rb pb mb { cutBack d1 with spare := d1.spare + 1 } LV5 (.slice (some ⟨g6, 0, none⟩) (d1.spare + 1) cap6) BV5 TV5) := hnew
                have HFF : Hid (Fr w w6 F) := (HF5.out.alloc _).grown hgrow (fun k hk => hgr5 k (Or.inr (Or.inr (Or.inr (Or.inr (Or.inl hk))))))
                have HT6 : Hid (∀ k, (Value.slice (some ⟨g6, 0, none⟩) (d1.spare + 1) cap6).ownBlock = some k → (Value.slice sa d1.spare sc).ownBlock = some k ∨ wc.heap.size ≤ k) := hat'
                clear hnew far hat hat' hgrow hown' r5 rf5 e3
                go_wp2_with fail
                go_roundg (gk - 1)
                case measure => omega
                case rel =>
                  have hstep : step d1 = { cutBack d1 with spare := d1.spare + 1 } := by unfold step; rw [if_pos HZ.out]
                  have hG : ∀ b, foot rb pb mb LV5 (.slice (some ⟨g6, 0, none⟩) (d1.spare + 1) cap6) BV5 TV5 b → F b ∨ w.heap.size ≤ b := fun b hb => by
                    rcases hb with hb | hb | hb | hb | hb | hb | hb
                    · exact hgr5 b (Or.inl hb)
                    · exact hgr5 b (Or.inr (Or.inl hb))
                    · exact hgr5 b (Or.inr (Or.inr (Or.inl hb)))
                    · exact hgr5 b (Or.inr (Or.inr (Or.inr (Or.inl hb))))
                    · rcases HT6.out b hb with h | h
                      · exact hgr5 b (Or.inr (Or.inr (Or.inr (Or.inr (Or.inl h)))))
                      · exact Or.inr (Nat.le_trans HF5.out.size h)
                    · exact hgr5 b (Or.inr (Or.inr (Or.inr (Or.inr (Or.inr (Or.inl hb))))))
                    · exact hgr5 b (Or.inr (Or.inr (Or.inr (Or.inr (Or.inr (Or.inr hb))))))
                  refine ⟨step d1, by rw [hstep]; exact St.tight ⟨_, _, _, _, HN.out, hG⟩ (fun b hb => hb), HFF.out.setCell _ _ (hgr5 rb (Or.inl rfl)), HO.out.step (by have := HZ.out; omega), by rw [hstep]; show d1.blocks.dropLast.length ≤ _; have := HZ.out; simp; omega, ?_⟩
                  rw [← HE.out, show gk = gk - 1 + 1 by omega, ev_go _ _ hst.out]
                  rfl
              · have hz2 : (0 : Int) < (d1.blocks.length : Int) - 1 := by omega
                have HFile : Hid (Calls Try.prog 44 #[.pointer (some ⟨rb, 0, none⟩), .pointer (some ⟨pb, 0, none⟩)] wc fun e w' => e = .returned (.tuple #[]) ∧ St B w' rb pb mb { cutBack d1 with leaf := free (cutBack d1) } (grow (fun b => F b ∨ w.heap.size ≤ b) wc w') ∧ Fr wc w' (fun b => F b ∨ w.heap.size ≤ b)) :=
                  file44 HS5.out (by show 0 < d1.blocks.dropLast.length; simp; omega) (by show d1.blocks.dropLast.length ≤ _; have := HO.out.len; simp; omega) HO.out.slen (fun e => Bool.noConfusion (show false = true from e))
                go_wp2_with (go_at_call 44; refine HFile.out.mono ?_; rintro e w6 ⟨rfl, hs6, hf6⟩; have HS6 : Hid (St B w6 rb pb mb { cutBack d1 with leaf := free (cutBack d1) } (grow (fun b => F b ∨ w.heap.size ≤ b) wc w6)) := hs6; have HF6 : Hid (Fr wc w6 (fun b => F b ∨ w.heap.size ≤ b)) := hf6; clear hs6 hf6)
                go_roundg (gk - 1)
                case measure => omega
                case rel =>
                  have hG : ∀ b, grow (fun b => F b ∨ w.heap.size ≤ b) wc w6 b → F b ∨ w.heap.size ≤ b := fun b hb => by
                    have := HF5.out.size
                    rcases hb with hb | hb
                    · exact hb
                    · exact Or.inr (by omega)
                  have hstep : step d1 = { cutBack d1 with leaf := free (cutBack d1) } := by unfold step; rw [if_neg hz]
                  refine ⟨step d1, by rw [hstep]; exact HS6.out.tight hG, HF5.out.trans2 HF6.out (fun b hb => hb), HO.out.step hpos, by rw [hstep]; show d1.blocks.dropLast.length ≤ _; simp; omega, ?_⟩
                  rw [← HE.out, show gk = gk - 1 + 1 by omega, ev_go _ _ hst.out]
                  rfl
    · have hd : decide (d1.cap < d1.tokens) = false := decide_eq_false hcap
      have hst : Hid (goes d1 = false) := by show _ = _; simp [goes, hd]
      clear hA hf
      go_wp2_with fail
      go_quiet (fail)
      go_wp2_with fail
      go_end0
      rw [← HE.out, ev_stop _ _ hst.out]
      exact ⟨rfl, HS.out.drewN _, HF.out.drewN _⟩
end
end Go.Proofs.Qxb6609224a.Rl
