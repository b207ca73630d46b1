import Derived.Test.Qxb6609224aRlEvict
namespace Go.Proofs.Qxb6609224a.Rl
open Go.RowKit

/-- Block i is stamped. -/
def stamp (l : List (Int × Int × Int)) (i : Nat) (u : Int) : List (Int × Int × Int) := l.modify i (fun b => (b.1, b.2.1, u))
theorem stamp_length (l : List (Int × Int × Int)) (i : Nat) (u : Int) : (stamp l i u).length = l.length := by simp [stamp]
theorem stamp_cells : ∀ (l : List (Int × Int × Int)) (i : Nat) (u : Int), i < l.length → blkCells (stamp l i u) = (blkCells l).set (i * 4 + 2) (.int .u64 u)
  | b :: r, 0, u, _ => by simp [stamp, blkCells, blkCell]
  | b :: r, i + 1, u, h => by
    have := stamp_cells r i u (by simpa using h)
    simp only [stamp, List.modify_succ_cons, blkCells, List.flatMap_cons] at this ⊢
    rw [this]
    rw [List.set_append, if_neg (by simp [blkCell]; omega)]
    simp only [blkCell, List.length_cons, List.length_nil]
    rw [show (i + 1) * 4 + 2 - (0 + 1 + 1 + 1 + 1) = i * 4 + 2 by omega]

section
variable {B : Nat} {w : World} {rb pb mb : Nat} {d : Dat} {F : Nat → Prop}

theorem At.newEnded {LV SV BV TV : Value} (hA : At B w rb pb mb d LV SV BV TV) (t : Int) : At B (w.setCell ⟨rb, 4, none⟩ (.int .u64 t)) rb pb mb { d with ended := t } LV SV BV TV := by
  obtain ⟨n1, n2, n3, nl, ns, nb, nt, nbo, nto⟩ := hA.p_ne
  have keep : ∀ b, b ≠ rb → (w.setCell ⟨rb, 4, none⟩ (.int .u64 t)).heap[b]? = w.heap[b]? := fun b h3 => Below.heap_setCell _ _ _ _ h3
  obtain ⟨es, clock, m, hm⟩ := hA.m
  exact ⟨heap_setCell_same w rb 4 _ 81 _ hA.r, (keep pb (Ne.symm n1)).trans hA.p, ⟨es, clock, (keep mb n3).trans m, hm⟩, own_keep hA.l (fun k hk => keep k (nl k hk).2.1), own_keep hA.s (fun k hk => keep k (ns k hk).2.1), own_keep hA.b (fun k hk => keep k (nb k hk).2.1), own_keep hA.t (fun k hk => keep k (nt k hk).2.1), hA.ls, hA.Br, hA.Bp, hA.Bm⟩

theorem At.newUsed {g cap : Nat} {LV SV TV : Value} (hA : At B w rb pb mb d LV SV (.slice (some ⟨g, 0, none⟩) d.blocks.length cap) TV) (i : Nat) (hi : i < d.blocks.length) (u : Int) :
    At B (w.setCell ⟨g, i * 4 + 2, none⟩ (.int .u64 u)) rb pb mb { d with blocks := stamp d.blocks i u } LV SV (.slice (some ⟨g, 0, none⟩) d.blocks.length cap) TV := by
  obtain ⟨n1, n2, n3, nl, ns, nb, nt, nbo, nto⟩ := hA.p_ne
  obtain ⟨q1, q2, q3⟩ := nb g rfl
  obtain ⟨o1, o2, o3⟩ := nbo g rfl
  have keep : ∀ b, b ≠ g → (w.setCell ⟨g, i * 4 + 2, none⟩ (.int .u64 u)).heap[b]? = w.heap[b]? := fun b h3 => Below.heap_setCell _ _ _ _ h3
  obtain ⟨es, clock, m, hm⟩ := hA.m
  refine ⟨(keep rb (Ne.symm q2)).trans hA.r, (keep pb (Ne.symm q1)).trans hA.p, ⟨es, clock, (keep mb (Ne.symm q3)).trans m, hm⟩, own_keep hA.l (fun k hk => keep k (fun e => o1 (e ▸ hk))), own_keep hA.s (fun k hk => keep k (fun e => o2 (e ▸ hk))), ?_, own_keep hA.t (fun k hk => keep k (fun e => o3 (e ▸ hk))), hA.ls, hA.Br, hA.Bp, hA.Bm⟩
  show (w.setCell ⟨g, i * 4 + 2, none⟩ (.int .u64 u)).ownsRow B 86 4 _ (stamp d.blocks i u).length (blkCells (stamp d.blocks i u))
  rw [stamp_length, stamp_cells _ _ _ hi]
  have ho := hA.b
  rcases ho.2 with ⟨h, _⟩ | ⟨g', cap', cur, h, hb, hg, hnc, hcm, hcs, htake⟩
  · simp at h
  · simp only [Value.slice.injEq, Option.some.injEq, Addr.mk.injEq, and_true, true_and] at h
    obtain ⟨rfl, rfl⟩ := h
    refine ⟨by rw [List.length_set]; exact ho.1, Or.inr ⟨g, cap, _, rfl, hb, heap_setCell_same w g _ cur 86 _ hg, hnc, hcm, by simpa using hcs, ?_⟩⟩
    rw [← htake, Array.toList_setIfInBounds, List.take_set]

theorem St.lts (h : St B w rb pb mb d F) : St B w rb pb mb d (fun b => F b ∧ b < w.heap.size) := by
  obtain ⟨LV, SV, BV, TV, hA, hf⟩ := h
  exact ⟨LV, SV, BV, TV, hA, fun b hb => ⟨hf b hb, hA.lt b hb⟩⟩

/-- What a release makes of the record, ahead of the eviction. -/
def rel1 (d : Dat) (i : Nat) (u : Int) : Dat := { d with ended := u, blocks := stamp d.blocks i u, stops := drop1 d.stops i }
def rel2 (d : Dat) (i : Nat) (u : Int) : Dat := { rel1 d i u with leaf := free (rel1 d i u) }
def rel (d : Dat) (i : Nat) (u : Int) : Dat := ev d.blocks.length (rel2 d i u)

theorem top_mono (S : List Int) (i : Int) (hs : S.Pairwise (· ≤ ·)) (hi : i ∈ S) (h0 : ∀ x ∈ S, 0 ≤ x) : top (drop1 S i) ≤ top S := by
  have hsub : (drop1 S i).Sublist S := List.eraseIdx_sublist _ _
  unfold top
  rw [List.getLastD_eq_getLast?, List.getLastD_eq_getLast?]
  have hne : S ≠ [] := fun e => by rw [e] at hi; simp at hi
  cases hg : (drop1 S i).getLast? with
  | none =>
    rw [List.getLast?_eq_some_getLast hne]
    simp only [Option.getD_none, Option.getD_some]
    have := h0 _ (List.getLast_mem hne)
    omega
  | some y =>
    have hy : y ∈ S := hsub.subset (List.mem_of_getLast? hg)
    rw [List.getLast?_eq_some_getLast hne]
    simp only [Option.getD_some]
    have hsplit := (List.dropLast_concat_getLast hne).symm
    rw [hsplit] at hs hy
    rw [List.pairwise_append] at hs
    rcases List.mem_append.1 hy with h | h
    · exact hs.2.2 y h _ (by simp)
    · simp at h; omega

theorem Ok.rel2 {i : Nat} {u : Int} (h : Ok d) (hi : i < d.blocks.length) : Ok (rel2 d i u) := by
  have hl : (stamp d.blocks i u).length = d.blocks.length := stamp_length _ _ _
  have hmap : (stamp d.blocks i u).map (·.1) = d.blocks.map (·.1) := by
    apply List.ext_getElem?
    intro j
    simp only [stamp, List.getElem?_map, List.getElem?_modify]
    by_cases e : i = j
    · subst e; cases d.blocks[i]? <;> simp
    · simp [e]
  have hends : ∀ b ∈ stamp d.blocks i u, 0 ≤ b.2.1 ∧ b.2.1 ≤ 9223372036854775807 := by
    intro b hb
    obtain ⟨j, hj⟩ := List.mem_iff_getElem?.1 hb
    simp only [stamp, List.getElem?_modify] at hj
    cases hx : d.blocks[j]? with
    | none => rw [hx] at hj; simp at hj
    | some x =>
      rw [hx] at hj
      have hm := h.ends x (List.mem_of_getElem? hx)
      by_cases e : i = j
      · simp [e] at hj; subst hj; exact hm
      · simp [e] at hj; subst hj; exact hm
  have hlast : lastEnd (stamp d.blocks i u) = lastEnd d.blocks := by
    unfold lastEnd
    rw [List.getLast?_eq_getElem?, List.getLast?_eq_getElem?, hl]
    simp only [stamp, List.getElem?_modify]
    by_cases e : i = d.blocks.length - 1
    · simp only [← e, if_true]; cases d.blocks[i]? <;> simp
    · simp [e]
  have hsl : (drop1 d.stops i).length ≤ d.stops.length := (List.eraseIdx_sublist _ _).length_le
  refine ⟨?_, h.nodup, ?_, hends, ?_, ?_, ?_, ?_⟩
  · show d.keys = (stamp d.blocks i u).map (·.1); rw [hmap]; exact h.keys
  · show (stamp d.blocks i u).length ≤ _; rw [hl]; exact h.len
  · show d.tokens = lastEnd (stamp d.blocks i u); rw [hlast]; exact h.tok
  · intro e; exact ⟨by show 0 < (stamp d.blocks i u).length; omega, e⟩
  · exact Nat.le_trans hsl h.slen
  · show d.spare + (stamp d.blocks i u).length ≤ _; rw [hl]; exact h.sp

/-- The blocks that may turn: those in F, and those behind block n. -/
def Gd (F : Nat → Prop) (n : Nat) (b : Nat) : Prop := (F b ∧ b < n) ∨ n < b
theorem Gd_not (F : Nat → Prop) (n : Nat) : ¬ Gd F n n := fun h => by rcases h with h | h <;> omega
theorem after {w1 w2 : World} {n : Nat} {o : Obj} (hs : St B w2 rb pb mb d (grow (Gd F n) w1 w2)) (hf : Fr w1 w2 (Gd F n)) (hb : w1.heap[n]? = some o) : St B w2 rb pb mb d (Gd F n) ∧ w2.heap[n]? = some o := by
  have hlt := lt_of_block hb
  refine ⟨hs.mono (fun b h => ?_), (hf.block n hlt (Gd_not F n)).trans hb⟩
  rcases h with h | h
  · exact h
  · exact Or.inr (by omega)

/-- The tokens up to block i that are still held. -/
def heldOf (d : Dat) (i : Nat) : Int := if d.stops.length = 0 then 0 else ((d.blocks[(min (i : Int) (top d.stops)).toNat]?).map (·.2.1)).getD 0

theorem held53 (i : Nat) (h : St B w rb pb mb d F) (hn : d.stops.length ≤ 1048576) (hi : i < d.blocks.length) (h0 : ∀ x ∈ d.stops, 0 ≤ x) :
    Calls Try.prog 53 #[.agg #[.pointer (some ⟨pb, 0, none⟩), .int .i64 i]] w fun e w' => e = .returned (.int .i64 (heldOf d i)) ∧ St B w' rb pb mb d F ∧ Fr w w' (fun _ => False) := by
  by_cases hz : d.stops.length = 0
  · have := heldNone (i : Int) h hz
    unfold heldOf
    rw [if_pos hz]
    exact this
  · have ht : 0 ≤ top d.stops := by
      rw [top_eq _ (by omega)]
      exact h0 _ (List.getElem_mem _)
    have hm : (((min (i : Int) (top d.stops)).toNat : Nat) : Int) = min (i : Int) (top d.stops) := by omega
    have hj : (min (i : Int) (top d.stops)).toNat < d.blocks.length := by omega
    have := heldSome (i : Int) _ h (by omega) hn hj hm
    unfold heldOf
    rw [if_neg hz, List.getElem?_eq_getElem hj]
    exact this

set_option maxRecDepth 100000 in
set_option maxHeartbeats 1000000 in
theorem release45 (i : Nat) (h : St B w rb pb mb d F) (hi : i < d.blocks.length) (ok : Ok d) (hs : d.stops.Pairwise (· ≤ ·)) (h0 : ∀ x ∈ d.stops, 0 ≤ x) (him : (i : Int) ∈ d.stops) :
    Calls Try.prog 45 #[.pointer (some ⟨rb, 0, none⟩), .agg #[.pointer (some ⟨pb, 0, none⟩), .int .i64 i]] w fun e w' => e = .returned (.int .i64 (heldOf (rel1 d i (IntKind.u64.wrap (d.ended + 1))) i)) ∧ St B w' rb pb mb (rel d i (IntKind.u64.wrap (d.ended + 1))) (grow F w w') ∧ Fr w w' F := by
  obtain ⟨LV, SV, BV, TV, hA, hf⟩ := h
  obtain ⟨g, cap, hv, -, -, -, c2, -⟩ := hA.blk i hi
  subst hv
  obtain ⟨-, -, p2, -, -, -⟩ := hA.pc
  obtain ⟨-, -, -, -, r4, -, rf⟩ := hA.rc
  have rf4 := rf 4
  have hrlt := hA.lt rb (Or.inl rfl)
  have hplt := hA.lt pb (Or.inr (Or.inl rfl))
  have hglt : g < w.heap.size := hA.lt g (Or.inr (Or.inr (Or.inr (Or.inr (Or.inr (Or.inl rfl))))))
  have hgr : ¬ g = rb := (hA.p_ne.2.2.2.2.2.1 g rfl).2.1
  have hrp : ¬ rb = pb := hA.p_ne.1
  have gf2 : w.frozen? ⟨g, i * 4 + 2, none⟩ = false := by
    obtain ⟨cur, hc⟩ := own_blk hA.b g rfl
    exact frozen_of_row _ _ _ _ _ hc
  have hib : (i : Int) < d.blocks.length := by omega
  have hib2 : (i : Int) ≤ 1048576 := by have := ok.len; omega
  have HA : Hid (At B w rb pb mb d LV SV (.slice (some ⟨g, 0, none⟩) d.blocks.length cap) TV) := hA
  have HOK : Hid (Ok d) := ok
  have HSO : Hid (d.stops.Pairwise (· ≤ ·)) := hs
  have H0 : Hid (∀ x ∈ d.stops, 0 ≤ x) := h0
  have HIM : Hid ((i : Int) ∈ d.stops) := him
  clear hA rf ok hs h0 him
  go_enter Try.func45, Try.ntmps45
  go_wp2_with fail
  go_region
  go_upto_region 3 with fail
  generalize hu : IntKind.u64.wrap (d.ended + 1) = u at *
  have HS0 : Hid (St B (((w.setCell ⟨rb, 4, none⟩ (.int .u64 u)).setCell ⟨g, i * 4 + 2, none⟩ (.int .u64 u)).alloc (.cells #[.pointer (some ⟨pb, 0, none⟩), .int .i64 i] 88)).drew rb pb mb { d with ended := u, blocks := stamp d.blocks i u } (Gd F w.heap.size)) := by
    have hb := (HA.out.newEnded u).newUsed i hi u
    refine ⟨_, _, _, _, hb.keep (fun b hfb => Below.heap_alloc _ _ _ (by simpa using hb.lt b hfb)), fun b hfb => Or.inl ⟨hf b hfb, by simpa using hb.lt b hfb⟩⟩
  have HF0 : Hid (Fr w (((w.setCell ⟨rb, 4, none⟩ (.int .u64 u)).setCell ⟨g, i * 4 + 2, none⟩ (.int .u64 u)).alloc (.cells #[.pointer (some ⟨pb, 0, none⟩), .int .i64 i] 88)).drew F) :=
    ((((Fr.refl w F).setCell _ _ (Or.inl (hf rb (Or.inl rfl)))).setCell _ _ (Or.inl (hf g (Or.inr (Or.inr (Or.inr (Or.inr (Or.inr (Or.inl rfl)))))))) ).alloc _).drew
  have hbx : (((w.setCell ⟨rb, 4, none⟩ (.int .u64 u)).setCell ⟨g, i * 4 + 2, none⟩ (.int .u64 u)).alloc (.cells #[.pointer (some ⟨pb, 0, none⟩), .int .i64 i] 88)).drew.heap[w.heap.size]? = some (.cells #[.pointer (some ⟨pb, 0, none⟩), .int .i64 i] 88 (0, 0)) := by
    have := heap_alloc_new ((w.setCell ⟨rb, 4, none⟩ (.int .u64 u)).setCell ⟨g, i * 4 + 2, none⟩ (.int .u64 u)) (.cells #[.pointer (some ⟨pb, 0, none⟩), .int .i64 i] 88)
    have this' : (((w.setCell ⟨rb, 4, none⟩ (.int .u64 u)).setCell ⟨g, i * 4 + 2, none⟩ (.int .u64 u)).alloc (.cells #[.pointer (some ⟨pb, 0, none⟩), .int .i64 i] 88)).heap[w.heap.size]? = some (.cells #[.pointer (some ⟨pb, 0, none⟩), .int .i64 i] 88 (0, 0)) := by simpa using this
    exact this'
  clear c2 p2 r4 rf4 gf2 HA hf hgr hglt hrlt hplt hrp
  generalize (((w.setCell ⟨rb, 4, none⟩ (.int .u64 u)).setCell ⟨g, i * 4 + 2, none⟩ (.int .u64 u)).alloc (.cells #[.pointer (some ⟨pb, 0, none⟩), .int .i64 i] 88)).drew = w0 at *
  have H52 : Hid (Calls Try.prog 52 #[.pointer (some ⟨pb, 0, none⟩), .int .i64 i] w0 fun e w' => e = .returned (.tuple #[]) ∧ St B w' rb pb mb (rel1 d i u) (grow (Gd F w.heap.size) w0 w') ∧ Fr w0 w' (Gd F w.heap.size)) :=
    pathRelease (d := { d with ended := u, blocks := stamp d.blocks i u }) (i : Int) HS0.out HOK.out.slen HSO.out HIM.out (by omega) hib2
  have x0 : w0.cell? ⟨w.heap.size, 0, none⟩ = some (.pointer (some ⟨pb, 0, none⟩)) := by rw [cell_of_row _ _ _ _ _ _ hbx]; rfl
  have x1 : w0.cell? ⟨w.heap.size, 1, none⟩ = some (.int .i64 i) := by rw [cell_of_row _ _ _ _ _ _ hbx]; rfl
  have HBX : Hid (w0.heap[w.heap.size]? = some (.cells #[.pointer (some ⟨pb, 0, none⟩), .int .i64 i] 88 (0, 0))) := hbx
  clear hbx
  go_upto_region 4 with (go_at_call 52; refine H52.out.mono ?_; rintro e w1 ⟨rfl, hs1, hf1⟩; have HP1 := after hs1 hf1 HBX.out; have HF1 : Hid (Fr w0 w1 (Gd F w.heap.size)) := hf1; have HQ1 : Hid (_ ∧ _) := HP1; clear hs1 hf1 HP1 x0 x1 H52)
  have x0 : w1.cell? ⟨w.heap.size, 0, none⟩ = some (.pointer (some ⟨pb, 0, none⟩)) := by rw [cell_of_row _ _ _ _ _ _ HQ1.out.2]; rfl
  have x1 : w1.cell? ⟨w.heap.size, 1, none⟩ = some (.int .i64 i) := by rw [cell_of_row _ _ _ _ _ _ HQ1.out.2]; rfl
  have hsub : ∀ x ∈ (rel1 d i u).stops, 0 ≤ x := fun x hx => H0.out x ((List.eraseIdx_sublist _ _).subset hx)
  have hl1 : (rel1 d i u).stops.length ≤ d.stops.length := (List.eraseIdx_sublist _ _).length_le
  have hok2 : Ok (rel2 d i u) := HOK.out.rel2 hi
  have H53 : Hid (Calls Try.prog 53 #[.agg #[.pointer (some ⟨pb, 0, none⟩), .int .i64 i]] w1 fun e w' => e = .returned (.int .i64 (heldOf (rel1 d i u) i)) ∧ St B w' rb pb mb (rel1 d i u) (Gd F w.heap.size) ∧ Fr w1 w' (fun _ => False)) :=
    held53 i HQ1.out.1 (Nat.le_trans hl1 HOK.out.slen) (by show i < (stamp d.blocks i u).length; rw [stamp_length]; exact hi) hsub
  have HK2 : Hid (Ok (rel2 d i u)) := hok2
  have HL1 : Hid ((rel1 d i u).stops.length ≤ d.stops.length) := hl1
  have HSB : Hid (∀ x ∈ (rel1 d i u).stops, 0 ≤ x) := hsub
  clear hsub hl1 hok2
  go_upto_region 5 with (go_at_call 53; refine H53.out.mono ?_; rintro e w2 ⟨rfl, hs2, hf2⟩; have HS2 : Hid (St B w2 rb pb mb (rel1 d i u) (Gd F w.heap.size)) := hs2; have HF2 : Hid (Fr w1 w2 (fun _ => False)) := hf2; clear hs2 hf2 x0 x1 H53)
  have hb2 : w2.heap[w.heap.size]? = _ := (HF2.out.block _ (lt_of_block HQ1.out.2) (fun h => h)).trans HQ1.out.2
  have x0 : w2.cell? ⟨w.heap.size, 0, none⟩ = some (.pointer (some ⟨pb, 0, none⟩)) := by rw [cell_of_row _ _ _ _ _ _ hb2]; rfl
  have hln : (rel1 d i u).blocks.length = d.blocks.length := stamp_length _ _ _
  have hlf : (rel1 d i u).leaf = true → free (rel1 d i u) = true := fun e => by
    have h1 := (HOK.out.leaf e).2
    have h2 := top_mono d.stops i HSO.out HIM.out H0.out
    unfold free at h1 ⊢
    rw [hln]
    simp only [decide_eq_true_eq] at h1 ⊢
    show top (drop1 d.stops i) < _
    omega
  have H44 : Hid (Calls Try.prog 44 #[.pointer (some ⟨rb, 0, none⟩), .pointer (some ⟨pb, 0, none⟩)] w2 fun e w' => e = .returned (.tuple #[]) ∧ St B w' rb pb mb (rel2 d i u) (grow (Gd F w.heap.size) w2 w') ∧ Fr w2 w' (Gd F w.heap.size)) :=
    file44 HS2.out (by rw [hln]; omega) (by rw [hln]; exact HOK.out.len) (Nat.le_trans HL1.out HOK.out.slen) hlf
  have HB2 : Hid (w2.heap[w.heap.size]? = some (.cells #[.pointer (some ⟨pb, 0, none⟩), .int .i64 i] 88 (0, 0))) := hb2
  clear hb2 hlf hln
  go_upto_region 6 with (go_at_call 44; refine H44.out.mono ?_; rintro e w3 ⟨rfl, hs3, hf3⟩; have HP3 := after hs3 hf3 HB2.out; have HF3 : Hid (Fr w2 w3 (Gd F w.heap.size)) := hf3; have HQ3 : Hid (_ ∧ _) := HP3; clear hs3 hf3 HP3 x0 H44)
  have H54 : Hid (Calls Try.prog 54 #[.pointer (some ⟨rb, 0, none⟩)] w3 fun e w' => e = .returned (.tuple #[]) ∧ St B w' rb pb mb (rel d i u) (grow (Gd F w.heap.size) w3 w') ∧ Fr w3 w' (Gd F w.heap.size)) := by
    have := evict54 HQ3.out.1 HK2.out
    rw [show (rel2 d i u).blocks.length = d.blocks.length from stamp_length _ _ _] at this
    exact this
  go_wp2_with (go_at_call 54; refine H54.out.mono ?_; rintro e w4 ⟨rfl, hs4, hf4⟩; have HF4 : Hid (Fr w3 w4 (Gd F w.heap.size)) := hf4; have HS4 : Hid (St B w4 rb pb mb (rel d i u) (grow (Gd F w.heap.size) w3 w4)) := hs4; clear hs4 hf4 H54)
  go_ret
  have hG : ∀ b, Gd F w.heap.size b → F b ∨ w.heap.size ≤ b := fun b hb => by
    rcases hb with h | h
    · exact Or.inl h.1
    · exact Or.inr (by omega)
  have f3 := ((HF0.out.trans2 HF1.out hG).trans2 HF2.out (fun b hb => hb.elim)).trans2 HF3.out hG
  subst hu
  refine ⟨rfl, HS4.out.tight (fun b hb => ?_), f3.trans2 HF4.out hG⟩
  rcases hb with h | h
  · exact hG b h
  · exact Or.inr (Nat.le_trans f3.size h.1)

set_option maxHeartbeats 400000 in
theorem zzRelease (i : Nat) (h : St B w rb pb mb d F) (hi : i < d.blocks.length) (ok : Ok d) (hs : d.stops.Pairwise (· ≤ ·)) (h0 : ∀ x ∈ d.stops, 0 ≤ x) (him : (i : Int) ∈ d.stops) :
    Calls Try.prog 17 #[.pointer (some ⟨rb, 0, none⟩), .pointer (some ⟨pb, 0, none⟩), .int .i64 i] w fun e w' => e = .returned (.int .i64 (heldOf (rel1 d i (IntKind.u64.wrap (d.ended + 1))) i)) ∧ St B w' rb pb mb (rel d i (IntKind.u64.wrap (d.ended + 1))) (grow F w w') ∧ Fr w w' F := by
  have H := release45 i h hi ok hs h0 him
  generalize heldOf (rel1 d i (IntKind.u64.wrap (d.ended + 1))) i = x at *
  generalize rel d i (IntKind.u64.wrap (d.ended + 1)) = d' at *
  have H45 : Hid (Calls Try.prog 45 #[.pointer (some ⟨rb, 0, none⟩), .agg #[.pointer (some ⟨pb, 0, none⟩), .int .i64 i]] w fun e w' => e = .returned (.int .i64 x) ∧ St B w' rb pb mb d' (grow F w w') ∧ Fr w w' F) := H
  clear H h hi ok hs h0 him
  go_enter Try.func17, Try.ntmps17
  go_wp2_with (go_at_call 45; refine H45.out.mono ?_; rintro e w1 ⟨rfl, hs1, hf1⟩)
  go_ret
  exact ⟨rfl, hs1, hf1⟩

set_option maxHeartbeats 400000 in
theorem zzFile (h : St B w rb pb mb d F) (hn : 0 < d.blocks.length) (hn2 : d.blocks.length ≤ 1048576) (hs : d.stops.length ≤ 1048576) (hlf : d.leaf = true → free d = true) :
    Calls Try.prog 16 #[.pointer (some ⟨rb, 0, none⟩), .pointer (some ⟨pb, 0, none⟩)] w fun e w' => e = .returned (.tuple #[]) ∧ St B w' rb pb mb { d with leaf := free d } (grow F w w') ∧ Fr w w' F := by
  have H44 : Hid (Calls Try.prog 44 #[.pointer (some ⟨rb, 0, none⟩), .pointer (some ⟨pb, 0, none⟩)] w fun e w' => e = .returned (.tuple #[]) ∧ St B w' rb pb mb { d with leaf := free d } (grow F w w') ∧ Fr w w' F) := file44 h hn hn2 hs hlf
  clear h hn hn2 hs hlf
  go_enter Try.func16, Try.ntmps16
  go_wp2_with (go_at_call 44; refine H44.out.mono ?_; rintro e w1 ⟨rfl, hs1, hf1⟩)
  go_end0
  exact ⟨rfl, hs1, hf1⟩
end
end Go.Proofs.Qxb6609224a.Rl
