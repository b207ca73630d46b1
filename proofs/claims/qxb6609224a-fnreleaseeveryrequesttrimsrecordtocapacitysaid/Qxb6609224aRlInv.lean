import Derived.Test.Qxb6609224aRlRows
namespace Go.Proofs.Qxb6609224a.Rl
open Go.RowKit

/-- How the round t begins. -/
structure Inv (w wr : World) (rb pb mb cb ub : Nat) (cap0 en0 : Int) (K : Nat) (I E L : List Int) (fit t B : Nat) (en : Int) (S U : List Int) : Prop where
  rnd : Rnd w wr rb pb mb cb ub (mkD cap0 en I E U B S) (fun j => (S.count (j : Int) : Int)) (fun j => U.getD j 0) K
  perm : S.Perm (L.drop t)
  sorted : S.Pairwise (· ≤ ·)
  hU : U.length = K
  hBK : B ≤ K
  hfB : fit ≤ B
  hB : top S + 1 ≤ B
  hBt : 1 ≤ t → (B : Int) = max (fit : Int) (top S + 1)
  hen : IntKind.u64.wrap (en + 1) = IntKind.u64.wrap (en0 + ((t + 1 : Nat) : Int))

theorem wrap_step (x : Int) : IntKind.u64.wrap (IntKind.u64.wrap x + 1) = IntKind.u64.wrap (x + 1) := by
  rw [IntKind.wrap_u64, IntKind.wrap_u64, IntKind.wrap_u64]
  omega

theorem le_top (S : List Int) (hs : S.Pairwise (· ≤ ·)) (x : Int) (hx : x ∈ S) : x ≤ top S := by
  have hz : S ≠ [] := fun e => by rw [e] at hx; simp at hx
  have hlast : top S = S.getLast hz := by unfold top; rw [List.getLastD_eq_getLast?, List.getLast?_eq_some_getLast hz]; rfl
  have hsplit := (List.dropLast_concat_getLast hz).symm
  rw [hlast]
  rw [hsplit] at hx hs
  rw [List.pairwise_append] at hs
  rcases List.mem_append.1 hx with h4 | h4
  · exact hs.2.2 _ h4 (S.getLast hz) (by simp)
  · simp at h4; omega
theorem top_mem (S : List Int) (h : 0 ≤ top S) : top S ∈ S := by
  have hz : S ≠ [] := fun e => by rw [e] at h; simp [top] at h
  have hlast : top S = S.getLast hz := by unfold top; rw [List.getLastD_eq_getLast?, List.getLast?_eq_some_getLast hz]; rfl
  rw [hlast]
  exact List.getLast_mem hz

variable {en0 : Int} {bI oI bE oE bL oL K N : Nat} {I E L : List Int} {w wr : World} {rb pb mb cb ub : Nat} {cap0 : Int} {fit t B : Nat} {en : Int} {S U : List Int}

theorem Inv.range (hC : Ctx en0 bI oI bE oE bL oL K N I E L w) (h : Inv w wr rb pb mb cb ub cap0 en0 K I E L fit t B en S U) : ∀ x ∈ S, 0 ≤ x ∧ x < K := by
  intro x hx
  have := List.mem_of_mem_drop (h.perm.mem_iff.1 hx)
  obtain ⟨s, hs, rfl⟩ := mem_getD L x this
  exact hC.hLr s (by have := hC.hLl; omega)

structure Mid (w wr : World) (rb pb mb cb ub : Nat) (cap0 : Int) (K N : Nat) (I E : List Int) (B : Nat) (en : Int) (S U : List Int) (i : Nat) : Prop where
  mem : (i : Int) ∈ S
  sorted : (drop1 S i).Pairwise (· ≤ ·)
  range : ∀ x ∈ drop1 S i, 0 ≤ x ∧ x < K ∧ x ≤ top S
  iB : i < B
  iK : i < K
  t1 : -1 ≤ top S
  t2 : top S < K
  c1 : 1 ≤ S.count (i : Int)
  c2 : S.count (i : Int) ≤ N
  rnd : Rnd w (wr.setCell ⟨cb, i, none⟩ (.int .i64 ((S.count (i : Int) : Int) - 1))) rb pb mb cb ub (mkD cap0 en I E U B S) (fun j => ((drop1 S i).count (j : Int) : Int)) (fun j => U.getD j 0) K

theorem Inv.mid (hC : Ctx en0 bI oI bE oE bL oL K N I E L w) (h : Inv w wr rb pb mb cb ub cap0 en0 K I E L fit t B en S U) (ht : t < N) (i : Nat) (hi : L.getD t 0 = i) : Mid w wr rb pb mb cb ub cap0 K N I E B en S U i := by
  have hr := h.range hC
  have hl := hC.hLl
  obtain ⟨h1, h2⟩ := perm_drop L S t (by omega) h.sorted h.perm
  rw [hi] at h1 h2
  have hsub : ∀ x ∈ drop1 S i, x ∈ S := fun x hx => (List.eraseIdx_sublist _ _).subset hx
  have hit := le_top S h.sorted _ h1
  have hB := h.hB
  have hBK := h.hBK
  have hlen : S.length ≤ N := by rw [h.perm.length_eq, List.length_drop]; omega
  refine ⟨h1, drop1_sorted S i h.sorted, fun x hx => ⟨(hr x (hsub x hx)).1, (hr x (hsub x hx)).2, le_top S h.sorted x (hsub x hx)⟩, by omega, by omega, top_ge S (fun x hx => (hr x hx).1), by omega, List.count_pos_iff.2 h1, Nat.le_trans (List.count_le_length) hlen, ?_⟩
  refine (h.rnd.setC i _).congr (fun j _ => ?_) (fun _ _ => rfl)
  have hc := drop1_count S i j h.sorted h1
  by_cases e : j = i
  · subst e
    rw [if_pos rfl] at hc
    simp only [if_true]
    omega
  · rw [if_neg (by omega)] at hc
    simp only [e, if_false]
    omega

/-- What a release answers. -/
def shared (E : List Int) (i : Nat) (h : Int) : Int := if 0 ≤ h then E.getD (min (i : Int) h).toNat 0 else 0

theorem Inv.rel (hC : Ctx en0 bI oI bE oE bL oL K N I E L w) (hfits : ∀ j, j < K → (E.getD j 0 ≤ cap0 ↔ j < fit)) (h : Inv w wr rb pb mb cb ub cap0 en0 K I E L fit t B en S U) (ht : t < N) (i m : Nat) (hi : L.getD t 0 = i) (hm : (m : Int) = max (fit : Int) (top (drop1 S i) + 1)) (u : Int) (hu : u = IntKind.u64.wrap (en0 + ((t + 1 : Nat) : Int))) :
    Calls Try.prog 17 #[.pointer (some ⟨rb, 0, none⟩), .pointer (some ⟨pb, 0, none⟩), .int .i64 i] ((wr.setCell ⟨cb, i, none⟩ (.int .i64 ((S.count (i : Int) : Int) - 1))).setCell ⟨ub, i, none⟩ (.int .u64 u)) fun e w' => e = .returned (.int .i64 (shared E i (top (drop1 S i)))) ∧ Inv w w' rb pb mb cb ub cap0 en0 K I E L fit (t + 1) m u (drop1 S i) (U.set i u) := by
  have M := h.mid hC ht i hi
  have hr := h.range hC
  have hl := hC.hLl
  have hIl := hC.hIl
  have hK2 := hC.hK2
  have hN2 := hC.hN2
  have hBK := h.hBK
  have hB := h.hB
  have hfB := h.hfB
  have hUl := h.hU
  have iK := M.iK
  have iB := M.iB
  have htm := top_mono S i h.sorted M.mem (fun x hx => (hr x hx).1)
  have hd0 : ∀ x ∈ drop1 S i, 0 ≤ x := fun x hx => (M.range x hx).1
  have htg := top_ge (drop1 S i) hd0
  obtain ⟨F, hst, hnext⟩ := (M.rnd.setU i u).open
  have hlen : S.length ≤ N := by rw [h.perm.length_eq, List.length_drop]; omega
  have hok : Ok (mkD cap0 en I E U B S) := mkD_ok cap0 en I E U B S (keys_nodup I B (by omega) hC.hnd) (by omega) (fun j hj => ⟨Int.le_of_lt (inc_pos E K hC.hinc hC.hE0 j (by omega)), hC.hEr j (by omega)⟩) (by omega) (fun x hx => (hr x hx).1)
  have hblk : (mkD cap0 en I E U B S).blocks.length = B := mk_length _ _ _ _
  have := zzRelease i hst (by rw [hblk]; exact iB) hok h.sorted (fun x hx => (hr x hx).1) M.mem
  have hen : IntKind.u64.wrap ((mkD cap0 en I E U B S).ended + 1) = u := h.hen.trans hu.symm
  rw [hen, mkD_rel cap0 en I E U B i m fit S u (by omega) (fun x hx => (hr x hx).1) (fun j hj => hfits j (by omega)) hm (by omega),
    mkD_held cap0 en I E U B i S u (by omega) iB (fun hne => by
      obtain ⟨x, hx⟩ := List.exists_mem_of_ne_nil _ hne
      have := hd0 x hx
      have := le_top _ M.sorted x hx
      omega)] at this
  refine this.mono ?_
  rintro e w' ⟨rfl, hs, hf⟩
  refine ⟨rfl, ?_⟩
  have hp := (perm_drop L S t (by omega) h.sorted h.perm).2
  rw [hi] at hp
  refine ⟨(hnext w' _ hs hf).congr (fun _ _ => rfl) (fun j _ => ?_), hp, M.sorted, by simp [hUl], by omega, by omega, by omega, fun _ => hm, ?_⟩
  · rw [set_getD U i j u (by omega)]
  · rw [hu, wrap_step]
    congr 1
    omega

theorem lastEnd_is (I E U : List Int) (n : Nat) : lastEnd (mk I E U n) = if 0 < n then E.getD (n - 1) 0 else 0 := by
  cases n with
  | zero => rfl
  | succ n => rw [mk_lastEnd, if_pos (by omega)]; rfl

theorem Inv.reads (h : Inv w wr rb pb mb cb ub cap0 en0 K I E L fit t B en S U) :
    Calls Try.prog 18 #[.pointer (some ⟨rb, 0, none⟩)] wr (fun e w' => e = .returned (.int .u64 en) ∧ wr = w') ∧ Calls Try.prog 19 #[.pointer (some ⟨pb, 0, none⟩)] wr (fun e w' => e = .returned (.int .i64 B) ∧ wr = w') ∧
    Calls Try.prog 20 #[.pointer (some ⟨rb, 0, none⟩)] wr (fun e w' => e = .returned (.int .i64 (if 0 < B then E.getD (B - 1) 0 else 0)) ∧ wr = w') ∧ Calls Try.prog 21 #[.pointer (some ⟨pb, 0, none⟩)] wr (fun e w' => e = .returned (.int .i64 (L.length - t : Nat)) ∧ wr = w') := by
  obtain ⟨F, hst, _⟩ := h.rnd.open
  refine ⟨readEnded hst, ?_, ?_, ?_⟩
  · have := readLen hst
    rw [show (mkD cap0 en I E U B S).blocks.length = B from mk_length _ _ _ _] at this
    exact this
  · have := readTokens hst
    rw [show (mkD cap0 en I E U B S).tokens = _ from lastEnd_is I E U B] at this
    exact this
  · have := readStops hst
    rw [show (mkD cap0 en I E U B S).stops.length = L.length - t by show S.length = _; rw [h.perm.length_eq, List.length_drop]] at this
    exact this
end Go.Proofs.Qxb6609224a.Rl
