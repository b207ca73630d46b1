import Derived.Test.Qxb6609224aRlSift
import Derived.Test.Qxb6609224aRlSlices
import Derived.Laws.IdiomCopy
import Derived.OwnWalk
namespace Go.Proofs.Qxb6609224a.Rl
open Go.RowKit

theorem info2 : (Try.prog.info? 2).map (fun i => (i.zero, i.size, i.bytes)) = some (some (.int .i64 0), 1, 8) := by kernel_rfl
theorem info2s : (Try.prog.info? 2).map (·.size) = some 1 := by kernel_rfl

abbrev hb (n k : Nat) (d : Array Int) : Array Int := Sort.heapBuild lt n 0 k d
abbrev hp (k : Nat) (d : Array Int) : Array Int := Sort.heapPop lt 0 k d

theorem hb_zero (n : Nat) (d : Array Int) : hb n 0 d = d := rfl
theorem hb_succ (n k : Nat) (d : Array Int) : hb n (k + 1) d = hb n k (sd n k d) := rfl
theorem hp_succ (k : Nat) (d : Array Int) : hp (k + 1) d = hp k (sd k 0 (Sort.swp d 0 k)) := by
  show Sort.heapPop lt 0 k (Sort.siftDown lt k 0 0 (Sort.swp d 0 (0 + k))) = _
  rw [Nat.zero_add]
theorem hp_one (d : Array Int) : hp 1 d = d := by
  rw [hp_succ, sd_end _ (by omega)]
  show Sort.swp d 0 0 = d
  unfold Sort.swp
  apply Array.ext_getElem?
  intro j
  by_cases h : j = 0
  · subst h
    by_cases hs : 0 < d.size
    · rw [Array.getElem?_setIfInBounds_self_of_lt (by simpa using hs)]
      simp [hs]
    · have h0 : d = #[] := Array.eq_empty_of_size_eq_zero (by omega)
      subst h0
      rfl
  · rw [Array.getElem?_setIfInBounds_ne (Ne.symm h), Array.getElem?_setIfInBounds_ne (Ne.symm h)]

theorem swp_size (d : Array Int) (i j : Nat) : (Sort.swp d i j).size = d.size := by simp [Sort.swp]
theorem sd_size (n : Nat) : ∀ (m i : Nat) (d : Array Int), n - i ≤ m → (sd n i d).size = d.size := by
  intro m
  induction m with
  | zero => intro i d h; rw [sd_end d (by omega)]
  | succ m ih =>
    intro i d h
    by_cases h0 : n ≤ 2 * i + 1
    · rw [sd_end d h0]
    · by_cases h1 : 2 * i + 2 < n ∧ d[2 * i + 1]! < d[2 * i + 2]!
      · by_cases h3 : d[2 * i + 2]! ≤ d[i]!
        · rw [sd_right_stop d h1.1 h1.2 h3]
        · rw [sd_right_go d h1.1 h1.2 (by omega), ih _ _ (by omega), swp_size]
      · have h1' : 2 * i + 2 < n → d[2 * i + 2]! ≤ d[2 * i + 1]! := fun h => by
          have : ¬ d[2 * i + 1]! < d[2 * i + 2]! := fun h' => h1 ⟨h, h'⟩
          omega
        by_cases h3 : d[2 * i + 1]! ≤ d[i]!
        · rw [sd_left_stop d (by omega) h1' h3]
        · rw [sd_left_go d (by omega) h1' (by omega), ih _ _ (by omega), swp_size]

/-- Behind the two loops: sorted, and the same numbers. -/
theorem sorted_same (d : Array Int) : Sort.SortedIn lt 0 d.size (hp d.size (hb d.size (d.size / 2) d)) ∧ (hp d.size (hb d.size (d.size / 2) d)).toList.Perm d.toList := by
  obtain ⟨B1, B2⟩ := Sort.build lt_swo d.size 0 (d.size / 2) d (by omega) (fun i h1 _ k hk hkh => by omega)
  obtain ⟨P1, P2⟩ := Sort.pop lt_swo 0 d.size d.size (hb d.size (d.size / 2) d) (Nat.le_refl _) (by rw [B2.1]; omega) B1 (fun x y hx hxy hy => by omega) (fun i j _ h2 h3 => by omega)
  simp only [Nat.zero_add] at B2 P1 P2
  refine ⟨P1, ?_⟩
  have p2 := P2.2.2
  have b2 := B2.2.2
  have hs1 : (hb d.size (d.size / 2) d).size = d.size := B2.1
  have hs2 : (hp d.size (hb d.size (d.size / 2) d)).size = d.size := P2.1.trans hs1
  have ex : ∀ (a : Array Int) (n : Nat), a.size = n → a.extract 0 n = a := fun a n h => by subst h; simp
  have e1 := ex _ _ hs2
  have e2 := ex _ _ hs1
  have e3 : d.extract 0 d.size = d := by simp
  rw [e2] at p2 b2
  rw [e1] at p2
  rw [e3] at b2
  exact p2.trans b2

theorem nodup_of (d S : Array Int) (h1 : Sort.SortedIn lt 0 S.size S) (hperm : S.toList.Perm d.toList) (hne : ∀ t, 1 ≤ t → t < S.size → S[t]! ≠ S[t - 1]!) : d.toList.Nodup := by
  rw [← hperm.nodup_iff]
  have hmono : ∀ i j : Nat, i < j → j < S.size → S[i]! < S[j]! := by
    intro i j hij hj
    have a1 := h1 (j - 1) j (Nat.zero_le _) (by omega) hj
    have a2 := hne j (by omega) hj
    have a3 : S[i]! ≤ S[j - 1]! := by
      by_cases e : i = j - 1
      · subst e; omega
      · have := h1 i (j - 1) (Nat.zero_le _) (by omega) (by omega)
        simp [lt] at this; omega
    simp [lt] at a1
    omega
  rw [List.nodup_iff_pairwise_ne, List.pairwise_iff_getElem]
  intro i j hi hj hij
  have := hmono i j hij (by simpa using hj)
  have hi' : i < S.size := by simpa using hi
  have hj' : j < S.size := by simpa using hj
  simp only [getElem!_pos S i hi', getElem!_pos S j hj'] at this
  simp only [Array.getElem_toList]
  omega

theorem below_fr {w wr w' : World} (h : Below w.heap.size w wr) (k : Fr wr w' (fun b => b = w.heap.size)) : Below w.heap.size w w' :=
  ⟨k.os.trans h.os, k.tape.trans h.tape, k.output.trans h.output, Nat.le_trans h.size k.size, fun b hb => (k.block b (Nat.lt_of_lt_of_le hb h.size) (by show ¬ b = w.heap.size; omega)).trans (h.block b hb)⟩

def DPost (zs : List Int) (w : World) (e : Ending) (w' : World) : Prop := ∃ r : Bool, e = .returned (.bool r) ∧ (r = true → zs.Nodup) ∧ Below w.heap.size w w'

set_option maxRecDepth 100000 in
set_option maxHeartbeats 2000000 in
theorem distinct10 (b off c : Nat) (zs : List Int) (w : World) (hn1 : 1 ≤ zs.length) (hn2 : zs.length ≤ 1048576) (hc : ∀ j, j < zs.length → w.cell? ⟨b, off + j, none⟩ = some (.int .i64 (zs.getD j 0))) :
    Calls Try.prog 10 #[.slice (some ⟨b, off, none⟩) zs.length c] w (DPost zs w) := by
  obtain ⟨i0, hi, hz0, hz1, hz2⟩ := info_parts info2
  go_enter Try.func10, Try.ntmps10
  go_wp2_with (at_make; refine wpList_make_full _ rfl (.tmp 10) (.tmp 10) 23 rfl w.heap.size 2 i0 (.int .i64 0) 1 Try.underlying23 hi hz0 hz1 .i64 .i64 _ _ zs.length rfl rfl rfl rfl ?m1 ?m2 (Nat.le_refl _) ?_)
  case m1 => rw [hz2]; omega
  case m2 => unfold maxLen; omega
  intro w1 hown hgrow
  obtain ⟨cur, hblk, hcs⟩ : ∃ cur : Array Value, w1.heap[w.heap.size]? = some (.cells cur 2 (0, 0)) ∧ cur.size = zs.length := by
    rcases hown.2 with ⟨h, _⟩ | ⟨g', cap', cur, h, hb, hg, hnc, hcm, hcs, htake⟩
    · simp at h
    · simp only [Value.slice.injEq, Option.some.injEq, Addr.mk.injEq, and_true, true_and] at h
      obtain ⟨rfl, rfl⟩ := h
      exact ⟨cur, hg, by omega⟩
  have hcp : ∀ ty, (Builtin.copy_ #[23, 23] ty #[.slice (some ⟨w.heap.size, 0, none⟩) zs.length zs.length, .slice (some ⟨b, off, none⟩) zs.length c]).run Try.prog w1 = .ok (goInt zs.length) (w1.setCells w.heap.size 0 (zs.map (Value.int .i64))) := fun ty => by
    have := run_copy_cells (P := Try.prog) w1 23 23 ty 2 w.heap.size 0 zs.length zs.length ⟨b, off, none⟩ zs.length c (zs.map (Value.int .i64)) Try.underlying23 info2s (by simp)
      (fun j v hj => by
        have hj' : j < zs.length := by have := (List.getElem?_eq_some_iff.1 hj).1; simpa using this
        rw [Addr.add_lit, World.cell?_of_block (hgrow.block b (World.block_lt_of_cell? w _ (hc j hj')) (by simp)), hc j hj', ← hj]
        simp [List.getD, hj'])
      (fun j hj => by rw [Nat.zero_add, cell_of_row _ _ _ _ _ _ hblk]; simp at hj; simp; omega)
      (fun j hj => frozen_of_row _ _ _ _ _ hblk)
      (fun v hv => by obtain ⟨x, _, rfl⟩ := List.mem_map.1 hv; rfl)
    rw [List.length_map] at this
    exact this
  have HR2 : Hid (Rw (w1.setCells w.heap.size 0 (zs.map (Value.int .i64))) w.heap.size zs.toArray) := by
    obtain ⟨c1, h1, s1, g1⟩ := setCells_block w.heap.size 2 (zs.map (Value.int .i64)) 0 w1 cur hblk
    show (w1.setCells w.heap.size 0 (zs.map (Value.int .i64))).heap[w.heap.size]? = _
    rw [h1]
    have : c1 = zs.toArray.map (Value.int .i64) := by
      apply Array.ext_getElem?
      intro j
      rw [g1]
      by_cases hj : j < zs.length
      · rw [if_pos (by simp; omega)]; simp
      · rw [if_neg (by simp; omega), Array.getElem?_eq_none (by omega), Array.getElem?_eq_none (by simp; omega)]
    rw [this]
  have HB2 : Hid (Below w.heap.size w (w1.setCells w.heap.size 0 (zs.map (Value.int .i64)))) := by
    have k1 := setCells_grown w.heap.size (zs.map (Value.int .i64)) 0 w1
    exact ⟨k1.os.trans hgrow.os, k1.tape.trans hgrow.tape, k1.output.trans hgrow.output, Nat.le_trans hgrow.size k1.size, fun k hk => (k1.block k (Nat.lt_of_lt_of_le hk hgrow.size) (by simp; omega)).trans (hgrow.block k hk (by simp))⟩
  clear hown hgrow hblk hcs hc
  go_wp2_with fail
  generalize w1.setCells w.heap.size 0 (zs.map (Value.int .i64)) = w2 at *
  have hsz : zs.toArray.size = zs.length := by simp
  have HSZ : Hid (zs.toArray.size = zs.length) := hsz
  clear hsz hcp
  go_loopg [5] (zs.length / 2) (fun g s5 wr => ∃ (k : Nat) (dk : Array Int), s5 = .int .i64 ((k : Int) - 1) ∧ k ≤ g ∧ k ≤ zs.length / 2 ∧ dk.size = zs.length ∧ Rw wr w.heap.size dk ∧ Below w.heap.size w wr ∧ hb zs.length k dk = hb zs.length (zs.length / 2) zs.toArray)
  case atStart => exact ⟨zs.length / 2, zs.toArray, by rw [show ((zs.length / 2 : Nat) : Int) = (zs.length : Int) / 2 by omega], Nat.le_refl _, Nat.le_refl _, HSZ.out, HR2.out, HB2.out, rfl⟩
  case round =>
    obtain ⟨k, dk, rfl, hkg, hkn, hds, hrw, hbel, hheq⟩ := hrel
    clear HR2 HB2
    have HB : Hid (Below w.heap.size w wr) := hbel
    have HR : Hid (Rw wr w.heap.size dk) := hrw
    have HQ : Hid (hb zs.length k dk = hb zs.length (zs.length / 2) zs.toArray) := hheq
    have HD : Hid (dk.size = zs.length) := hds
    clear hbel hrw hheq hds
    by_cases hk0 : k = 0
    · subst hk0
      go_wp2_with fail
      have hq0 : dk = hb zs.length (zs.length / 2) zs.toArray := HQ.out
      have HQ0 : Hid (dk = hb zs.length (zs.length / 2) zs.toArray) := hq0
      clear hq0 HQ hkg hkn
      go_loopg [6] zs.length (fun g s6 wx => ∃ (k : Nat) (dx : Array Int), s6 = .int .i64 ((k : Int) - 1) ∧ 1 ≤ k ∧ k ≤ g ∧ k ≤ zs.length ∧ dx.size = zs.length ∧ Rw wx w.heap.size dx ∧ Below w.heap.size w wx ∧ hp k dx = hp zs.length dk)
      case atStart => exact ⟨zs.length, dk, rfl, hn1, Nat.le_refl _, Nat.le_refl _, HD.out, HR.out, HB.out, rfl⟩
      case round =>
        obtain ⟨k, dx, rfl, hk1, hkg, hkn, hdx, hrx, hbx, hpx⟩ := hrel
        have HDX : Hid (dx.size = zs.length) := hdx
        have HRX : Hid (Rw wr w.heap.size dx) := hrx
        have HBX : Hid (Below w.heap.size w wr) := hbx
        have HPX : Hid (hp k dx = hp zs.length dk) := hpx
        clear hdx hrx hbx hpx HR HB
        by_cases hk2 : k = 1
        · subst hk2
          have HS : Hid (dx = hp zs.length (hb zs.length (zs.length / 2) zs.toArray)) := by
            show _ = _
            rw [← HQ0.out, ← HPX.out, hp_one]
          clear HPX HQ0 HD
          go_wp2_with fail
          go_loopg [8] zs.length (fun g s8 wx => ∃ j : Nat, s8 = .int .i64 j ∧ 1 ≤ j ∧ j ≤ zs.length ∧ zs.length - j ≤ g ∧ Rw wx w.heap.size dx ∧ Below w.heap.size w wx ∧ ∀ t, 1 ≤ t → t < j → dx[t]! ≠ dx[t - 1]!)
          case atStart => exact ⟨1, rfl, Nat.le_refl _, hn1, by omega, HRX.out, HBX.out, fun t h1 h2 => by omega⟩
          case round =>
            obtain ⟨j, rfl, hj1, hjn, hjg, hrj, hbj, hne⟩ := hrel
            have HRJ : Hid (Rw wr w.heap.size dx) := hrj
            have HBJ : Hid (Below w.heap.size w wr) := hbj
            have HNE : Hid (∀ t, 1 ≤ t → t < j → dx[t]! ≠ dx[t - 1]!) := hne
            clear hrj hbj hne HRX HBX
            by_cases hjz : j = zs.length
            · have hjz' : ¬ (j : Int) < zs.length := by omega
              go_wp2_with fail
              go_ret
              refine ⟨true, rfl, fun _ => ?_, HBJ.out⟩
              have hss := sorted_same zs.toArray
              simp only [List.size_toArray] at hss
              rw [← HS.out] at hss
              have := nodup_of zs.toArray dx (by rw [HDX.out]; exact hss.1) hss.2 (fun t h1 h2 => HNE.out t h1 (by rw [HDX.out] at h2; omega))
              simpa using this
            · have hjz' : (j : Int) < zs.length := by omega
              have c0 := HRJ.out.cell j (by rw [HDX.out]; omega)
              have c1 := HRJ.out.cell (j - 1) (by rw [HDX.out]; omega)
              have hj1' : (1 : Int) ≤ j := by omega
              have ej : ((j - 1 : Nat) : Int) = (j : Int) - 1 := by omega
              have ej2 : ((j : Int) - 1).toNat = j - 1 := by omega
              by_cases he : dx[j]! = dx[j - 1]!
              · rw [he] at c0
                generalize dx[j - 1]! = y at *
                go_wp2_with fail
                go_quiet (fail)
                go_wp2_with fail
                go_ret
                exact ⟨false, rfl, fun h => (Bool.noConfusion h), ⟨HBJ.out.os, HBJ.out.tape, HBJ.out.output, HBJ.out.size, HBJ.out.block⟩⟩
              · have HN2 : Hid (dx[j]! ≠ dx[j - 1]!) := he
                have hdn : decide (dx[j]! = dx[j - 1]!) = false := decide_eq_false he
                go_wp2_with fail
                go_quiet (fail)
                go_wp2_with fail
                go_roundg (zs.length - (j + 1))
                case measure => omega
                case rel =>
                  refine ⟨j + 1, by simp, by omega, by omega, Nat.le_refl _, HRJ.out, ⟨HBJ.out.os, HBJ.out.tape, HBJ.out.output, HBJ.out.size, HBJ.out.block⟩, fun t h1 h2 => ?_⟩
                  by_cases e : t = j
                  · subst e; exact HN2.out
                  · exact HNE.out t h1 (by omega)
        · obtain ⟨m, rfl⟩ : ∃ m, k = m + 2 := ⟨k - 2, by omega⟩
          have c0 := HRX.out.cell 0 (by rw [HDX.out]; omega)
          have c1 := HRX.out.cell (m + 1) (by rw [HDX.out]; omega)
          have f0 := HRX.out.frozen 0
          have f1 := HRX.out.frozen (m + 1)
          have hmn : (m : Int) + 1 < (zs.length : Int) := by omega
          have hcast : ((m + 2 : Nat) : Int) - 1 = (m : Int) + 1 := by omega
          have H43 : Hid (∀ wy, Rw wy w.heap.size (Sort.swp dx 0 (m + 1)) → Calls Try.prog 43 #[.slice (some ⟨w.heap.size, 0, none⟩) zs.length zs.length, .int .i64 0, .int .i64 ((m : Int) + 1)] wy fun e w' => e = .returned (.tuple #[]) ∧ Rw w' w.heap.size (sd (m + 1) 0 (Sort.swp dx 0 (m + 1))) ∧ Fr wy w' (fun b => b = w.heap.size)) := fun wy hwy => by
            have := sift43 w.heap.size (Sort.swp dx 0 (m + 1)) 0 (m + 1) wy hwy (by rw [swp_size, HDX.out]; omega) (by omega) (by rw [swp_size, HDX.out]; exact hn2)
            rw [swp_size, HDX.out] at this
            exact this
          have HSW : Hid (Rw ((wr.setCell ⟨w.heap.size, 0, none⟩ (.int .i64 dx[m + 1]!)).setCell ⟨w.heap.size, m + 1, none⟩ (.int .i64 dx[0]!)) w.heap.size (Sort.swp dx 0 (m + 1))) := HRX.out.swp 0 (m + 1)
          generalize dx[m + 1]! = y at *
          generalize dx[0]! = x at *
          simp only [hcast]
          go_wp2_with (go_at_call 43; refine (H43.out _ HSW.out).mono ?_; rintro e w3 ⟨rfl, hr3, hf3⟩)
          go_roundg (m + 1)
          case measure => omega
          case rel =>
            refine ⟨m + 1, sd (m + 1) 0 (Sort.swp dx 0 (m + 1)), by simp, by omega, Nat.le_refl _, by omega, by rw [sd_size _ _ _ _ (Nat.le_refl _), swp_size]; exact HDX.out, hr3, ?_, (hp_succ (m + 1) dx).symm.trans HPX.out⟩
            refine below_fr (below_fr HBX.out (((Fr.refl wr (fun b => b = w.heap.size)).setCell ⟨w.heap.size, 0, none⟩ (.int .i64 y) (Or.inl rfl)).setCell ⟨w.heap.size, m + 1, none⟩ (.int .i64 x) (Or.inl rfl))) hf3
    · obtain ⟨k', rfl⟩ : ∃ k', k = k' + 1 := ⟨k - 1, by omega⟩
      have H43 : Hid (Calls Try.prog 43 #[.slice (some ⟨w.heap.size, 0, none⟩) zs.length zs.length, .int .i64 k', .int .i64 zs.length] wr fun e w' => e = .returned (.tuple #[]) ∧ Rw w' w.heap.size (sd zs.length k' dk) ∧ Fr wr w' (fun b => b = w.heap.size)) := by
        have := sift43 w.heap.size dk k' zs.length wr HR.out (by rw [HD.out]; exact Nat.le_refl _) (by omega) (by rw [HD.out]; exact hn2)
        rw [HD.out] at this
        exact this
      go_wp2_with (go_at_call 43; refine H43.out.mono ?_; rintro e w3 ⟨rfl, hr3, hf3⟩)
      go_roundg k'
      case measure => omega
      case rel => exact ⟨k', sd zs.length k' dk, by simp, Nat.le_refl _, by omega, by rw [sd_size _ _ _ _ (Nat.le_refl _)]; exact HD.out, hr3, below_fr HB.out hf3, by rw [← HQ.out, hb_succ]⟩
end Go.Proofs.Qxb6609224a.Rl
