import Derived.Test.Qxb6609317aWsParts
namespace Go.Proofs.Qxb6609317a
open Go.RowKit

theorem info57 : (Try.prog.info? 57).map (fun i => (i.zero, i.size, i.bytes)) = some (some (.agg #[.int .i64 0, .int .i64 0, .string ByteArray.empty, .string ByteArray.empty, .slice none 0 0, .pointer none, .bool false, .pointer none, .pointer none, .slice none 0 0]), 10, 128) := by kernel_rfl

set_option maxHeartbeats 400000 in
theorem write_job (pa : Option Addr) (pl pc : Nat) (sa : Option Addr) (sl sc : Nat) (w : World) :
    Calls Try.prog 21 #[.bool true, .slice pa pl pc, .bool false, .bool false, .slice sa sl sc] w fun e w' => e = .returned (.int .i64 pl) ∧ Below w.heap.size w w' := by
  go_enter Try.func21, Try.ntmps21
  go_wp2_with fail
  refine (size_job (w.heap.size + 1) pa pl pc _ (by simp) (by simp)).mono ?_
  rintro e w1 ⟨rfl, hb⟩
  go_wp2
  go_ret
  exact ⟨rfl, (((Below.refl _ _).alloc (Nat.le_refl _) _).alloc (by simp) _).trans (hb.mono (by simp; omega))⟩

set_option maxHeartbeats 400000 in
theorem write_claim (pa : Option Addr) (pl pc : Nat) (sa : Option Addr) (sl sc : Nat) (w : World) :
    Calls Try.prog 21 #[.bool false, .slice pa pl pc, .bool true, .bool false, .slice sa sl sc] w fun e w' => e = .returned (.int .i64 0) ∧ Below w.heap.size w w' := by
  go_enter Try.func21, Try.ntmps21
  go_wp2_with fail
  refine (size_claim (w.heap.size + 1) _).mono ?_
  rintro e w1 ⟨rfl, hb⟩
  go_wp2
  go_ret
  exact ⟨rfl, (((Below.refl _ _).alloc (Nat.le_refl _) _).alloc (by simp) _).trans (hb.mono (by simp; omega))⟩

set_option maxHeartbeats 400000 in
theorem write_hand (pa : Option Addr) (pl pc : Nat) (sa : Option Addr) (b off n cap : Nat) (A : Nat → Option Addr) (L C : Nat → Nat) (w : World) (hn : n ≤ 16384) (hb : 0 < n → b < w.heap.size) (hsum : sums L n ≤ 1048576) (hsa : 0 < n → sa = some ⟨b, off, none⟩)
    (hc : ∀ i, i < n → w.cell? ⟨b, off + i * 2, none⟩ = some (.slice (A (2 * i)) (L (2 * i)) (C (2 * i))) ∧ w.cell? ⟨b, off + i * 2 + 1, none⟩ = some (.slice (A (2 * i + 1)) (L (2 * i + 1)) (C (2 * i + 1)))) :
    Calls Try.prog 21 #[.bool false, .slice pa pl pc, .bool false, .bool true, .slice sa n cap] w fun e w' => e = .returned (.int .i64 (sums L n : Nat)) ∧ Below w.heap.size w w' := by
  obtain ⟨i0, hi, hz0, hz1, hz2⟩ := info_parts info57
  have hmk := fun (w : World) => run_make (P := Try.prog) w 55 57 i0 _ Try.underlying55 hi hz0 .i64 .i64 (n : Int) (n : Int) (by omega) (Int.le_refl _) (by rw [hz2]; omega) (by omega)
  simp only [Int.toNat_natCast, hz1] at hmk
  have HSA : Hid (0 < n → sa = some ⟨b, off, none⟩) := hsa
  have HBL : Hid (0 < n → b < w.heap.size) := hb
  clear hsa hb
  go_enter Try.func21, Try.ntmps21
  go_wp2_with fail
  go_loopw [30, 13] (fun t _ wr => ∃ k : Nat, k ≤ n ∧ t = .int .i64 k ∧ wr.heap[w.heap.size]? = some (.cells #[.pointer none, .pointer none, .pointer none] 46 (0, 0)) ∧ wr.rowIs (w.heap.size + 1) 57 (n * 10) (subAt A L C k) ∧ Below w.heap.size w wr ∧ w.heap.size + 2 ≤ wr.heap.size) (fun t _ _ => n - (intOf t).toNat)
  case atStart =>
    refine ⟨0, Nat.zero_le _, rfl, ?_, ?_, ?_, ?_⟩
    · exact (Below.heap_alloc _ _ _ (by simp)).trans (heap_alloc_new _ _)
    · have := sub_start A L C (w.alloc (.cells #[.pointer none, .pointer none, .pointer none] 46)) n
      simpa [zero10] using this
    · exact (((Below.refl _ _).alloc (Nat.le_refl _) _).alloc (by simp) _)
    · simp
  case round =>
    obtain ⟨k, hk, rfl, hw0, hrow, hnx, hsz⟩ := hrel
    by_cases hlt : k < n
    · obtain rfl := HSA.out (by omega)
      clear HSA
      obtain ⟨e0, e1⟩ := hc k hlt
      have hb := HBL.out (by omega)
      have d0 := (hnx.cell (p := ⟨b, off + k * 2, none⟩) hb).trans e0
      have d1 := (hnx.cell (p := ⟨b, off + k * 2 + 1, none⟩) hb).trans e1
      have t4 := hrow.cell (i := k * 10 + 4) (by omega)
      have t9 := hrow.cell (i := k * 10 + 9) (by omega)
      rw [sub_four] at t4
      rw [sub_nine] at t9
      have f4 := hrow.frozen (k * 10 + 4)
      have f9 := hrow.frozen (k * 10 + 9)
      have hst := sub_step A L C wr (w.heap.size + 1) n k hrow
      have HST : Hid (World.rowIs _ _ _ _ _) := hst
      clear hst hrow hc e0 e1
      go_wp2
      go_roundw
      case rel =>
        refine ⟨k + 1, hlt, by go_num, ?_, HST.out, (hnx.setCell (by simp) _).setCell (by simp) _, by simpa using hsz⟩
        rw [Below.heap_setCell _ _ _ _ (by simp), Below.heap_setCell _ _ _ _ (by simp)]; exact hw0
      case measure => simp [intOf]; omega
    · obtain rfl : k = n := by omega
      have v0 : wr.cell? ⟨w.heap.size, 0, none⟩ = some (.pointer none) := by rw [cell_of_row _ _ _ _ _ _ hw0]; rfl
      have v1 : wr.cell? ⟨w.heap.size, 1, none⟩ = some (.pointer none) := by rw [cell_of_row _ _ _ _ _ _ hw0]; rfl
      have v2 : wr.cell? ⟨w.heap.size, 2, none⟩ = some (.pointer none) := by rw [cell_of_row _ _ _ _ _ _ hw0]; rfl
      have vf : wr.frozen? ⟨w.heap.size, 2, none⟩ = false := frozen_of_row _ _ _ _ _ hw0
      have HR : Hid (wr.rowIs (w.heap.size + 1) 57 (k * 10) (subAt A L C k)) := hrow
      have hlt1 : w.heap.size < wr.heap.size := by omega
      clear hrow hc hmk HSA
      go_wp2_with fail
      refine (size_hand wr.heap.size (w.heap.size + 1) k A L C _ ?_ ?_ ?_ ?_ hsum (by omega)).mono ?_
      · exact (by
          have := cell_of_row _ _ 0 _ _ _ (heap_alloc_new (wr.setCell ⟨w.heap.size, 2, none⟩ (.pointer (some ⟨wr.heap.size, 0, none⟩))) (.cells #[.slice (some ⟨w.heap.size + 1, 0, none⟩) k k, .pointer none, .slice none 0 0, .int .i64 0, .int .i64 0, .pointer none] 62))
          rw [World.size_setCell] at this
          exact this)
      · simp
      · simp; omega
      · exact fun i hi => sub_row A L C _ _ k ((HR.out.setOther (by simp) _).alloc _) i hi
      rintro e w1 ⟨rfl, hb1⟩
      go_wp2
      go_ret
      exact ⟨rfl, ((hnx.setCell (Nat.le_refl _) _).alloc (by simp; omega) _).trans (hb1.mono (by simp; omega))⟩
end Go.Proofs.Qxb6609317a
