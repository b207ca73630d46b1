import Derived.Test.Qxb6609329aAfCalls
import Derived.Deep.OwnRows
import Derived.Deep.DeepCutAuto
import Derived.WalkSpells
import Derived.OpenShut
namespace Go.Proofs.Qxb6609329a
open Go.RowKit

/-- WHAT THE WALK IS TOLD OF A SLICE OF INTEGERS THAT CAME IN: it is nil; or it leads to a row of 'cap' cells, the numbers 'zs' (the first 'len' are its elements, the rest its spare room), each fitting its kind. -/
def IsRow (k : IntKind) (w : World) (a : Option Addr) (len cap : Nat) (zs : List Int) : Prop :=
  (a = none ∧ len = 0 ∧ cap = 0 ∧ zs = []) ∨
  ∃ x, a = some x ∧ len ≤ cap ∧ cap ≤ maxLen ∧ zs.length = cap ∧ (∀ i, i < zs.length → w.cell? (x.add i) = some (.int k (zs.getD i 0))) ∧ ∀ n ∈ zs, (Lit.int k n).wf = true

/-- The bytes that lie in such a row. -/
def byteOf (zs : List Int) (j : Nat) : UInt8 := UInt8.ofNat (zs.getD j 0).toNat

theorem byteOf_val {zs : List Int} (h : ∀ n ∈ zs, (Lit.int .u8 n).wf = true) (j : Nat) (hj : j < zs.length) : ((byteOf zs j).toNat : Int) = zs.getD j 0 := by
  have hm : zs.getD j 0 ∈ zs := by
    rw [List.getD, List.getElem?_eq_getElem hj]; simp
  have := bounds_u8 (h _ hm)
  unfold byteOf
  rw [UInt8.toNat_ofNat']
  omega

theorem block_lt {w : World} {a : Addr} {v : Value} (h : w.cell? a = some v) : a.block < w.heap.size := by
  unfold World.cell? at h
  by_cases hl : a.block < w.heap.size
  · exact hl
  · simp [Array.getElem?_eq_none (show w.heap.size ≤ a.block by omega)] at h

set_option maxRecDepth 100000 in
set_option maxHeartbeats 2000000 in
theorem af_small (sc nm : ByteArray) (pa : Option Addr) (pl pc : Nat) (zs : List Int) (w : World) (hs : sc.size ≤ 262144) (hn : nm.size ≤ 262144) (hl : pl ≤ 262144) (hz : IsRow .u8 w pa pl pc zs) :
    Calls Try.prog 4 #[.string sc, .string nm, .slice pa pl pc] w fun e w' => e = .returned (.bool true) ∧ Below w.heap.size w w' := by
  have HB := bytes8 sc nm pa pl pc w (by unfold maxLen; omega) (by unfold maxLen; omega) (by unfold maxLen; omega)
  rw [decide_eq_true (by omega)] at HB
  have hn26 : ∀ (w : World) (a : Option Addr) (n c n' c' : Nat), (binOp .neq 26 (.slice a n c) (.slice none n' c')).run Try.prog w = .ok (.bool (!a.isNone)) w := fun w a n c n' c' => run_neq_slice_nil_any w _ _ a n c n' c' Try.underlying26
  have HZ : Hid (IsRow .u8 w pa pl pc zs) := hz
  clear hz
  go_enter Try.func4, Try.ntmps4
  go_wp2_with fail
  refine HB.mono ?_
  rintro e w1 ⟨rfl, rfl⟩
  clear HB
  go_upto_if 33 with fail
  go_cut [7, 8] (fun v _ wr => ∃ bs : List UInt8, bs.length ≤ 262144 ∧ Own w.heap.size wr v bs ∧ Below w.heap.size w wr)
  case first =>
    rcases HZ.out with ⟨rfl, rfl, rfl, rfl⟩ | ⟨x, rfl, hlc, hcm, hzl, hcell, hwz⟩
    · go_wp2
      go_meet
      case rel => exact ⟨[], Nat.zero_le _, Or.inl ⟨rfl, rfl⟩, Below.refl _ _⟩
    · have hmk := run_make_row' (P := Try.prog) 26 5 (.int .u8 0) 1 Try.underlying26 info5 rfl .i64 .i64 pl (by omega) (by omega)
      have HC : Hid (∀ j, j < pl → w.cell? (x.add j) = some (.int .u8 ((byteOf zs j).toNat : Int))) := fun j hj => by
        rw [byteOf_val hwz j (by omega)]; exact hcell j (by omega)
      clear hcell hwz hlc hcm hzl HZ
      go_wp2_with fail
      go_loopw [8] (fun i wr => ∃ k : Nat, k ≤ pl ∧ i = .int .i64 k ∧ wr.rowIs w.heap.size 5 pl (fun j => if j < k then .int .u8 ((byteOf zs j).toNat : Int) else .int .u8 0) ∧ Below w.heap.size w wr) (fun i _ => pl - (intOf i).toNat)
      case atStart =>
        refine ⟨0, Nat.zero_le _, rfl, ?_, (Below.refl _ _).alloc (Nat.le_refl _) _⟩
        exact (World.rowIs_made w (.int .u8 0) pl 5).congr (fun i _ => by simp)
      case round =>
        obtain ⟨k, hk, rfl, hrow, hnx⟩ := hrel
        by_cases hlt : k < pl
        · obtain ⟨xb, xo, rfl⟩ : ∃ b o, x = ⟨b, o, none⟩ := by
            obtain ⟨b, o, spot⟩ := x
            have : spot = none := by simpa [Addr.add] using World.cell?_spot (HC.out 0 (by omega))
            exact ⟨b, o, by rw [this]⟩
          have hc0 : w.cell? ⟨xb, xo + k, none⟩ = some (.int .u8 ((byteOf zs k).toNat : Int)) := by
            rw [← Addr.add_mid]; exact HC.out k hlt
          have hxb : xb < w.heap.size := block_lt hc0
          have hc1 := (hnx.cell (p := ⟨xb, xo + k, none⟩) hxb).trans hc0
          have hd := hrow.cell (i := k) hlt
          simp only [Nat.lt_irrefl, if_false] at hd
          have hfz := hrow.frozen k
          have HS : Hid (World.rowIs _ _ _ _ _) := hrow.set k (.int .u8 ((byteOf zs k).toNat : Int))
          clear hrow hc0
          go_wp2
          go_roundw
          case rel =>
            refine ⟨k + 1, hlt, by go_num, ?_, hnx.setCell (Nat.le_refl _) _⟩
            refine HS.out.congr fun j hj => ?_
            by_cases e : j = k
            · subst e; rw [if_pos rfl, if_pos (by omega)]
            · rw [if_neg e]
              by_cases h : j < k
              · rw [if_pos h, if_pos (by omega)]
              · rw [if_neg h, if_neg (by omega)]
          case measure => simp [intOf]; omega
        · obtain rfl : k = pl := by omega
          go_wp2
          go_meet
          case rel =>
            refine ⟨(List.range k).map (byteOf zs), by simpa using hl, ?_, hnx⟩
            refine Or.inr ⟨w.heap.size, k, by simp, Nat.le_refl _, hrow.lt, by simp, fun j u hu => ?_, fun j hj => ?_⟩
            · have hj : j < k := by
                have := (List.getElem?_eq_some_iff.1 hu).1
                simpa [bcells] using this
              have := hrow.cell (i := j) hj
              rw [if_pos hj] at this
              rw [Nat.zero_add, this, ← hu]
              simp [bcells, hj]
            · have := hrow.cell (i := j) hj
              rw [Nat.zero_add, this]
              exact ⟨rfl, hrow.frozen j⟩
  case rest =>
    obtain ⟨bs, hbl, hown, hw⟩ := hcut
    have hcv := fun o => string_own w.heap.size (wc.alloc o) u7 bs (hown.alloc o)
    have HO : Hid (Own w.heap.size wc u7 bs) := hown
    have hsz := hw.size
    clear hown
    go_wp2_with fail
    refine (append9 w.heap.size sc nm u7 bs _ (HO.out.alloc _) hs hn hbl (by simp; omega)).mono ?_
    rintro e w1 ⟨v1, rfl, G1⟩
    have c0 : w1.cell? ⟨wc.heap.size, 0, none⟩ = some (.string sc) := by
      have := World.cell?_of_block (w := wc.alloc (Obj.cells #[Value.string sc, Value.string nm] 29)) (a := ⟨wc.heap.size, 0, none⟩) (G1.grown.block wc.heap.size (by simp) (fun e => by have := (HO.out.lt _ e.symm).2; omega))
      rw [this, cell_of_row _ _ _ _ _ _ (heap_alloc_new wc _)]; rfl
    have c1 : w1.cell? ⟨wc.heap.size, 1, none⟩ = some (.string nm) := by
      have := World.cell?_of_block (w := wc.alloc (Obj.cells #[Value.string sc, Value.string nm] 29)) (a := ⟨wc.heap.size, 1, none⟩) (G1.grown.block wc.heap.size (by simp) (fun e => by have := (HO.out.lt _ e.symm).2; omega))
      rw [this, cell_of_row _ _ _ _ _ _ (heap_alloc_new wc _)]; rfl
    have hw1 : Below w.heap.size w w1 := (hw.alloc hsz _).grown G1.grown (by simp; omega) (fun k hk => (HO.out.lt k hk).1)
    have O1 : Hid (Own w.heap.size w1 v1 (bs ++ body sc nm)) := G1.own
    clear G1 hcv
    go_wp2_with fail
    refine (flag10 sc nm w1 hs hn).mono ?_
    rintro e w2 ⟨rfl, hb2⟩
    have hcv2 := string_own w.heap.size w2 v1 (bs ++ body sc nm) (O1.out.keep hb2.size (fun k hk => hb2.block k (O1.out.lt k hk).2))
    have hend := hw1.trans (hb2.mono hw1.size)
    have hlen := body_length sc nm
    have hq : ((⟨bs.toArray⟩ : ByteArray) ++ ⟨(body sc nm).toArray⟩).toList = bs ++ body sc nm := by
      have e : (⟨bs.toArray⟩ : ByteArray) ++ ⟨(body sc nm).toArray⟩ = (⟨(bs ++ body sc nm).toArray⟩ : ByteArray) := by
        apply ByteArray.ext
        simp
      rw [e]; simp
    clear hb2 c0 c1 hw1
    cases hg : (sc.toList == [71, 76, 79, 66, 65, 76])
    · have hG : isGlobal sc = false := hg
      rw [hG] at hlen
      simp only [Bool.false_eq_true, if_false] at hlen
      clear hG
      go_wp2
      go_ret
      exact ⟨by simp; omega, hend⟩
    · have hG : isGlobal sc = true := hg
      rw [hG] at hlen
      simp only [if_true] at hlen
      clear hG
      go_wp2
      go_ret
      exact ⟨by simp, hend⟩

set_option maxHeartbeats 1000000 in
theorem af_all (sc nm : ByteArray) (pa : Option Addr) (pl pc : Nat) (zs : List Int) (w : World) (hs : sc.size ≤ maxLen) (hn : nm.size ≤ maxLen) (hz : IsRow .u8 w pa pl pc zs) :
    Calls Try.prog 4 #[.string sc, .string nm, .slice pa pl pc] w fun e w' => e = .returned (.bool true) ∧ Below w.heap.size w w' := by
  have hl : pl ≤ maxLen := by
    rcases hz with ⟨_, rfl, _⟩ | ⟨x, _, h1, h2, _⟩
    · exact Nat.zero_le _
    · exact Nat.le_trans h1 h2
  by_cases h1 : sc.size ≤ 262144 ∧ nm.size ≤ 262144 ∧ pl ≤ 262144
  · exact af_small sc nm pa pl pc zs w h1.1 h1.2.1 h1.2.2 hz
  have HB := bytes8 sc nm pa pl pc w hs hn hl
  clear hz
  unfold maxLen at hs hn hl
  by_cases h2 : sc.size + nm.size + pl ≤ 1048576
  · rw [decide_eq_true h2] at HB
    by_cases g1 : (262144 : Int) < sc.size
    · clear h1
      go_enter Try.func4, Try.ntmps4
      go_wp2_with fail
      refine HB.mono ?_
      rintro e w1 ⟨rfl, rfl⟩
      clear HB
      go_wp2
      go_ret
      exact ⟨rfl, Below.refl _ _⟩
    by_cases g2 : (262144 : Int) < nm.size
    · clear h1
      go_enter Try.func4, Try.ntmps4
      go_wp2_with fail
      refine HB.mono ?_
      rintro e w1 ⟨rfl, rfl⟩
      clear HB
      go_wp2
      go_ret
      exact ⟨rfl, Below.refl _ _⟩
    have g3 : (262144 : Int) < pl := by omega
    clear h1
    go_enter Try.func4, Try.ntmps4
    go_wp2_with fail
    refine HB.mono ?_
    rintro e w1 ⟨rfl, rfl⟩
    clear HB
    go_wp2
    go_ret
    exact ⟨rfl, Below.refl _ _⟩
  · rw [decide_eq_false h2] at HB
    clear h1
    go_enter Try.func4, Try.ntmps4
    go_wp2_with fail
    refine HB.mono ?_
    rintro e w1 ⟨rfl, rfl⟩
    clear HB
    go_wp2
    go_ret
    exact ⟨rfl, Below.refl _ _⟩
end Go.Proofs.Qxb6609329a
