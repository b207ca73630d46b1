import Derived.Test.Qxb6609317aProg
import Derived.WalkKit
import Derived.WalkLawsBesides
import Derived.WalkSpells
import Derived.Outline
namespace Go.Proofs.Qxb6609317a
open Go.RowKit

/-- The template's two outer pieces, its middle (in three pieces, as the Go text adds them), and the whole at two empty arguments. -/
def pre : ByteArray := ⟨#[99, 111, 97, 108, 101, 115, 99, 101, 40]⟩
def post : ByteArray := ⟨#[41, 41]⟩
def mid : ByteArray := ⟨#[44, 10, 9, 9, 40, 83, 69, 76, 69, 67, 84, 32, 106, 46, 112, 97, 121, 108, 111, 97, 100, 95, 98, 121, 116, 101, 115, 32, 43, 32, 99, 111, 97, 108, 101, 115, 99, 101, 40, 97, 46, 114, 101, 115, 117, 108, 116, 95, 98, 121, 116, 101, 115, 44, 32, 48, 41, 32, 70, 82, 79, 77, 32, 106, 111, 98, 115, 32, 106, 10, 9, 76, 69, 70, 84, 32, 74, 79, 73, 78, 32, 76, 65, 84, 69, 82, 65, 76, 32, 40, 10, 9, 9, 83, 69, 76, 69, 67, 84, 32, 42, 32, 70, 82, 79, 77, 32, 97, 115, 115, 105, 103, 110, 109, 101, 110, 116, 115, 32, 87, 72, 69, 82, 69, 32, 106, 111, 98, 95, 105, 100, 32, 61, 32, 106, 46, 105, 100, 32, 65, 78, 68, 32, 115, 116, 97, 116, 117, 115, 32, 61, 32, 39, 99, 111, 109, 112, 108, 101, 116, 101, 100, 39, 32, 79, 70, 70, 83, 69, 84, 32, 48, 10, 9, 41, 32, 97, 32, 79, 78, 32, 116, 114, 117, 101, 32, 87, 72, 69, 82, 69, 32, 106, 46, 105, 100, 32, 61, 32]⟩
def emp : ByteArray := ⟨#[99, 111, 97, 108, 101, 115, 99, 101, 40, 44, 10, 9, 9, 40, 83, 69, 76, 69, 67, 84, 32, 106, 46, 112, 97, 121, 108, 111, 97, 100, 95, 98, 121, 116, 101, 115, 32, 43, 32, 99, 111, 97, 108, 101, 115, 99, 101, 40, 97, 46, 114, 101, 115, 117, 108, 116, 95, 98, 121, 116, 101, 115, 44, 32, 48, 41, 32, 70, 82, 79, 77, 32, 106, 111, 98, 115, 32, 106, 10, 9, 76, 69, 70, 84, 32, 74, 79, 73, 78, 32, 76, 65, 84, 69, 82, 65, 76, 32, 40, 10, 9, 9, 83, 69, 76, 69, 67, 84, 32, 42, 32, 70, 82, 79, 77, 32, 97, 115, 115, 105, 103, 110, 109, 101, 110, 116, 115, 32, 87, 72, 69, 82, 69, 32, 106, 111, 98, 95, 105, 100, 32, 61, 32, 106, 46, 105, 100, 32, 65, 78, 68, 32, 115, 116, 97, 116, 117, 115, 32, 61, 32, 39, 99, 111, 109, 112, 108, 101, 116, 101, 100, 39, 32, 79, 70, 70, 83, 69, 84, 32, 48, 10, 9, 41, 32, 97, 32, 79, 78, 32, 116, 114, 117, 101, 32, 87, 72, 69, 82, 69, 32, 106, 46, 105, 100, 32, 61, 32, 41, 41]⟩
def sql (a b : ByteArray) : ByteArray := pre ++ a ++ mid ++ b ++ post

theorem mid_eq : (⟨#[44, 10, 9, 9, 40, 83, 69, 76, 69, 67, 84, 32, 106, 46, 112, 97, 121, 108, 111, 97, 100, 95, 98, 121, 116, 101, 115, 32, 43, 32, 99, 111, 97, 108, 101, 115, 99, 101, 40, 97, 46, 114, 101, 115, 117, 108, 116, 95, 98, 121, 116, 101, 115, 44, 32, 48, 41, 32, 70, 82, 79, 77, 32]⟩ : ByteArray) ++ ⟨#[106, 111, 98, 115, 32, 106, 10, 9, 76, 69, 70, 84, 32, 74, 79, 73, 78, 32, 76, 65, 84, 69, 82, 65, 76, 32, 40, 10, 9, 9, 83, 69, 76, 69, 67, 84, 32, 42, 32, 70, 82, 79, 77, 32, 97, 115, 115, 105, 103, 110, 109, 101, 110, 116, 115, 32, 87, 72, 69, 82, 69, 32, 106, 111, 98, 95, 105, 100, 32, 61, 32, 106, 46, 105, 100, 32, 65, 78, 68, 32, 115, 116, 97, 116, 117, 115, 32, 61, 32, 39, 99, 111, 109, 112, 108, 101, 116, 101, 100, 39, 32, 79, 70, 70, 83, 69, 84, 32, 48, 10, 9, 41, 32, 97, 32, 79, 78, 32, 116, 114, 117, 101]⟩ ++ ⟨#[32, 87, 72, 69, 82, 69, 32, 106, 46, 105, 100, 32, 61, 32]⟩ = mid := by decide +kernel
theorem sql_eq (a b : ByteArray) : pre ++ a ++ ⟨#[44, 10, 9, 9, 40, 83, 69, 76, 69, 67, 84, 32, 106, 46, 112, 97, 121, 108, 111, 97, 100, 95, 98, 121, 116, 101, 115, 32, 43, 32, 99, 111, 97, 108, 101, 115, 99, 101, 40, 97, 46, 114, 101, 115, 117, 108, 116, 95, 98, 121, 116, 101, 115, 44, 32, 48, 41, 32, 70, 82, 79, 77, 32]⟩ ++ ⟨#[106, 111, 98, 115, 32, 106, 10, 9, 76, 69, 70, 84, 32, 74, 79, 73, 78, 32, 76, 65, 84, 69, 82, 65, 76, 32, 40, 10, 9, 9, 83, 69, 76, 69, 67, 84, 32, 42, 32, 70, 82, 79, 77, 32, 97, 115, 115, 105, 103, 110, 109, 101, 110, 116, 115, 32, 87, 72, 69, 82, 69, 32, 106, 111, 98, 95, 105, 100, 32, 61, 32, 106, 46, 105, 100, 32, 65, 78, 68, 32, 115, 116, 97, 116, 117, 115, 32, 61, 32, 39, 99, 111, 109, 112, 108, 101, 116, 101, 100, 39, 32, 79, 70, 70, 83, 69, 84, 32, 48, 10, 9, 41, 32, 97, 32, 79, 78, 32, 116, 114, 117, 101]⟩ ++ ⟨#[32, 87, 72, 69, 82, 69, 32, 106, 46, 105, 100, 32, 61, 32]⟩ ++ b ++ post = sql a b := by
  unfold sql
  rw [← mid_eq]
  simp only [ByteArray.append_assoc]
theorem emp_eq : sql ⟨#[]⟩ ⟨#[]⟩ = emp := by decide +kernel
theorem emp_size : emp.size = 210 := by decide +kernel
theorem mid_size : mid.size = 199 := by decide +kernel
theorem emp_mid : emp.extract 9 208 = mid := by decide +kernel

set_option maxHeartbeats 400000 in
theorem prefix_yes (s p : ByteArray) (w : World) (h : p.size ≤ s.size) (heq : ((s.extract 0 p.size).toList == p.toList) = true) :
    Calls Try.prog 9 #[.string s, .string p] w fun e w' => e = .returned (.bool true) ∧ w = w' := by
  go_enter Try.func9, Try.ntmps9
  go_wp2
  go_ret
  exact ⟨rfl, rfl⟩

set_option maxHeartbeats 400000 in
theorem suffix_yes (s p : ByteArray) (w : World) (hs : s.size ≤ 1048576) (h : p.size ≤ s.size) (heq : ((s.extract (s.size - p.size) s.size).toList == p.toList) = true) :
    Calls Try.prog 10 #[.string s, .string p] w fun e w' => e = .returned (.bool true) ∧ w = w' := by
  go_enter Try.func10, Try.ntmps10
  go_wp2
  go_ret
  exact ⟨rfl, rfl⟩

set_option maxHeartbeats 400000 in
theorem contains_yes (s p : ByteArray) (m : Nat) (w : World) (hs : s.size ≤ 1048576) (h : m + p.size ≤ s.size) (heq : ((s.extract m (m + p.size)).toList == p.toList) = true) :
    Calls Try.prog 11 #[.string s, .string p] w fun e w' => e = .returned (.bool true) ∧ w = w' := by
  have HEQ : Hid _ := heq
  clear heq
  go_enter Try.func11, Try.ntmps11
  go_wp2
  go_loop [6] (fun i => ∃ k : Nat, i = .int .i64 k ∧ k ≤ m) (fun i => m + 1 - (intOf i).toNat)
  case atStart => exact ⟨0, rfl, Nat.zero_le _⟩
  case round =>
    obtain ⟨k, rfl, hk⟩ := hrel
    by_cases hkm : k = m
    · subst hkm
      have heq := HEQ.out
      go_wp2
      go_ret
      exact ⟨rfl, rfl⟩
    · have hlt : k < m := by omega
      go_wp2
      · go_ret
        exact ⟨rfl, rfl⟩
      · go_round
        case rel => exact ⟨k + 1, by go_num, hlt⟩
        case measure => simp [intOf]; omega

set_option maxHeartbeats 400000 in
theorem sql_any (a b : ByteArray) (w : World) (ha : a.size ≤ 1048576) (hb : b.size ≤ 1048576) :
    Calls Try.prog 22 #[.string a, .string b] w fun e w' => e = .returned (.string (sql a b)) ∧ w = w' := by
  go_enter Try.func22, Try.ntmps22
  go_wp2
  go_ret
  exact ⟨congrArg (fun x => Ending.returned (.string x)) (sql_eq a b), rfl⟩

set_option maxHeartbeats 400000 in
theorem zsql_any (a b : ByteArray) (w : World) (ha : a.size ≤ 1048576) (hb : b.size ≤ 1048576) :
    Calls Try.prog 8 #[.string a, .string b] w fun e w' => e = .returned (.string (sql a b)) ∧ w = w' := by
  go_enter Try.func8, Try.ntmps8
  go_wp2_with fail
  refine (sql_any a b _ ha hb).mono ?_
  rintro e w1 ⟨rfl, rfl⟩
  go_wp2
  go_ret
  exact ⟨rfl, rfl⟩

end Go.Proofs.Qxb6609317a
