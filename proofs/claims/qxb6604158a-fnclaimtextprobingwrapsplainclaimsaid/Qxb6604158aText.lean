/-
  The walks of zzCount_b1 (11), zzIndex_b1 (12) and ZZClaimText (10), and what the two texts answer.
-/
import Derived.Test.Qxb6604158aRows
import Derived.WalkKit
import Derived.WalkSpells
import Derived.WalkLawsBesides
import Derived.Lib.Strings
namespace Go.Proofs.Qxb6604158a.Ctext
open Go.RowKit

def hit (s sub : ByteArray) (i : Nat) : Bool := (s.extract i (i + sub.size)).toList == sub.toList

def cnt (s sub : ByteArray) : Nat → Nat
  | 0 => 0
  | k + 1 => cnt s sub k + (if hit s sub k then 1 else 0)

theorem cnt_le (s sub : ByteArray) : ∀ k, cnt s sub k ≤ k
  | 0 => Nat.le_refl _
  | k + 1 => by
    have := cnt_le s sub k
    simp only [cnt]
    split <;> omega

theorem cnt_yes (s sub : ByteArray) (k : Nat) (h : ((s.extract k (k + sub.size)).toList == sub.toList) = true) :
    ((cnt s sub k : Nat) : Int) + 1 = (cnt s sub (k + 1) : Nat) := by
  have : hit s sub k = true := h
  simp [cnt, this]

theorem cnt_no (s sub : ByteArray) (k : Nat) (h : ((s.extract k (k + sub.size)).toList == sub.toList) = false) :
    ((cnt s sub k : Nat) : Int) = (cnt s sub (k + 1) : Nat) := by
  have : hit s sub k = false := h
  simp [cnt, this]

theorem ret_int {k : IntKind} {a b : Int} (h : a = b) : Ending.returned (.int k a) = .returned (.int k b) := by rw [h]

set_option maxHeartbeats 400000 in
theorem count_any (s sub : ByteArray) (w : World) (hs : s.size ≤ 1000000) (hsub : sub.size ≤ 1000000) (h0 : 0 < sub.size) :
    Calls Try.prog 11 #[.string s, .string sub] w fun e w' => e = .returned (.int .i64 (cnt s sub (s.size + 1 - sub.size))) ∧ w' = w := by
  have hz : ((sub.size : Int) == 0) = false := by rw [beq_eq_false_iff_ne]; omega
  go_enter Try.func11, Try.ntmps11
  go_wp2
  go_loop [6, 7] (fun c i => ∃ k : Nat, k ≤ s.size + 1 - sub.size ∧ i = .int .i64 k ∧ c = .int .i64 (cnt s sub k)) (fun _ i => s.size + 1 - (intOf i).toNat)
  case atStart => exact ⟨0, Nat.zero_le _, rfl, rfl⟩
  case round =>
    obtain ⟨k, hk, rfl, rfl⟩ := hrel
    have hc := cnt_le s sub k
    by_cases hlt : k + sub.size ≤ s.size
    · go_wp2
      all_goals
        go_round
        case rel => exact ⟨k + 1, by omega, by go_num, by first | rw [cnt_yes s sub k ‹_›] | rw [cnt_no s sub k ‹_›]⟩
        case measure => simp [intOf]; omega
    · go_wp2
      go_ret
      have e : k = s.size + 1 - sub.size ∨ (s.size + 1 - sub.size = 0 ∧ k = 0) := by omega
      rcases e with e | ⟨e1, e2⟩
      · exact ⟨ret_int (by rw [← e]), rfl⟩
      · exact ⟨ret_int (by rw [e1, e2]), rfl⟩

set_option maxHeartbeats 400000 in
/-- The first place, where it is known: a hit at 'n', none before. -/
theorem index_any (s sub : ByteArray) (n : Nat) (w : World) (hs : s.size ≤ 1000000) (hsub : sub.size ≤ 1000000) (hn : n + sub.size ≤ s.size)
    (hhit : hit s sub n = true) (hno : ∀ k, k < n → hit s sub k = false) :
    Calls Try.prog 12 #[.string s, .string sub] w fun e w' => e = .returned (.int .i64 n) ∧ w' = w := by
  go_enter Try.func12, Try.ntmps12
  go_wp2
  go_loop [6] (fun i => ∃ k : Nat, k ≤ n ∧ i = .int .i64 k) (fun i => s.size + 1 - (intOf i).toNat)
  case atStart => exact ⟨0, Nat.zero_le _, rfl⟩
  case round =>
    obtain ⟨k, hk, rfl⟩ := hrel
    by_cases hlt : k < n
    · have h1 : ((s.extract k (k + sub.size)).toList == sub.toList) = false := hno k hlt
      clear hno hhit
      go_wp2
      go_round
      case rel => exact ⟨k + 1, by omega, by go_num⟩
      case measure => simp [intOf]; omega
    · obtain rfl : k = n := by omega
      have h1 : ((s.extract k (k + sub.size)).toList == sub.toList) = true := hhit
      clear hno hhit
      go_wp2
      go_ret
      exact ⟨rfl, rfl⟩

/-! The same by lists, for the kernel. -/
def hitL (l sub : List UInt8) : Bool := sub.isPrefixOf l

def cntL (l sub : List UInt8) : Nat → Nat
  | 0 => 0
  | k + 1 => cntL l sub k + (if hitL (l.drop k) sub then 1 else 0)

theorem hit_eq (l sub : List UInt8) (i : Nat) : hit ⟨l.toArray⟩ ⟨sub.toArray⟩ i = hitL (l.drop i) sub := by
  unfold hit hitL
  rw [ByteArray.toList_eq, ByteArray.toList_eq, Lib.extract_data]
  have e : (ByteArray.mk sub.toArray).size = sub.length := by simp [ByteArray.size]
  rw [e, Bool.eq_iff_iff, beq_iff_eq, List.isPrefixOf_iff_prefix, List.prefix_iff_eq_take]
  simp only [Nat.add_sub_cancel_left]
  exact eq_comm

theorem cnt_eq (l sub : List UInt8) : ∀ k, cnt ⟨l.toArray⟩ ⟨sub.toArray⟩ k = cntL l sub k
  | 0 => rfl
  | k + 1 => by simp only [cnt, cntL, hit_eq, cnt_eq l sub k]

theorem size_mk (l : List UInt8) : (ByteArray.mk l.toArray).size = l.length := by simp [ByteArray.size]

def plainL : List UInt8 := [83, 69, 76, 69, 67, 84, 32, 109, 97, 110, 117, 97, 108, 95, 97, 116, 44, 32, 110, 97, 109, 101, 44, 32, 99, 114, 111, 110, 44, 32, 122, 111, 110, 
  101, 44, 32, 104, 97, 110, 100, 108, 101, 114, 44, 32, 99, 111, 97, 108, 101, 115, 99, 101, 40, 115, 113, 108, 95, 97, 99, 116, 105, 111, 110, 44, 
  32, 39, 39, 41, 44, 32, 110, 101, 120, 116, 95, 102, 105, 114, 101, 95, 97, 116, 44, 32, 110, 111, 119, 40, 41, 44, 10, 9, 99, 108, 111, 99, 107, 95, 
  116, 105, 109, 101, 115, 116, 97, 109, 112, 40, 41, 44, 32, 110, 101, 120, 116, 95, 102, 105, 114, 101, 95, 97, 116, 32, 60, 32, 110, 111, 119, 40, 
  41, 32, 45, 32, 103, 114, 97, 99, 101, 44, 32, 99, 97, 116, 99, 104, 95, 117, 112, 44, 32, 99, 97, 116, 99, 104, 95, 117, 112, 95, 108, 105, 109, 
  105, 116, 44, 32, 99, 97, 116, 99, 104, 95, 117, 112, 95, 117, 110, 116, 105, 108, 44, 32, 102, 97, 108, 115, 101, 10, 9, 70, 82, 79, 77, 32, 111, 
  114, 114, 101, 114, 121, 46, 115, 99, 104, 101, 100, 117, 108, 101, 115, 10, 9, 87, 72, 69, 82, 69, 32, 40, 109, 97, 110, 117, 97, 108, 95, 97, 116, 
  32, 73, 83, 32, 78, 79, 84, 32, 78, 85, 76, 76, 32, 79, 82, 32, 101, 110, 97, 98, 108, 101, 100, 41, 32, 65, 78, 68, 32, 40, 40, 109, 97, 110, 117, 
  97, 108, 95, 97, 116, 32, 73, 83, 32, 78, 85, 76, 76, 41, 44, 32, 99, 111, 97, 108, 101, 115, 99, 101, 40, 109, 97, 110, 117, 97, 108, 95, 97, 116, 
  44, 32, 110, 101, 120, 116, 95, 102, 105, 114, 101, 95, 97, 116, 41, 41, 32, 60, 61, 32, 40, 116, 114, 117, 101, 44, 32, 110, 111, 119, 40, 41, 41, 
  32, 65, 78, 68, 32, 67, 65, 83, 69, 32, 87, 72, 69, 78, 32, 104, 97, 110, 100, 108, 101, 114, 32, 61, 32, 39, 115, 113, 108, 39, 32, 84, 72, 69, 78, 
  32, 116, 114, 117, 101, 32, 69, 76, 83, 69, 32, 110, 97, 109, 101, 32, 61, 32, 65, 78, 89, 40, 36, 49, 41, 32, 69, 78, 68, 10, 9, 79, 82, 68, 69, 82, 
  32, 66, 89, 32, 40, 109, 97, 110, 117, 97, 108, 95, 97, 116, 32, 73, 83, 32, 78, 85, 76, 76, 41, 44, 32, 99, 111, 97, 108, 101, 115, 99, 101, 40, 
  109, 97, 110, 117, 97, 108, 95, 97, 116, 44, 32, 110, 101, 120, 116, 95, 102, 105, 114, 101, 95, 97, 116, 41, 10, 9, 76, 73, 77, 73, 84, 32, 49, 10, 
  9, 70, 79, 82, 32, 85, 80, 68, 65, 84, 69, 32, 83, 75, 73, 80, 32, 76, 79, 67, 75, 69, 68]

def probingL : List UInt8 := [10, 9, 87, 73, 84, 72, 32, 99, 32, 65, 83, 32, 40, 83, 69, 76, 69, 67, 84, 32, 109, 97, 110, 117, 97, 108, 95, 97, 116, 44, 32, 110, 97, 109, 101, 
  44, 32, 99, 114, 111, 110, 44, 32, 122, 111, 110, 101, 44, 32, 104, 97, 110, 100, 108, 101, 114, 44, 32, 99, 111, 97, 108, 101, 115, 99, 101, 40, 
  115, 113, 108, 95, 97, 99, 116, 105, 111, 110, 44, 32, 39, 39, 41, 44, 32, 110, 101, 120, 116, 95, 102, 105, 114, 101, 95, 97, 116, 44, 32, 110, 111, 
  119, 40, 41, 44, 10, 9, 99, 108, 111, 99, 107, 95, 116, 105, 109, 101, 115, 116, 97, 109, 112, 40, 41, 44, 32, 110, 101, 120, 116, 95, 102, 105, 114, 
  101, 95, 97, 116, 32, 60, 32, 110, 111, 119, 40, 41, 32, 45, 32, 103, 114, 97, 99, 101, 44, 32, 99, 97, 116, 99, 104, 95, 117, 112, 44, 32, 99, 97, 
  116, 99, 104, 95, 117, 112, 95, 108, 105, 109, 105, 116, 44, 32, 99, 97, 116, 99, 104, 95, 117, 112, 95, 117, 110, 116, 105, 108, 10, 9, 70, 82, 79, 
  77, 32, 111, 114, 114, 101, 114, 121, 46, 115, 99, 104, 101, 100, 117, 108, 101, 115, 10, 9, 87, 72, 69, 82, 69, 32, 40, 109, 97, 110, 117, 97, 108, 
  95, 97, 116, 32, 73, 83, 32, 78, 79, 84, 32, 78, 85, 76, 76, 32, 79, 82, 32, 101, 110, 97, 98, 108, 101, 100, 41, 32, 65, 78, 68, 32, 40, 40, 109, 
  97, 110, 117, 97, 108, 95, 97, 116, 32, 73, 83, 32, 78, 85, 76, 76, 41, 44, 32, 99, 111, 97, 108, 101, 115, 99, 101, 40, 109, 97, 110, 117, 97, 108, 
  95, 97, 116, 44, 32, 110, 101, 120, 116, 95, 102, 105, 114, 101, 95, 97, 116, 41, 41, 32, 60, 61, 32, 40, 116, 114, 117, 101, 44, 32, 110, 111, 119, 
  40, 41, 41, 32, 65, 78, 68, 32, 67, 65, 83, 69, 32, 87, 72, 69, 78, 32, 104, 97, 110, 100, 108, 101, 114, 32, 61, 32, 39, 115, 113, 108, 39, 32, 84, 
  72, 69, 78, 32, 116, 114, 117, 101, 32, 69, 76, 83, 69, 32, 110, 97, 109, 101, 32, 61, 32, 65, 78, 89, 40, 36, 49, 41, 32, 69, 78, 68, 10, 9, 79, 82, 
  68, 69, 82, 32, 66, 89, 32, 40, 109, 97, 110, 117, 97, 108, 95, 97, 116, 32, 73, 83, 32, 78, 85, 76, 76, 41, 44, 32, 99, 111, 97, 108, 101, 115, 99, 
  101, 40, 109, 97, 110, 117, 97, 108, 95, 97, 116, 44, 32, 110, 101, 120, 116, 95, 102, 105, 114, 101, 95, 97, 116, 41, 10, 9, 76, 73, 77, 73, 84, 32, 
  49, 10, 9, 70, 79, 82, 32, 85, 80, 68, 65, 84, 69, 32, 83, 75, 73, 80, 32, 76, 79, 67, 75, 69, 68, 41, 10, 9, 83, 69, 76, 69, 67, 84, 32, 99, 46, 42, 
  44, 32, 114, 46, 105, 100, 32, 73, 83, 32, 78, 79, 84, 32, 78, 85, 76, 76, 10, 9, 70, 82, 79, 77, 32, 99, 10, 9, 76, 69, 70, 84, 32, 74, 79, 73, 78, 
  32, 76, 65, 84, 69, 82, 65, 76, 32, 40, 83, 69, 76, 69, 67, 84, 32, 105, 100, 32, 70, 82, 79, 77, 32, 111, 114, 114, 101, 114, 121, 46, 114, 117, 
  110, 115, 32, 114, 32, 87, 72, 69, 82, 69, 32, 114, 46, 115, 99, 104, 101, 100, 117, 108, 101, 32, 61, 32, 99, 46, 110, 97, 109, 101, 10, 9, 9, 65, 
  78, 68, 32, 114, 46, 115, 99, 104, 101, 100, 117, 108, 101, 100, 95, 102, 111, 114, 32, 61, 32, 99, 111, 97, 108, 101, 115, 99, 101, 40, 99, 46, 109, 
  97, 110, 117, 97, 108, 95, 97, 116, 44, 32, 99, 46, 110, 101, 120, 116, 95, 102, 105, 114, 101, 95, 97, 116, 41, 32, 65, 78, 68, 32, 40, 114, 46, 
  116, 114, 105, 103, 103, 101, 114, 32, 61, 32, 39, 109, 97, 110, 117, 97, 108, 39, 41, 32, 61, 32, 40, 99, 46, 109, 97, 110, 117, 97, 108, 95, 97, 
  116, 32, 73, 83, 32, 78, 79, 84, 32, 78, 85, 76, 76, 41, 10, 9, 9, 76, 73, 77, 73, 84, 32, 49, 41, 32, 114, 32, 79, 78, 32, 116, 114, 117, 101]

def plain : ByteArray := ⟨plainL.toArray⟩
def probing : ByteArray := ⟨probingL.toArray⟩

set_option maxRecDepth 100000 in
theorem text_plain (w : World) : Calls Try.prog 10 #[.bool false] w fun e w' => e = .returned (.string plain) ∧ w' = w := by
  go_enter Try.func10, Try.ntmps10
  go_wp2
  go_ret
  exact ⟨congrArg (fun l : List UInt8 => Ending.returned (Value.string ⟨l.toArray⟩)) (by decide +kernel), rfl⟩

set_option maxRecDepth 100000 in
theorem text_probing (w : World) : Calls Try.prog 10 #[.bool true] w fun e w' => e = .returned (.string probing) ∧ w' = w := by
  go_enter Try.func10, Try.ntmps10
  go_wp2
  go_ret
  exact ⟨congrArg (fun l : List UInt8 => Ending.returned (Value.string ⟨l.toArray⟩)) (by decide +kernel), rfl⟩
end Go.Proofs.Qxb6604158a.Ctext
