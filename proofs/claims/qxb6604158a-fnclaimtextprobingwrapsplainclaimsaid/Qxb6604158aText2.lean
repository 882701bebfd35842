/-
  The walk of FnClaimTextProbingWrapsPlainClaim (5).
-/
import Derived.Test.Qxb6604158aText
import Derived.RowKit3
import Derived.Deep.QuietTactic
import Derived.BigQuiet
namespace Go.Proofs.Qxb6604158a.Ctext
open Go.RowKit

theorem grown_drewN (w : World) : ∀ n, Grown w (w.drewN n)
  | 0 => Grown.refl w
  | n + 1 => (grown_drewN w n).drew

theorem neq_texts : (plain.toList == probing.toList) = false := by
  unfold plain probing; rw [ByteArray.toList_mk, ByteArray.toList_mk]; decide +kernel
theorem size_plain : plain.size = 494 := by unfold plain; rw [size_mk]; decide +kernel
theorem size_probing : probing.size = 752 := by unfold probing; rw [size_mk]; decide +kernel
theorem pre_plain : ((plain.extract 0 7).toList == [83, 69, 76, 69, 67, 84, 32]) = true := by
  unfold plain; rw [ByteArray.toList_eq, Lib.extract_data]; decide +kernel

def falseL : List UInt8 := [44, 32, 102, 97, 108, 115, 101]
def selL : List UInt8 := [83, 69, 76, 69, 67, 84, 32, 99, 46, 42, 44, 32]

theorem count_one (l sub : List UInt8) (n : Nat) (w : World) (hl : l.length ≤ 1000000) (hs : sub.length ≤ 1000000) (h0 : 0 < sub.length) (hn : l.length + 1 - sub.length = n)
    (h : cntL l sub n = 1) :
    Calls Try.prog 11 #[.string ⟨l.toArray⟩, .string ⟨sub.toArray⟩] w fun e w' => e = .returned (.int .i64 1) ∧ w' = w := by
  refine (count_any _ _ w (by rw [size_mk]; exact hl) (by rw [size_mk]; exact hs) (by rw [size_mk]; exact h0)).mono ?_
  rintro e w' ⟨rfl, rfl⟩
  exact ⟨ret_int (by rw [size_mk, size_mk, hn, cnt_eq, h]; rfl), rfl⟩

theorem index_at (l sub : List UInt8) (n : Nat) (w : World) (hl : l.length ≤ 1000000) (hs : sub.length ≤ 1000000) (hn : n + sub.length ≤ l.length)
    (h : hitL (l.drop n) sub = true) (hno : ∀ k, k < n → hitL (l.drop k) sub = false) :
    Calls Try.prog 12 #[.string ⟨l.toArray⟩, .string ⟨sub.toArray⟩] w fun e w' => e = .returned (.int .i64 n) ∧ w' = w :=
  index_any _ _ n w (by rw [size_mk]; exact hl) (by rw [size_mk]; exact hs) (by rw [size_mk, size_mk]; exact hn) (by rw [hit_eq]; exact h) (fun k hk => by rw [hit_eq]; exact hno k hk)

theorem count_plain (w : World) : Calls Try.prog 11 #[.string plain, .string ⟨#[44, 32, 102, 97, 108, 115, 101]⟩] w fun e w' => e = .returned (.int .i64 1) ∧ w' = w :=
  count_one plainL falseL 488 w (by decide +kernel) (by decide +kernel) (by decide +kernel) (by decide +kernel) (by decide +kernel)

theorem index_plain (w : World) : Calls Try.prog 12 #[.string plain, .string ⟨#[44, 32, 102, 97, 108, 115, 101]⟩] w fun e w' => e = .returned (.int .i64 182) ∧ w' = w :=
  index_at plainL falseL 182 w (by decide +kernel) (by decide +kernel) (by decide +kernel) (by decide +kernel) (by decide +kernel)

def cteL : List UInt8 := [87, 73, 84, 72, 32, 99, 32, 65, 83, 32, 40] ++ (plainL.take 182 ++ plainL.drop 189) ++ [41]
def cte : ByteArray := ⟨cteL.toArray⟩

theorem bytes_ext {a b : ByteArray} (h : a.data.toList = b.data.toList) : a = b := by
  obtain ⟨⟨a⟩⟩ := a
  obtain ⟨⟨b⟩⟩ := b
  simp at h
  rw [h]

theorem cte_eq : ({ data := #[87, 73, 84, 72, 32, 99, 32, 65, 83, 32, 40] } ++ (plain.extract 0 182 ++ plain.extract 189 494) ++ { data := #[41] } : ByteArray) = cte := by
  refine bytes_ext ?_
  simp only [ByteArray.data_append, Array.toList_append, Lib.extract_data]
  unfold plain cte
  decide +kernel

theorem size_cte : cte.size = 499 := by unfold cte; rw [size_mk]; decide +kernel

theorem count_probing (w : World) : Calls Try.prog 11 #[.string probing, .string cte] w fun e w' => e = .returned (.int .i64 1) ∧ w' = w :=
  count_one probingL cteL 254 w (by decide +kernel) (by decide +kernel) (by decide +kernel) (by decide +kernel) (by decide +kernel)

theorem index_probing (w : World) : Calls Try.prog 12 #[.string probing, .string cte] w fun e w' => e = .returned (.int .i64 2) ∧ w' = w :=
  index_at probingL cteL 2 w (by decide +kernel) (by decide +kernel) (by decide +kernel) (by decide +kernel) (by decide +kernel)

theorem index_sel (w : World) : Calls Try.prog 12 #[.string probing, .string ⟨#[83, 69, 76, 69, 67, 84, 32, 99, 46, 42, 44, 32]⟩] w fun e w' => e = .returned (.int .i64 503) ∧ w' = w :=
  index_at probingL selL 503 w (by decide +kernel) (by decide +kernel) (by decide +kernel) (by decide +kernel) (by decide +kernel)

set_option maxRecDepth 100000 in
set_option maxHeartbeats 400000 in
theorem walk_false (w : World) :
    Calls Try.prog 5 #[.bool false] w fun e w' => e = .returned (.bool true) ∧ Grown w w' := by
  have e1 := neq_texts
  have e2 := size_plain
  have e3 := size_probing
  have e4 := pre_plain
  have e5 := size_cte
  go_enter Try.func5, Try.ntmps5
  go_wp2_with fail
  refine (text_plain _).mono ?_
  rintro e w' ⟨rfl, rfl⟩
  go_wp2_with fail
  refine (text_probing _).mono ?_
  rintro e w' ⟨rfl, rfl⟩
  go_wp2_with fail
  refine (count_plain _).mono ?_
  rintro e w' ⟨rfl, rfl⟩
  go_wp2_with fail
  refine (index_plain _).mono ?_
  rintro e w' ⟨rfl, rfl⟩
  go_wp2_with fail
  go_quiet (fail)
  go_wp2_with fail
  rw [cte_eq]
  refine (count_probing _).mono ?_
  rintro e w2 ⟨rfl, rfl⟩
  go_wp2_with fail
  refine (index_probing _).mono ?_
  rintro e w2 ⟨rfl, rfl⟩
  go_wp2_with fail
  refine (index_sel _).mono ?_
  rintro e w2 ⟨rfl, rfl⟩
  go_wp2_with fail
  go_ret
  exact ⟨rfl, grown_drewN _ _⟩

set_option maxRecDepth 100000 in
set_option maxHeartbeats 400000 in
theorem walk_true (w : World) :
    Calls Try.prog 5 #[.bool true] w fun e w' => e = .returned (.bool true) ∧ Grown w w' := by
  have e1 := neq_texts
  have e2 := size_plain
  have e3 := size_probing
  have e4 := pre_plain
  have e5 := size_cte
  go_enter Try.func5, Try.ntmps5
  go_wp2_with fail
  refine (text_probing _).mono ?_
  rintro e w' ⟨rfl, rfl⟩
  go_wp2_with fail
  refine (text_plain _).mono ?_
  rintro e w' ⟨rfl, rfl⟩
  go_wp2_with fail
  refine (count_plain _).mono ?_
  rintro e w' ⟨rfl, rfl⟩
  go_wp2_with fail
  refine (index_plain _).mono ?_
  rintro e w' ⟨rfl, rfl⟩
  go_wp2_with fail
  go_quiet (fail)
  go_wp2_with fail
  rw [cte_eq]
  refine (count_probing _).mono ?_
  rintro e w2 ⟨rfl, rfl⟩
  go_wp2_with fail
  refine (index_probing _).mono ?_
  rintro e w2 ⟨rfl, rfl⟩
  go_wp2_with fail
  refine (index_sel _).mono ?_
  rintro e w2 ⟨rfl, rfl⟩
  go_wp2_with fail
  go_ret
  exact ⟨rfl, grown_drewN _ _⟩

end Go.Proofs.Qxb6604158a.Ctext
