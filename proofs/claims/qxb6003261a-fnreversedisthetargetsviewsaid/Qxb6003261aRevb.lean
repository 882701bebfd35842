/-
  The walks of (*Association).Reversed (6) and zzCardinality (7).
-/
import Derived.Test.Qxb6003261aRev0
import Derived.WalkKit
import Derived.WalkSpells
import Derived.WalkLawsBesides
import Derived.BigRegion
import Derived.StillTailTactics
namespace Go.Proofs.Qxb6003261a.Rev
open Go.RowKit
set_option linter.unusedSimpArgs false
set_option linter.unusedVariables false

set_option maxHeartbeats 400000 in
theorem rev_b1 (b : Nat) (nm tk sk rv : ByteArray) (t k : Int) (src tgt kin : Option Addr) (w : World) (h : At w b nm tk sk rv t k src tgt kin) (ht3 : (t == 3) = false) (ht2 : (t == 2) = true) (hk1 : (k == 1) = true) (hk2 : (k == 2) = false) (hk3 : (k == 3) = false) (hk4 : (k == 4) = false) :
    Calls Try.prog 6 #[.pointer (some ⟨b, 0, none⟩)] w (Post nm tk sk rv t k src tgt kin w) := by
  unfold Post
  have hX : (cellsOf nm tk sk rv t k src tgt kin = #[.string rv, .int .i64 3, .pointer tgt, .pointer src, .int .i64 2, .pointer kin, .string tk, .string ⟨#[]⟩, .string nm,
      .string ⟨#[]⟩, .string ⟨#[]⟩, .string ⟨#[]⟩, .string ⟨#[]⟩, .string ⟨#[]⟩]) := by
    simp [cellsOf, rT, rK, rIn, rTK, rSK, ht3, ht2, hk1, hk2, hk3, hk4]
  have HX := hide hX
  clear hX
  generalize cellsOf nm tk sk rv t k src tgt kin = X at HX
  obtain ⟨hb, c0, c1, c2, c3, c4, c5, c6, c7, c8⟩ := h
  go_enter Try.func6, Try.ntmps6
  go_wp2
  go_still_tail 32, (by kernel_rfl)
  go_wp2
  go_ret
  exact ⟨rfl, 1, by rw [HX.out]; rfl⟩

set_option maxHeartbeats 400000 in
theorem rev_b2 (b : Nat) (nm tk sk rv : ByteArray) (t k : Int) (src tgt kin : Option Addr) (w : World) (h : At w b nm tk sk rv t k src tgt kin) (ht3 : (t == 3) = false) (ht2 : (t == 2) = true) (hk1 : (k == 1) = false) (hk2 : (k == 2) = true) (hk3 : (k == 3) = false) (hk4 : (k == 4) = false) :
    Calls Try.prog 6 #[.pointer (some ⟨b, 0, none⟩)] w (Post nm tk sk rv t k src tgt kin w) := by
  unfold Post
  have hX : (cellsOf nm tk sk rv t k src tgt kin = #[.string rv, .int .i64 3, .pointer tgt, .pointer src, .int .i64 1, .pointer kin, .string tk, .string ⟨#[]⟩, .string nm,
      .string ⟨#[]⟩, .string ⟨#[]⟩, .string ⟨#[]⟩, .string ⟨#[]⟩, .string ⟨#[]⟩]) := by
    simp [cellsOf, rT, rK, rIn, rTK, rSK, ht3, ht2, hk1, hk2, hk3, hk4]
  have HX := hide hX
  clear hX
  generalize cellsOf nm tk sk rv t k src tgt kin = X at HX
  obtain ⟨hb, c0, c1, c2, c3, c4, c5, c6, c7, c8⟩ := h
  go_enter Try.func6, Try.ntmps6
  go_wp2
  go_still_tail 32, (by kernel_rfl)
  go_wp2
  go_ret
  exact ⟨rfl, 1, by rw [HX.out]; rfl⟩

set_option maxHeartbeats 400000 in
theorem rev_b3 (b : Nat) (nm tk sk rv : ByteArray) (t k : Int) (src tgt kin : Option Addr) (w : World) (h : At w b nm tk sk rv t k src tgt kin) (ht3 : (t == 3) = false) (ht2 : (t == 2) = true) (hk1 : (k == 1) = false) (hk2 : (k == 2) = false) (hk3 : (k == 3) = true) (hk4 : (k == 4) = false) :
    Calls Try.prog 6 #[.pointer (some ⟨b, 0, none⟩)] w (Post nm tk sk rv t k src tgt kin w) := by
  unfold Post
  have hX : (cellsOf nm tk sk rv t k src tgt kin = #[.string rv, .int .i64 3, .pointer tgt, .pointer src, .int .i64 k, .pointer kin, .string sk, .string tk, .string nm,
      .string ⟨#[]⟩, .string ⟨#[]⟩, .string ⟨#[]⟩, .string ⟨#[]⟩, .string ⟨#[]⟩]) := by
    simp [cellsOf, rT, rK, rIn, rTK, rSK, ht3, ht2, hk1, hk2, hk3, hk4]
  have HX := hide hX
  clear hX
  generalize cellsOf nm tk sk rv t k src tgt kin = X at HX
  obtain ⟨hb, c0, c1, c2, c3, c4, c5, c6, c7, c8⟩ := h
  go_enter Try.func6, Try.ntmps6
  go_wp2
  go_still_tail 32, (by kernel_rfl)
  go_wp2
  go_region
  go_wp2
  go_ret
  exact ⟨rfl, 2, by rw [HX.out]; rfl⟩

set_option maxHeartbeats 400000 in
theorem rev_b4 (b : Nat) (nm tk sk rv : ByteArray) (t k : Int) (src tgt kin : Option Addr) (w : World) (h : At w b nm tk sk rv t k src tgt kin) (ht3 : (t == 3) = false) (ht2 : (t == 2) = true) (hk1 : (k == 1) = false) (hk2 : (k == 2) = false) (hk3 : (k == 3) = false) (hk4 : (k == 4) = true) :
    Calls Try.prog 6 #[.pointer (some ⟨b, 0, none⟩)] w (Post nm tk sk rv t k src tgt kin w) := by
  unfold Post
  have hX : (cellsOf nm tk sk rv t k src tgt kin = #[.string rv, .int .i64 3, .pointer tgt, .pointer src, .int .i64 k, .pointer tgt, .string sk, .string tk, .string nm,
      .string ⟨#[]⟩, .string ⟨#[]⟩, .string ⟨#[]⟩, .string ⟨#[]⟩, .string ⟨#[]⟩]) := by
    simp [cellsOf, rT, rK, rIn, rTK, rSK, ht3, ht2, hk1, hk2, hk3, hk4]
  have HX := hide hX
  clear hX
  generalize cellsOf nm tk sk rv t k src tgt kin = X at HX
  obtain ⟨hb, c0, c1, c2, c3, c4, c5, c6, c7, c8⟩ := h
  go_enter Try.func6, Try.ntmps6
  go_wp2
  go_still_tail 32, (by kernel_rfl)
  go_wp2
  go_region
  go_wp2
  go_ret
  exact ⟨rfl, 2, by rw [HX.out]; rfl⟩

set_option maxHeartbeats 400000 in
theorem rev_b0 (b : Nat) (nm tk sk rv : ByteArray) (t k : Int) (src tgt kin : Option Addr) (w : World) (h : At w b nm tk sk rv t k src tgt kin) (ht3 : (t == 3) = false) (ht2 : (t == 2) = true) (hk1 : (k == 1) = false) (hk2 : (k == 2) = false) (hk3 : (k == 3) = false) (hk4 : (k == 4) = false) :
    Calls Try.prog 6 #[.pointer (some ⟨b, 0, none⟩)] w (Post nm tk sk rv t k src tgt kin w) := by
  unfold Post
  have hX : (cellsOf nm tk sk rv t k src tgt kin = #[.string rv, .int .i64 3, .pointer tgt, .pointer src, .int .i64 k, .pointer kin, .string tk, .string ⟨#[]⟩, .string nm,
      .string ⟨#[]⟩, .string ⟨#[]⟩, .string ⟨#[]⟩, .string ⟨#[]⟩, .string ⟨#[]⟩]) := by
    simp [cellsOf, rT, rK, rIn, rTK, rSK, ht3, ht2, hk1, hk2, hk3, hk4]
  have HX := hide hX
  clear hX
  generalize cellsOf nm tk sk rv t k src tgt kin = X at HX
  obtain ⟨hb, c0, c1, c2, c3, c4, c5, c6, c7, c8⟩ := h
  go_enter Try.func6, Try.ntmps6
  go_wp2
  go_still_tail 32, (by kernel_rfl)
  go_wp2
  go_ret
  exact ⟨rfl, 1, by rw [HX.out]; rfl⟩

end Go.Proofs.Qxb6003261a.Rev
