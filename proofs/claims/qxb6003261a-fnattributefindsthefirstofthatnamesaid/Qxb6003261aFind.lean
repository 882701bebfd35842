/-
  (*Model).Attribute (13).
-/
import Derived.Test.Qxb6003261aAttr
namespace Go.Proofs.Qxb6003261a.Att
open Go.RowKit B
set_option linter.unusedVariables false

structure A where
  nm : ByteArray
  s : Int
  l : Bool
  d : ByteArray

def A.c (a : A) : Array Value := attrC a.nm a.s a.l a.d

/-- The row of attributes at block 'b'. -/
def Attrs (w : World) (b : Nat) (ats : List A) : Prop :=
  b < w.heap.size ∧ ∀ i (h : i < ats.length), w.cell? ⟨b, i * 9, none⟩ = some (.string ats[i].nm) ∧ w.cell? ⟨b, i * 9 + 1, none⟩ = some (.int .i64 ats[i].s) ∧
    w.cell? ⟨b, i * 9 + 2, none⟩ = some (.bool ats[i].l) ∧ w.cell? ⟨b, i * 9 + 3, none⟩ = some (.string ats[i].d) ∧
    w.cell? ⟨b, i * 9 + 4, none⟩ = some (.bool false) ∧ w.cell? ⟨b, i * 9 + 5, none⟩ = some (.pointer none) ∧ w.cell? ⟨b, i * 9 + 6, none⟩ = some (.bool false) ∧
    w.cell? ⟨b, i * 9 + 7, none⟩ = some (.string ⟨#[]⟩) ∧ w.cell? ⟨b, i * 9 + 8, none⟩ = some (.string ⟨#[]⟩)

def zeroL : List Value := [.string ⟨#[]⟩, .int .i64 0, .bool false, .string ⟨#[]⟩, .bool false, .pointer none, .bool false, .string ⟨#[]⟩, .string ⟨#[]⟩]
def A.zero : A := ⟨⟨#[]⟩, 0, false, ⟨#[]⟩⟩

/-- What Attribute answers: the first of that name. -/
def Finds (ats : List A) (q : ByteArray) (a : A) (ok : Bool) : Prop :=
  (ok = true ∧ ∃ f, ∃ h : f < ats.length, a = ats[f] ∧ (ats[f].nm.toList == q.toList) = true ∧ ∀ j (h : j < ats.length), j < f → (ats[j].nm.toList == q.toList) = false) ∨
  (ok = false ∧ a = A.zero ∧ ∀ j (h : j < ats.length), (ats[j].nm.toList == q.toList) = false)

theorem res_cells {wr : World} {B : Nat} {z0 z1 z2 z3 z4 z5 z6 z7 z8 : Value} (hg : B < wr.heap.size) (C : Cells wr B [z0, z1, z2, z3, z4, z5, z6, z7, z8]) (v0 v1 v2 v3 v4 v5 v6 v7 v8 : Value) (o : Obj) :
    Cells ((((((((((wr.setCell ⟨B, 0, none⟩ v0).setCell ⟨B, 1, none⟩ v1).setCell ⟨B, 2, none⟩ v2).setCell ⟨B, 3, none⟩ v3).setCell ⟨B, 4, none⟩ v4).setCell ⟨B, 5, none⟩ v5).setCell ⟨B, 6, none⟩ v6).setCell ⟨B, 7, none⟩ v7).setCell ⟨B, 8, none⟩ v8).alloc o) B [v0, v1, v2, v3, v4, v5, v6, v7, v8] := by
  have C' := ((((((((C.set 0 v0).set 1 v1).set 2 v2).set 3 v3).set 4 v4).set 5 v5).set 6 v6).set 7 v7).set 8 v8
  exact Cells.below (B := (((((((((wr.setCell ⟨B, 0, none⟩ v0).setCell ⟨B, 1, none⟩ v1).setCell ⟨B, 2, none⟩ v2).setCell ⟨B, 3, none⟩ v3).setCell ⟨B, 4, none⟩ v4).setCell ⟨B, 5, none⟩ v5).setCell ⟨B, 6, none⟩ v6).setCell ⟨B, 7, none⟩ v7).setCell ⟨B, 8, none⟩ v8).heap.size) C' ((Below.refl _ _).alloc (Nat.le_refl _) o) (by simpa [World.setCell] using hg)

theorem res_below {w wr : World} {B : Nat} (hb : Below B w wr) (v0 v1 v2 v3 v4 v5 v6 v7 v8 : Value) :
    Below B w (((((((((wr.setCell ⟨B, 0, none⟩ v0).setCell ⟨B, 1, none⟩ v1).setCell ⟨B, 2, none⟩ v2).setCell ⟨B, 3, none⟩ v3).setCell ⟨B, 4, none⟩ v4).setCell ⟨B, 5, none⟩ v5).setCell ⟨B, 6, none⟩ v6).setCell ⟨B, 7, none⟩ v7).setCell ⟨B, 8, none⟩ v8) := by
  refine (Below.setCell (Below.setCell (Below.setCell (Below.setCell (Below.setCell (Below.setCell (Below.setCell (Below.setCell (Below.setCell hb ?_ _) ?_ _) ?_ _) ?_ _) ?_ _) ?_ _) ?_ _) ?_ _) ?_ _)
  all_goals exact Nat.le_refl _

theorem res_size {wr : World} {B : Nat} (hg : B < wr.heap.size) (v0 v1 v2 v3 v4 v5 v6 v7 v8 : Value) : B ≤ (((((((((wr.setCell ⟨B, 0, none⟩ v0).setCell ⟨B, 1, none⟩ v1).setCell ⟨B, 2, none⟩ v2).setCell ⟨B, 3, none⟩ v3).setCell ⟨B, 4, none⟩ v4).setCell ⟨B, 5, none⟩ v5).setCell ⟨B, 6, none⟩ v6).setCell ⟨B, 7, none⟩ v7).setCell ⟨B, 8, none⟩ v8).heap.size := by
  simp [World.setCell]; omega

set_option maxHeartbeats 400000 in
theorem find_any (bm ba cap : Nat) (ats : List A) (q : ByteArray) (w : World) (hn : ats.length ≤ 1048576) (hbm : bm < w.heap.size)
    (hm : w.cell? ⟨bm, 4, none⟩ = some (.slice (some ⟨ba, 0, none⟩) ats.length cap)) (ha : Attrs w ba ats) :
    Calls Try.prog 13 #[.pointer (some ⟨bm, 0, none⟩), .string q] w fun e w' =>
      Below w.heap.size w w' ∧ ∃ a ok, e = .returned (.tuple #[.agg a.c, .bool ok]) ∧ Finds ats q a ok := by
  obtain ⟨n, hN⟩ : ∃ n, ats.length = n := ⟨_, rfl⟩
  rw [hN] at hn hm
  have HN := hide hN
  have HA := hide ha
  clear hN ha
  have H0 := hide (Cells.new w #[.string ⟨#[]⟩, .int .i64 0, .bool false, .string ⟨#[]⟩, .bool false, .pointer none, .bool false, .string ⟨#[]⟩, .string ⟨#[]⟩] 47)
  go_enter Try.func13, Try.ntmps13
  go_wp2
  go_loopw [13] (fun i wr => ∃ k : Nat, k ≤ n ∧ i = .int .i64 k ∧ Hid (∀ j (h : j < ats.length), j < k → (ats[j].nm.toList == q.toList) = false) ∧ Below w.heap.size w wr ∧
      Cells wr w.heap.size zeroL ∧ w.heap.size < wr.heap.size) (fun i _ => n - (intOf i).toNat)
  case atStart => exact ⟨0, Nat.zero_le _, rfl, fun j h hj => absurd hj (by omega), (Below.refl w.heap.size w).alloc (Nat.le_refl _) _, H0.out, by simp⟩
  case round =>
    obtain ⟨k, hk, rfl, HNO, hb, hc, hg⟩ := hrel
    have z0 := hc.at' 0 (by decide)
    have z1 := hc.at' 1 (by decide)
    have z2 := hc.at' 2 (by decide)
    have z3 := hc.at' 3 (by decide)
    have z4 := hc.at' 4 (by decide)
    have z5 := hc.at' 5 (by decide)
    have z6 := hc.at' 6 (by decide)
    have z7 := hc.at' 7 (by decide)
    have z8 := hc.at' 8 (by decide)
    have y0 := hc.free 0 (by decide)
    have y1 := hc.free 1 (by decide)
    have y2 := hc.free 2 (by decide)
    have y3 := hc.free 3 (by decide)
    have y4 := hc.free 4 (by decide)
    have y5 := hc.free 5 (by decide)
    have y6 := hc.free 6 (by decide)
    have y7 := hc.free 7 (by decide)
    have y8 := hc.free 8 (by decide)
    have HC := hide hc
    clear hc
    simp only [zeroL, List.getElem_cons_zero, List.getElem_cons_succ] at z0 z1 z2 z3 z4 z5 z6 z7 z8
    by_cases hlt : k < n
    · have hlt' : k < ats.length := by rw [HN.out]; exact hlt
      obtain ⟨hba, hcs⟩ := HA.out
      obtain ⟨c0, c1, c2, c3, c4, c5, c6, c7, c8⟩ := hcs k hlt'
      have e0 := (hb.cell (p := ⟨ba, k * 9, none⟩) hba).trans c0
      have e1 := (hb.cell (p := ⟨ba, k * 9 + 1, none⟩) hba).trans c1
      have e2 := (hb.cell (p := ⟨ba, k * 9 + 2, none⟩) hba).trans c2
      have e3 := (hb.cell (p := ⟨ba, k * 9 + 3, none⟩) hba).trans c3
      have e4 := (hb.cell (p := ⟨ba, k * 9 + 4, none⟩) hba).trans c4
      have e5 := (hb.cell (p := ⟨ba, k * 9 + 5, none⟩) hba).trans c5
      have e6 := (hb.cell (p := ⟨ba, k * 9 + 6, none⟩) hba).trans c6
      have e7 := (hb.cell (p := ⟨ba, k * 9 + 7, none⟩) hba).trans c7
      have e8 := (hb.cell (p := ⟨ba, k * 9 + 8, none⟩) hba).trans c8
      clear c0 c1 c2 c3 c4 c5 c6 c7 c8 hcs hba
      obtain ⟨at', hat⟩ : ∃ a, ats[k] = a := ⟨_, rfl⟩
      rw [hat] at e0 e1 e2 e3
      have HAT := hide hat
      clear hat
      obtain ⟨nm, s, l, d⟩ := at'
      simp only at e0 e1 e2 e3
      cases hq : nm.toList == q.toList
      · go_wp2
        go_roundw
        case rel =>
          refine ⟨k + 1, by omega, by go_num, ?_, ?_, ?_, ?_⟩
          · intro j h hj
            by_cases e : j = k
            · subst e; rw [HAT.out]; exact hq
            · exact HNO.out j h (by omega)
          · exact hb.alloc (by omega) _
          · exact HC.out.below (B := wr.heap.size) ((Below.refl _ _).alloc (Nat.le_refl _) _) hg
          · simp; omega
        case measure => simp [intOf]; omega
      · go_wp2
        refine bodyPost_ret (v := .tuple #[.agg (A.c ⟨nm, s, l, d⟩), .bool true]) ?_ rfl ?_
        · have C := res_cells hg HC.out (.string nm) (.int .i64 s) (.bool l) (.string d) (.bool false) (.pointer none) (.bool false) (.string ⟨#[]⟩) (.string ⟨#[]⟩)
            (.cells #[.string nm, .int .i64 s, .bool l, .string d, .bool false, .pointer none, .bool false, .string ⟨#[]⟩, .string ⟨#[]⟩] 47)
          have q0 := C.get (j := 0) rfl
          have q1 := C.get (j := 1) rfl
          have q2 := C.get (j := 2) rfl
          have q3 := C.get (j := 3) rfl
          have q4 := C.get (j := 4) rfl
          have q5 := C.get (j := 5) rfl
          have q6 := C.get (j := 6) rfl
          have q7 := C.get (j := 7) rfl
          have q8 := C.get (j := 8) rfl
          clear C
          simp [results, Try.results13, go_sem, A.c, attrC, q0, q1, q2, q3, q4, q5, q6, q7, q8]
        · refine ⟨?_, _, _, rfl, .inl ⟨rfl, k, hlt', HAT.out.symm, by rw [HAT.out]; exact hq, fun j h hj => HNO.out j h hj⟩⟩
          exact (res_below hb _ _ _ _ _ _ _ _ _).alloc (res_size hg _ _ _ _ _ _ _ _ _) _
    · obtain rfl : k = n := by omega
      go_wp2
      refine bodyPost_ret (v := .tuple #[.agg (A.c A.zero), .bool false]) ?_ rfl ?_
      · simp [results, Try.results13, go_sem, A.c, A.zero, attrC, z0, z1, z2, z3, z4, z5, z6, z7, z8]
      · refine ⟨?_, _, _, rfl, .inr ⟨rfl, rfl, fun j h => HNO.out j h (by have := HN.out; omega)⟩⟩
        exact res_below hb _ _ _ _ _ _ _ _ _
end Go.Proofs.Qxb6003261a.Att
