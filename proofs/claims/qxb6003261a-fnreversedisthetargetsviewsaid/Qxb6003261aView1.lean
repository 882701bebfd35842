/-
  Pointer tests and the two calls of Reversed.
-/
import Derived.Test.Qxb6003261aRev
import Derived.Test.Qxb6003261aView0
import Derived.RowKit3
import Derived.LaidEqlPtr
namespace Go.Proofs.Qxb6003261a.Rev
open Go.RowKit
set_option linter.unusedVariables false

def Plain (w : World) (b : Nat) : Prop := ∃ c t, w.heap[b]? = some (.cells c t (0, 0))

theorem plain_new (w : World) (c : Array Value) (t : TypeId) : Plain (w.alloc (.cells c t)) w.heap.size := by
  refine ⟨c, t, ?_⟩
  show (w.heap.push _)[w.heap.size]? = _
  simp
theorem plain_old {w : World} {b : Nat} (h : Plain w b) (o : Obj) : Plain (w.alloc o) b := by
  obtain ⟨c, t, h⟩ := h
  refine ⟨c, t, ?_⟩
  have hb : b < w.heap.size := (Array.getElem?_eq_some_iff.1 h).1
  rw [Below.heap_alloc w o b hb]; exact h
theorem plain_drewN {w : World} {b : Nat} (h : Plain w b) : ∀ n, Plain (w.drewN n) b
  | 0 => h
  | n + 1 => plain_drewN h n
theorem grown_drewN {w w' : World} (h : Grown w w') : ∀ n, Grown w (w'.drewN n)
  | 0 => h
  | n + 1 => (grown_drewN h n).drew

theorem eql_other {w : World} {a b : Addr} (hne : a ≠ b) (ha : Plain w a.block) (hb : Plain w b.block) :
    (binOp .eql 28 (.pointer (some a)) (.pointer (some b))).run Try.prog w = .ok (.bool false) w := by
  obtain ⟨ca, ta, ha⟩ := ha
  obtain ⟨cb, tb, hb⟩ := hb
  exact run_eql_ptr_other w (te := 32) (j := (Try.prog.info? 32).get (by decide +kernel)) Try.underlying28 (by simp) (by decide +kernel) hne ha hb

theorem neq_same (w : World) (p : Option Addr) : (binOp .neq 23 (.pointer p) (.pointer p)).run Try.prog w = .ok (.bool false) w := by
  have hte : Try.prog.info? 27 = some ((Try.prog.info? 27).get (by decide +kernel)) := by simp
  generalize (Try.prog.info? 27).get (by decide +kernel) = j at hte
  have h : ∀ d : Nat, (Op.equalIn (d + 1) 23 (.pointer p) (.pointer p)).run Try.prog w = .ok true w := fun d => by
    cases p with
    | none => simp [Op.equalIn, run_underlying Try.underlying23]
    | some a => simp [Op.equalIn, run_underlying Try.underlying23, sizeOf, typeInfo, hte, run_sameAddr_same]
  simp only [binOp]
  simp [Op.equal, Op.maxDepth, h 9999]

theorem neq_other {w : World} {a b : Addr} (hne : a ≠ b) (ha : Plain w a.block) (hb : Plain w b.block) :
    (binOp .neq 23 (.pointer (some a)) (.pointer (some b))).run Try.prog w = .ok (.bool true) w := by
  obtain ⟨ca, ta, ha⟩ := ha
  obtain ⟨cb, tb, hb⟩ := hb
  have hte : Try.prog.info? 27 = some ((Try.prog.info? 27).get (by decide +kernel)) := by simp
  have hsz : ((Try.prog.info? 27).get (by decide +kernel)).size ≠ 0 := by decide +kernel
  generalize (Try.prog.info? 27).get (by decide +kernel) = j at hte hsz
  have h : ∀ d : Nat, (Op.equalIn (d + 1) 23 (.pointer (some a)) (.pointer (some b))).run Try.prog w = .ok false w := fun d => by
    simp [Op.equalIn, run_underlying Try.underlying23, sizeOf, typeInfo, hte, hsz, run_sameAddr_other w hne ha hb]
  simp only [binOp]
  simp [Op.equal, Op.maxDepth, h 9999]

theorem neq_nil (w : World) (a : Addr) : (binOp .neq 23 (.pointer none) (.pointer (some a))).run Try.prog w = .ok (.bool true) w := by
  have h : ∀ d : Nat, (Op.equalIn (d + 1) 23 (.pointer none) (.pointer (some a))).run Try.prog w = .ok false w := fun d => by
    simp [Op.equalIn, run_underlying Try.underlying23]
  simp only [binOp]
  simp [Op.equal, Op.maxDepth, h 9999]

theorem rev_lit (b : Nat) (nm tk sk rv : ByteArray) (t k : Int) (src tgt kin : Option Addr) (w : World) (h : At w b nm tk sk rv t k src tgt kin) :
    Calls Try.prog 6 #[.pointer (some ⟨b, 0, none⟩)] w fun e w' => e = .returned (.pointer (some ⟨w.heap.size, 0, none⟩)) ∧
      ∃ n, w' = (w.alloc (.cells #[.string rv, .int .i64 (rT t), .pointer tgt, .pointer src, .int .i64 (rK k), .pointer (rIn k tgt kin), .string (rTK k tk sk), .string (rSK k tk), .string nm,
    .string ⟨#[]⟩, .string ⟨#[]⟩, .string ⟨#[]⟩, .string ⟨#[]⟩, .string ⟨#[]⟩] 32)).drewN n := rev_any b nm tk sk rv t k src tgt kin w h

theorem rev_back (b : Nat) (nm tk sk rv : ByteArray) (t k : Int) (src tgt kin : Option Addr) (w : World)
    (h : At w b rv (rTK k tk sk) (rSK k tk) nm (rT t) (rK k) tgt src (rIn k tgt kin))
    (h1 : rSK (rK k) (rTK k tk sk) = sk) (h2 : rIn (rK k) src (rIn k tgt kin) = kin) :
    Calls Try.prog 6 #[.pointer (some ⟨b, 0, none⟩)] w fun e w' => e = .returned (.pointer (some ⟨w.heap.size, 0, none⟩)) ∧
      ∃ n, w' = (w.alloc (.cells #[.string nm, .int .i64 t, .pointer src, .pointer tgt, .int .i64 k, .pointer kin, .string tk, .string sk, .string rv,
    .string ⟨#[]⟩, .string ⟨#[]⟩, .string ⟨#[]⟩, .string ⟨#[]⟩, .string ⟨#[]⟩] 32)).drewN n := by
  have e1 : rT (rT t) = t := by
    unfold rT
    by_cases h3 : t = 3
    · subst h3; rfl
    by_cases h2 : t = 2
    · subst h2; rfl
    simp [h3, h2]
  have e2 : rK (rK k) = k := by
    unfold rK
    by_cases h3 : k = 1
    · subst h3; rfl
    by_cases h2 : k = 2
    · subst h2; rfl
    simp [h3, h2]
  have e3 : rTK (rK k) (rTK k tk sk) (rSK k tk) = tk := by
    rcases kcase k with ⟨g1, g2, g3, g4⟩ | ⟨g1, g2, g3, g4⟩ | ⟨g1, g2, g3, g4⟩ | ⟨g1, g2, g3, g4⟩ | ⟨g1, g2, g3, g4⟩ <;> simp [rTK, rSK, rK, g1, g2, g3, g4]
  have h := rev_lit b rv (rTK k tk sk) (rSK k tk) nm (rT t) (rK k) tgt src (rIn k tgt kin) w h
  rw [e1, e2, e3, h1, h2] at h
  exact h

theorem card_rev (t : Int) (h : cOk t = true) : cOk (rT t) = true ∧ cS (rT t) = cT t ∧ cT (rT t) = cS t := by
  simp only [cOk, Bool.or_eq_true, beq_iff_eq] at h
  rcases h with ((h | h) | h) | h <;> subst h <;> decide

theorem rev_id (t : Int) (h : cOk t = false) : rT t = t := by
  simp only [cOk, Bool.or_eq_false_iff] at h
  simp [rT, h.1.2, h.1.1.2]

theorem doc_facts (k : Int) (tk sk : ByteArray) (src tgt kin : Option Addr) (h1 : (k == 3) = true ∨ (k == 4) = true ∨ sk = ⟨#[]⟩) (h2 : (k == 4) = false ∨ kin = src) :
    rSK (rK k) (rTK k tk sk) = sk ∧ rIn (rK k) src (rIn k tgt kin) = kin := by
  rcases kcase k with ⟨g1, g2, g3, g4⟩ | ⟨g1, g2, g3, g4⟩ | ⟨g1, g2, g3, g4⟩ | ⟨g1, g2, g3, g4⟩ | ⟨g1, g2, g3, g4⟩ <;>
    simp_all [rTK, rSK, rK, rIn]

theorem ne_empty {s : ByteArray} (h : s ≠ ⟨#[]⟩) : s.toList.isEmpty = false := by
  obtain ⟨⟨l⟩⟩ := s
  cases l with
  | nil => exact absurd rfl h
  | cons a l => simp [ByteArray.toList_eq]

end Go.Proofs.Qxb6003261a.Rev
