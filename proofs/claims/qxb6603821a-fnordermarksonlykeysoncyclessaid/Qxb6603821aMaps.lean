/-
  A map from names to places, its block written out. No program in sight.
-/
import Derived.Test.Qxb6603821aBase
import Derived.Maps.RangeRun
import Derived.ChangeMaps4
namespace Go.Proofs.Qxb6603821a.B
open Go.RowKit
open Go.ChangeMaps (setBlock)
set_option linter.unusedVariables false

def entryAt (p : ByteArray × Nat) : MapEntry := ⟨.string p.1, .int .i64 (p.2 : Int), p.2⟩
/-- The entries of a map that was given the names of 'l', one after the other, each with its place. -/
def mapOf (l : List ByteArray) : Array MapEntry := (l.zipIdx.map entryAt).toArray
def place (l : List ByteArray) (s : ByteArray) : Option Nat := l.findIdx? (fun x => s == x)

theorem findNow_map (s : ByteArray) : ∀ (l : List ByteArray) (i n : Nat),
    Instr.findNow .string (.string s) ((l.zipIdx n).map entryAt) i = some ((place l s).map fun j => (i + j, Value.int .i64 ((n + j : Nat) : Int)))
  | [], i, n => by simp [place, Instr.findNow]
  | x :: l, i, n => by
    have ih := findNow_map s l (i + 1) (n + 1)
    simp only [List.zipIdx_cons, List.map_cons, Instr.findNow, entryAt, Instr.sameNow]
    cases h : s == x
    · simp only
      rw [ih]
      simp only [place, List.findIdx?_cons, h, Bool.false_eq_true, if_false]
      cases List.findIdx? (fun x => s == x) l with
      | none => rfl
      | some j =>
        simp only [Option.map_some]
        rw [show i + 1 + j = i + (j + 1) by omega, show n + 1 + j = n + (j + 1) by omega]
    · simp only [place, List.findIdx?_cons, h, if_true, Option.map_some]; simp

theorem check_str {P : Program} {w : World} {k : Nat} (hk : P.underlying k = some .string) (em : Bool) (s : ByteArray) : (Instr.checkKey em 10000 k (.string s)).run P w = .ok () w := by
  have h : ∀ d, (Instr.checkKey em (d + 1) k (.string s)).run P w = .ok () w := fun d => by simp [Instr.checkKey, run_underlying hk]
  exact h 9999

theorem run_lookup_at {P : Program} {w : World} {t k e b c : Nat} {l : List ByteArray} {s : ByteArray} (ht : P.underlying t = some (.map k e)) (hk : P.underlying k = some .string)
    (he : ∀ w, (zeroValue e).run P w = .ok (.int .i64 0) w) (hb : w.heap[b]? = some (.map (mapOf l) c)) :
    (Instr.lookup t (.map (some b)) (.string s) true).run P w = .ok (.tuple #[.int .i64 (((place l s).getD 0 : Nat) : Int), .bool (place l s).isSome]) w := by
  have hf := findNow_map s l 0 0
  have hg : (getObj b).run P w = .ok (.map (mapOf l) c) w := by simp [getObj, Sem.run, hb]
  have hf' : (Instr.findKey k (.string s) (mapOf l).toList).run P w = .ok ((place l s).map fun j => (j, Value.int .i64 (j : Int))) w := by
    simp only [Instr.findKey, Sem.run_bind, run_underlying hk, Result.andThen_ok, mapOf]
    rw [hf]
    simp
  simp only [Instr.lookup, Sem.run_bind, run_underlying ht, Result.andThen_ok, hg, Sem.run_pure]
  rw [check_str hk]
  simp only [Result.andThen_ok, hf']
  cases place l s with
  | none => simp [he]
  | some j => simp

theorem mapOf_snoc (l : List ByteArray) (s : ByteArray) : (mapOf l).push ⟨.string s, .int .i64 (l.length : Int), l.length⟩ = mapOf (l ++ [s]) := by
  simp [mapOf, List.zipIdx_append, entryAt]

theorem run_update_at {P : Program} {w : World} {t k e b : Nat} {l : List ByteArray} {s : ByteArray} (ht : P.underlying t = some (.map k e)) (hk : P.underlying k = some .string)
    (hb : w.heap[b]? = some (.map (mapOf l) l.length)) (hs : place l s = none) :
    (Instr.mapUpdate t (.map (some b)) (.string s) (.int .i64 (l.length : Int))).run P w = .ok () (setBlock w b (.map (mapOf (l ++ [s])) (l.length + 1))) := by
  have hf := findNow_map s l 0 0
  have hg : (getObj b).run P w = .ok (.map (mapOf l) l.length) w := by simp [getObj, Sem.run, hb]
  have hf' : (Instr.findKey k (.string s) (mapOf l).toList).run P w = .ok none w := by
    simp only [Instr.findKey, Sem.run_bind, run_underlying hk, Result.andThen_ok, mapOf]
    rw [hf, hs]
    simp
  simp only [Instr.mapUpdate, Sem.run_bind, run_underlying ht, Result.andThen_ok, hg]
  rw [check_str hk]
  simp only [Result.andThen_ok, hf']
  rw [mapOf_snoc]
  simp [setObj, Sem.run, hb, setBlock]

theorem heap_setBlock (w : World) (b : Nat) (o : Obj) (h : b < w.heap.size) : (setBlock w b o).heap[b]? = some o := by simp [setBlock, h]
theorem size_setBlock (w : World) (b : Nat) (o : Obj) : (setBlock w b o).heap.size = w.heap.size := by simp [setBlock]
theorem below_setBlock {B : Nat} {a w : World} (h : Below B a w) {b : Nat} (hb : B ≤ b) (o : Obj) : Below B a (setBlock w b o) :=
  h.trans ⟨rfl, rfl, rfl, by simp [setBlock], fun k hk => by simp only [setBlock]; rw [Array.getElem?_setIfInBounds_ne (by omega)]⟩
theorem cell_setBlock (w : World) (b : Nat) (o : Obj) (p : Addr) (h : p.block ≠ b) : (setBlock w b o).cell? p = w.cell? p := by
  simp only [World.cell?, setBlock]; rw [Array.getElem?_setIfInBounds_ne (by omega)]
theorem frozen_setBlock (w : World) (b : Nat) (o : Obj) (p : Addr) (h : p.block ≠ b) : (setBlock w b o).frozen? p = w.frozen? p := by
  simp only [World.frozen?, setBlock]; rw [Array.getElem?_setIfInBounds_ne (by omega)]

theorem run_makeMap_hint {P : Program} {t k e : Nat} (ht : P.underlying t = some (.map k e)) (n : Int) (w : World) :
    (Instr.makeMap t (some (.int .i64 n))).run P w = .ok (.map (some w.heap.size)) (w.alloc (.map #[] 0)) := by
  simp [Instr.makeMap, run_underlying ht, asInt, asIntOf, newObj, Sem.run]
end Go.Proofs.Qxb6603821a.B
