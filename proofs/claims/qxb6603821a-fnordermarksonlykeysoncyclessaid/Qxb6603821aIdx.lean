/-
  nameIndex (10).
-/
import Derived.Test.Qxb6603821aRows
import Derived.Test.Qxb6603821aMaps
import Derived.Lib.SliceRun
namespace Go.Proofs.Qxb6603821a.W
open Go.RowKit B
open Go.ChangeMaps (setBlock)
set_option linter.unusedVariables false

theorem beq_bytes {a b : ByteArray} : (a == b) = true ↔ a = b := by
  obtain ⟨⟨x⟩⟩ := a
  obtain ⟨⟨y⟩⟩ := b
  show ((⟨x⟩ : Array UInt8) == ⟨y⟩) = true ↔ _
  simp

theorem place_none {l : List ByteArray} {s : ByteArray} : place l s = none ↔ s ∉ l := by
  unfold place
  rw [List.findIdx?_eq_none_iff]
  constructor
  · intro h hm
    have := h s hm
    rw [beq_bytes.2 rfl] at this; cases this
  · intro h x hx
    cases e : s == x
    · rfl
    · rw [beq_bytes] at e; subst e; exact absurd hx h

theorem place_some {l : List ByteArray} {s : ByteArray} {j : Nat} (h : place l s = some j) : ∃ hj : j < l.length, l[j] = s := by
  unfold place at h
  rw [List.findIdx?_eq_some_iff_getElem] at h
  obtain ⟨hj, h1, _⟩ := h
  exact ⟨hj, (beq_bytes.1 h1).symm⟩

theorem place_get {l : List ByteArray} (hl : l.Nodup) {j : Nat} (hj : j < l.length) : place l l[j] = some j := by
  cases h : place l l[j] with
  | none => exact absurd (List.getElem_mem hj) (place_none.1 h)
  | some i =>
    obtain ⟨hi, e⟩ := place_some h
    congr 1
    exact (List.getElem_inj hl).1 e

theorem nodup_take_succ {l : List ByteArray} {k : Nat} (hk : k < l.length) (h : (l.take k).Nodup) (hn : l[k] ∉ l.take k) : (l.take (k + 1)).Nodup := by
  rw [List.take_succ_eq_append_getElem hk, List.nodup_append]
  refine ⟨h, by simp, ?_⟩
  intro a ha b hb e
  simp at hb
  subst hb; subst e
  exact hn ha

theorem zero3 (w : World) : (zeroValue 3).run Try.prog w = .ok (.int .i64 0) w := by kernel_rfl

def IdxPost (xs : List ByteArray) (w : World) (e : Ending) (w' : World) : Prop :=
  Below w.heap.size w w' ∧ e = .returned (.tuple #[.map (some w.heap.size), .bool (decide xs.Nodup)]) ∧
    (xs.Nodup → w'.heap[w.heap.size]? = some (.map (mapOf xs) xs.length) ∧ w.heap.size < w'.heap.size)

set_option maxHeartbeats 400000 in
theorem idx_any (a : Option Addr) (cap : Nat) (xs : List ByteArray) (w : World) (hn : xs.length ≤ 1048576) (h : Sl w a (xs.map .string)) :
    Calls Try.prog 10 #[.slice a xs.length cap] w (IdxPost xs w) := by
  have hmm := run_makeMap_hint (P := Try.prog) Try.underlying28
  obtain ⟨n, hN⟩ : ∃ n, xs.length = n := ⟨_, rfl⟩
  obtain ⟨B, hB⟩ : ∃ B, w.heap.size = B := ⟨_, rfl⟩
  have HN := hide hN
  have HBB := hide hB
  have HS := hide h
  rw [hN] at hn ⊢
  have hbl : Below B w (w.alloc (.map #[] 0)) := (Below.refl B w).alloc (by omega) _
  have hgr : B < (w.alloc (.map #[] 0)).heap.size := by simp [hB]
  have hmp : (w.alloc (.map #[] 0)).heap[B]? = some (.map (mapOf (xs.take 0)) 0) := by
    show (w.heap.push _)[B]? = _
    rw [← hB]; simp [mapOf]
  have HM := hide hmp
  clear hmp hN h
  go_enter Try.func10, Try.ntmps10
  go_wp2
  clear hmm
  go_loopw [5] (fun i wr => ∃ k : Nat, k ≤ n ∧ i = .int .i64 k ∧ Hid (wr.heap[B]? = some (.map (mapOf (xs.take k)) k)) ∧ Below B w wr ∧ B < wr.heap.size ∧ Hid ((xs.take k).Nodup)) (fun i _ => n - (intOf i).toNat)
  case atStart => exact ⟨0, Nat.zero_le _, rfl, HM.out, hbl, hgr, hide (by simp)⟩
  case round =>
    clear hbl hgr HM
    obtain ⟨k, hk, rfl, HM, hb, hg, HD⟩ := hrel
    by_cases hlt : k < n
    · have hlt' : k < xs.length := by rw [HN.out]; exact hlt
      obtain ⟨b, off, e, hbl, hc⟩ := HS.out k (by simpa using hlt')
      subst e
      have hc' : wr.cell? ⟨b, off + k, none⟩ = some (.string xs[k]) := by
        rw [hb.cell (p := ⟨b, off + k, none⟩) (by rw [← hB]; exact hbl), hc]; simp
      obtain ⟨s, hs⟩ : ∃ s, xs[k] = s := ⟨_, rfl⟩
      rw [hs] at hc'
      have HX := hide hs
      have hlk := run_lookup_at (P := Try.prog) (w := wr) (s := s) Try.underlying28 Try.underlying9 zero3 HM.out
      clear hc hs hbl
      cases hp : place (xs.take k) s with
      | some j =>
        rw [hp] at hlk
        simp only [Option.getD_some, Option.isSome_some] at hlk
        have HP := hide hp
        clear hp
        go_wp2
        go_ret2
        refine ⟨by rw [hB]; exact hb, ?_, ?_⟩
        · have : ¬ xs.Nodup := by
            intro hnd
            obtain ⟨hj, e⟩ := place_some HP.out
            simp at hj
            have e' : xs[j] = xs[k] := by rw [HX.out]; simpa using e
            have := (List.getElem_inj hnd).1 e'
            omega
          simp [this, hB]
        · intro hnd
          exfalso
          obtain ⟨hj, e⟩ := place_some HP.out
          simp at hj
          have e' : xs[j] = xs[k] := by rw [HX.out]; simpa using e
          have := (List.getElem_inj hnd).1 e'
          omega
      | none =>
        rw [hp] at hlk
        simp only [Option.getD_none, Option.isSome_none] at hlk
        have hlen : (xs.take k).length = k := by rw [List.length_take]; omega
        have hup := run_update_at (P := Try.prog) (w := wr) (s := s) (l := xs.take k) Try.underlying28 Try.underlying9 (by rw [hlen]; exact HM.out) hp
        rw [hlen] at hup
        have HP := hide hp
        clear hp hlen
        go_wp2
        go_roundw
        case rel =>
          refine ⟨k + 1, by omega, by go_num, ?_, below_setBlock hb (Nat.le_refl _) _, by rw [size_setBlock]; exact hg, ?_⟩
          · have ht : xs.take (k + 1) = xs.take k ++ [s] := by rw [List.take_succ_eq_append_getElem hlt', HX.out]
            rw [ht]
            exact hide (heap_setBlock _ _ _ hg)
          · exact hide (nodup_take_succ hlt' HD.out (by rw [HX.out]; exact place_none.1 HP.out))
        case measure => simp [intOf]; omega
    · obtain rfl : k = n := by omega
      have ht : xs.take k = xs := List.take_of_length_le (by rw [HN.out]; omega)
      have hnd := HD.out
      rw [ht] at hnd
      have hmp := HM.out
      rw [ht] at hmp
      have HM' := hide hmp
      have HD' := hide hnd
      clear hmp hnd HM HD ht
      go_wp2
      go_ret2
      refine ⟨by rw [hB]; exact hb, ?_, fun _ => ?_⟩
      · simp [HD'.out, hB]
      · rw [hB, HN.out]; exact ⟨HM'.out, hg⟩
end Go.Proofs.Qxb6603821a.W
