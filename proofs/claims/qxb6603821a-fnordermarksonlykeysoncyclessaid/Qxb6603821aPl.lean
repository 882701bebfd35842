/-
  placesOf (22), waitsAtOrAfter (23).
-/
import Derived.Test.Qxb6603821aReady
import Derived.Deep.LoopGhost
namespace Go.Proofs.Qxb6603821a.W
open Go.RowKit B
set_option linter.unusedVariables false

/-- The position of 'x' in 'l', or -1. -/
def posI (l : List Nat) (x : Nat) : Int := match l.findIdx? (fun y => y == x) with
  | some p => p
  | none => -1

theorem posI_none {l : List Nat} {x : Nat} (h : x ∉ l) : posI l x = -1 := by
  unfold posI
  have : l.findIdx? (fun y => y == x) = none := by
    rw [List.findIdx?_eq_none_iff]; intro y hy; simp; intro e; subst e; exact h hy
  rw [this]

theorem posI_get {l : List Nat} (hl : l.Nodup) {p : Nat} (hp : p < l.length) : posI l l[p] = (p : Int) := by
  unfold posI
  have : l.findIdx? (fun y => y == l[p]) = some p := by
    rw [List.findIdx?_eq_some_iff_getElem]
    refine ⟨hp, by simp, fun j hj => ?_⟩
    have : l[j] ≠ l[p] := fun e => by have := (List.getElem_inj hl).1 e; omega
    simpa using this
  rw [this]

theorem posI_snoc {l : List Nat} {x y : Nat} (hx : x ∉ l) : posI (l ++ [x]) y = if y = x then (l.length : Int) else posI l y := by
  by_cases e : y = x
  · subst e
    rw [if_pos rfl]
    unfold posI
    have h1 : l.findIdx? (fun z => z == y) = none := by
      rw [List.findIdx?_eq_none_iff]; intro z hz; simp; intro e; subst e; exact hx hz
    rw [List.findIdx?_append, h1]
    simp [List.findIdx?_cons]
  · rw [if_neg e]
    unfold posI
    rw [List.findIdx?_append]
    have h2 : [x].findIdx? (fun z => z == y) = none := by simp [List.findIdx?_cons]; intro h; exact e h.symm
    rw [h2]
    cases l.findIdx? (fun z => z == y) <;> rfl

theorem set_pos {l : List Nat} {x n : Nat} (hx : x ∉ l) (hn : x < n) : ((List.range n).map fun y => Value.int .i64 (posI l y)).set x (.int .i64 (l.length : Int)) = (List.range n).map fun y => Value.int .i64 (posI (l ++ [x]) y) := by
  apply List.ext_getElem
  · simp
  · intro i h1 h2
    simp at h2
    rw [List.getElem_set]
    simp only [List.getElem_map, List.getElem_range]
    rw [posI_snoc hx]
    by_cases e : x = i
    · subst e; simp
    · rw [if_neg e, if_neg (Ne.symm e)]

theorem info3' : (Try.prog.info? 3).map (fun i => (i.zero, i.size, i.bytes)) = some (some (.int .i64 0), 1, 8) := by kernel_rfl

/-- The places read back. -/
structure PlOut (out : List Nat) (n bO bP : Nat) (w' : World) : Prop where
  oc : Cells w' bO (out.map fun (i : Nat) => Value.int .i64 (i : Int))
  pc : Cells w' bP ((List.range n).map fun y => Value.int .i64 (posI out y))
  lO : bO < w'.heap.size
  lP : bP < w'.heap.size

def PlPost (out : List Nat) (n : Nat) (w : World) (e : Ending) (w' : World) : Prop :=
  ∃ bO bP, e = .returned (.tuple #[.slice (some ⟨bO, 0, none⟩) n n, .slice (some ⟨bP, 0, none⟩) n n, .bool true]) ∧ PlOut out n bO bP w' ∧ Below w.heap.size w w'

set_option maxHeartbeats 1000000 in
theorem pl_any (bm : Nat) (a : Option Addr) (cap : Nat) (xs : List ByteArray) (out : List Nat) (w : World) (hn : xs.length ≤ 256) (hm : w.heap[bm]? = some (.map (mapOf xs) xs.length)) (hnd : xs.Nodup) (ho : out.Nodup) (hl : out.length = xs.length)
    (hlt : ∀ i, i ∈ out → i < xs.length) (hs : Sl w a (out.map fun i => .string (xs.getD i ⟨#[]⟩))) :
    Calls Try.prog 22 #[.map (some bm), .slice a xs.length cap, .int .i64 xs.length] w (PlPost out xs.length w) := by
  have hbm : bm < w.heap.size := (Array.getElem?_eq_some_iff.1 hm).1
  obtain ⟨n, hN⟩ : ∃ n, xs.length = n := ⟨_, rfl⟩
  have HN := hide hN
  have HM := hide hm
  have HND := hide hnd
  have HO := hide ho
  have HL := hide hl
  have HLT := hide hlt
  have HS := hide hs
  rw [hN] at hn ⊢
  have hmk := run_make_row' (P := Try.prog) 42 3 (.int .i64 0) 8 Try.underlying42 info3' rfl .i64 .i64 n (by omega) (by omega)
  obtain ⟨B, hB⟩ : ∃ B, w.heap.size = B := ⟨_, rfl⟩
  have cO := Cells.new w (madeCells #[.int .i64 0] n) 3
  have cP := Cells.new (w.alloc (.cells (madeCells #[.int .i64 0] n) 3)) (madeCells #[.int .i64 0] n) 3
  rw [made_one] at cO cP
  simp only [World.size_alloc] at cP
  have cO' := cO.below (B := w.heap.size + 1) (w' := (w.alloc (.cells (madeCells #[.int .i64 0] n) 3)).alloc (.cells (madeCells #[.int .i64 0] n) 3)) ((Below.refl _ _).alloc (by simp) _) (by omega)
  have I0 : Hid (Cells ((w.alloc (.cells (madeCells #[.int .i64 0] n) 3)).alloc (.cells (madeCells #[.int .i64 0] n) 3)) w.heap.size (List.replicate n (.int .i64 0)) ∧
      Cells ((w.alloc (.cells (madeCells #[.int .i64 0] n) 3)).alloc (.cells (madeCells #[.int .i64 0] n) 3)) (w.heap.size + 1) ((List.replicate n (Value.int .i64 (-1))).take 0 ++ List.replicate (n - 0) (.int .i64 0)) ∧
      Below w.heap.size w ((w.alloc (.cells (madeCells #[.int .i64 0] n) 3)).alloc (.cells (madeCells #[.int .i64 0] n) 3)) ∧ w.heap.size + 1 < ((w.alloc (.cells (madeCells #[.int .i64 0] n) 3)).alloc (.cells (madeCells #[.int .i64 0] n) 3)).heap.size) :=
    hide ⟨cO', by simpa using cP, ((Below.refl _ _).alloc (Nat.le_refl _) _).alloc (by simp) _, by simp⟩
  clear cO cP cO' hm hnd ho hl hlt hs hN hB
  go_enter Try.func22, Try.ntmps22
  go_wp2
  clear hmk
  go_loopg [11] n (fun gk c wr => ∃ k : Nat, k ≤ n ∧ gk = n - k ∧ c = .int .i64 k ∧ Hid (Cells wr w.heap.size (List.replicate n (.int .i64 0)) ∧ Cells wr (w.heap.size + 1) ((List.replicate n (Value.int .i64 (-1))).take k ++ List.replicate (n - k) (.int .i64 0)) ∧
      Below w.heap.size w wr ∧ w.heap.size + 1 < wr.heap.size))
  case atStart => exact ⟨0, Nat.zero_le _, rfl, rfl, I0.out⟩
  case round =>
  clear I0
  obtain ⟨k, hk, rfl, rfl, HI⟩ := hrel
  rename World => w2
  obtain ⟨i1, i2, i3, i4⟩ := HI.out
  by_cases hlt : k < n
  · have lC : (List.replicate n (Value.int .i64 (-1))).length = n := by simp
    have f1 := i2.get (take_at (z := .int .i64 0) lC hlt)
    have f2 := i2.free k (by simp; omega)
    have t1 := take_set (z := .int .i64 0) lC hlt
    simp only [List.getElem_replicate] at t1
    have R : Hid (Cells (w2.setCell ⟨w.heap.size + 1, k, none⟩ (.int .i64 (-1))) w.heap.size (List.replicate n (.int .i64 0)) ∧ Cells (w2.setCell ⟨w.heap.size + 1, k, none⟩ (.int .i64 (-1))) (w.heap.size + 1) ((List.replicate n (Value.int .i64 (-1))).take (k + 1) ++ List.replicate (n - (k + 1)) (.int .i64 0)) ∧
        Below w.heap.size w (w2.setCell ⟨w.heap.size + 1, k, none⟩ (.int .i64 (-1))) ∧ w.heap.size + 1 < (w2.setCell ⟨w.heap.size + 1, k, none⟩ (.int .i64 (-1))).heap.size) := by
      have s2 := i2.set k (.int .i64 (-1))
      rw [t1] at s2
      exact hide ⟨i1.far (by simp) _, s2, i3.setCell (p := ⟨w.heap.size + 1, k, none⟩) (Nat.le_succ _) _, by simpa [World.setCell] using i4⟩
    clear i1 i2 t1 lC HI
    go_wp2
    go_roundg (n - (k + 1))
    case measure => omega
    case rel => exact ⟨k + 1, by omega, rfl, by go_num, R.out⟩
  obtain rfl : k = n := by omega
  have J0 : Hid (Cells w2 w.heap.size ((out.map fun (i : Nat) => Value.int .i64 (i : Int)).take 0 ++ List.replicate (k - 0) (.int .i64 0)) ∧ Cells w2 (w.heap.size + 1) ((List.range k).map fun y => Value.int .i64 (posI (out.take 0) y)) ∧ Below w.heap.size w w2 ∧ w.heap.size + 1 < w2.heap.size) := by
    refine hide ⟨by simpa using i1, ?_, i3, i4⟩
    have e : ((List.range k).map fun y => Value.int .i64 (posI (out.take 0) y)) = (List.replicate k (Value.int .i64 (-1))).take k ++ List.replicate (k - k) (.int .i64 0) := by
      rw [List.take_zero, Nat.sub_self, List.replicate_zero, List.append_nil, List.take_of_length_le (by simp)]
      have h : (fun y => Value.int .i64 (posI [] y)) = fun _ => Value.int .i64 (-1) := by
        funext y; rw [posI_none (by simp)]
      rw [h, List.map_const', List.length_range]
    rw [e]; exact i2
  clear i1 i2 i3 i4 HI
  go_wp2
  go_loopg [12] k (fun gk c wr => ∃ p : Nat, p ≤ k ∧ gk = k - p ∧ c = .int .i64 p ∧ Hid (Cells wr w.heap.size ((out.map fun (i : Nat) => Value.int .i64 (i : Int)).take p ++ List.replicate (k - p) (.int .i64 0)) ∧ Cells wr (w.heap.size + 1) ((List.range k).map fun y => Value.int .i64 (posI (out.take p) y)) ∧
      Below w.heap.size w wr ∧ w.heap.size + 1 < wr.heap.size))
  case atStart => exact ⟨0, Nat.zero_le _, rfl, rfl, J0.out⟩
  case round =>
  clear J0
  obtain ⟨p, hp, rfl, rfl, HI⟩ := hrel
  rename World => w4
  obtain ⟨i1, i2, i3, i4⟩ := HI.out
  have hlen : out.length = k := by rw [HL.out, HN.out]
  by_cases hlt : p < k
  · have hpo : p < out.length := by omega
    obtain ⟨b, off, e, hb, hc⟩ := HS.out p (by simpa using hpo)
    subst e
    have hxi := HLT.out out[p] (List.getElem_mem hpo)
    have hxg : xs.getD out[p] ⟨#[]⟩ = xs[out[p]] := by simp [hxi]
    have e1 := (i3.cell (p := ⟨b, off + p, none⟩) hb).trans hc
    simp only [List.getElem_map] at e1
    have hpl : place xs (xs.getD out[p] ⟨#[]⟩) = some out[p] := by rw [hxg]; exact place_get HND.out hxi
    have hlk := run_lookup_at (P := Try.prog) (w := w4) (s := xs.getD out[p] ⟨#[]⟩) Try.underlying28 Try.underlying9 zero3 ((i3.block bm hbm).trans HM.out)
    rw [hpl] at hlk
    simp only [Option.getD_some, Option.isSome_some] at hlk
    have hni : out[p] ∉ out.take p := by
      intro hmem
      obtain ⟨j, hj, ej⟩ := List.mem_iff_getElem.1 hmem
      simp only [List.length_take] at hj
      have ej' : out[j] = out[p] := by simpa using ej
      have := (List.getElem_inj HO.out).1 ej'
      omega
    have hxk : out[p] < k := by rw [← HN.out]; exact hxi
    have d1 := i2.at' out[p] (by simpa using hxk)
    simp only [List.getElem_map, List.getElem_range] at d1
    rw [posI_none hni] at d1
    have d2 := i2.free out[p] (by simpa using hxk)
    have lO : (out.map fun (i : Nat) => Value.int .i64 (i : Int)).length = k := by simp [hlen]
    have f1 := i1.get (take_at (z := .int .i64 0) lO hlt)
    have f2 := i1.free p (by simp [hlen]; omega)
    have t1 := take_set (z := .int .i64 0) lO hlt
    simp only [List.getElem_map] at t1
    have t2 := set_pos (n := k) hni hxk
    have hlp : (out.take p).length = p := by rw [List.length_take]; omega
    rw [hlp, ← List.take_succ_eq_append_getElem hpo] at t2
    generalize xs.getD out[p] ⟨#[]⟩ = s at e1 hlk hpl
    obtain ⟨x, hx⟩ : ∃ x, out[p] = x := ⟨_, rfl⟩
    rw [hx] at hxk d1 d2 t1 t2 hlk
    have R : Hid (Cells ((w4.setCell ⟨w.heap.size, p, none⟩ (.int .i64 (x : Int))).setCell ⟨w.heap.size + 1, x, none⟩ (.int .i64 (p : Int))) w.heap.size ((out.map fun (i : Nat) => Value.int .i64 (i : Int)).take (p + 1) ++ List.replicate (k - (p + 1)) (.int .i64 0)) ∧
        Cells ((w4.setCell ⟨w.heap.size, p, none⟩ (.int .i64 (x : Int))).setCell ⟨w.heap.size + 1, x, none⟩ (.int .i64 (p : Int))) (w.heap.size + 1) ((List.range k).map fun y => Value.int .i64 (posI (out.take (p + 1)) y)) ∧
        Below w.heap.size w ((w4.setCell ⟨w.heap.size, p, none⟩ (.int .i64 (x : Int))).setCell ⟨w.heap.size + 1, x, none⟩ (.int .i64 (p : Int))) ∧ w.heap.size + 1 < ((w4.setCell ⟨w.heap.size, p, none⟩ (.int .i64 (x : Int))).setCell ⟨w.heap.size + 1, x, none⟩ (.int .i64 (p : Int))).heap.size) := by
      refine hide ⟨?_, ?_, (i3.setCell (p := ⟨w.heap.size, p, none⟩) (Nat.le_refl _) _).setCell (p := ⟨w.heap.size + 1, x, none⟩) (Nat.le_succ _) _, by simpa [World.setCell] using i4⟩
      · have := (i1.set p (.int .i64 (x : Int))).far (p := ⟨w.heap.size + 1, x, none⟩) (by simp) (.int .i64 (p : Int))
        rw [t1] at this; exact this
      · have := (i2.far (p := ⟨w.heap.size, p, none⟩) (by simp) (.int .i64 (x : Int))).set x (.int .i64 (p : Int))
        rw [t2] at this; exact this
    clear i1 i2 t1 t2 lO hlp hni hpl hxg hc HI hx hlen hxi
    go_wp2
    go_roundg (k - (p + 1))
    case measure => omega
    case rel => exact ⟨p + 1, by omega, rfl, by go_num, R.out⟩
  obtain rfl : p = k := by omega
  have fin : Hid (PlOut out p w.heap.size (w.heap.size + 1) w4 ∧ Below w.heap.size w w4) := by
    have e1 : (out.map fun (i : Nat) => Value.int .i64 (i : Int)).take p ++ List.replicate (p - p) (.int .i64 0) = out.map fun (i : Nat) => Value.int .i64 (i : Int) := by
      rw [List.take_of_length_le (by simp [hlen])]; simp
    have e2 : out.take p = out := List.take_of_length_le (by omega)
    rw [e1] at i1
    rw [e2] at i2
    exact hide ⟨⟨i1, i2, by omega, i4⟩, i3⟩
  clear i1 i2 i3 HI hlen
  go_wp2
  go_ret3
  exact ⟨_, _, rfl, fin.out.1, fin.out.2⟩
end Go.Proofs.Qxb6603821a.W
