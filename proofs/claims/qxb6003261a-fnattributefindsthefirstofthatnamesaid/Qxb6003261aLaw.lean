/-
  The walk of FnAttributeFindsTheFirstOfThatName (4).
-/
import Derived.Test.Qxb6003261aRowA
import Derived.Test.Qxb6003261aClone
import Derived.Test.Qxb6003261aBytes
import Derived.Test.Qxb6003261aEql
import Derived.Deep.RegionWith
namespace Go.Proofs.Qxb6003261a.Att
open Go.RowKit B
set_option linter.unusedVariables false

theorem bcell {W w1 : World} (hb : Below W.heap.size W w1) : (∀ b o, b < W.heap.size → w1.cell? ⟨b, o, none⟩ = W.cell? ⟨b, o, none⟩) ∧ (∀ b o, b < W.heap.size → w1.frozen? ⟨b, o, none⟩ = W.frozen? ⟨b, o, none⟩) :=
  ⟨fun b o h => hb.cell (p := ⟨b, o, none⟩) h, fun b o h => hb.frozen (p := ⟨b, o, none⟩) h⟩

def atsOf (xs ys : List ByteArray) (zs : List Int) (bs : List Bool) : List A :=
  (List.range xs.length).map fun i => ⟨xs.getD i ⟨#[]⟩, zs.getD i 0, bs.getD i false, ys.getD i ⟨#[]⟩⟩

theorem len_ats (xs ys : List ByteArray) (zs : List Int) (bs : List Bool) : (atsOf xs ys zs bs).length = xs.length := by simp [atsOf]

theorem get_ats (xs ys : List ByteArray) (zs : List Int) (bs : List Bool) (k : Nat) (h : k < (atsOf xs ys zs bs).length) :
    (atsOf xs ys zs bs)[k] = ⟨xs.getD k ⟨#[]⟩, zs.getD k 0, bs.getD k false, ys.getD k ⟨#[]⟩⟩ := by simp [atsOf]

theorem elem_of {α : Type} {w : World} {a : Option Addr} {xs : List α} (mk : α → Value) (h : Sl w a (xs.map mk)) (k : Nat) (z : α) : Elem w a xs.length k (mk (xs.getD k z)) (mk z) := by
  by_cases hk : k < xs.length
  · obtain ⟨b, off, e, hb, hc⟩ := h k (by simpa using hk)
    exact .inl ⟨hk, b, off, e, hb, by simpa [hk] using hc⟩
  · exact .inr ⟨by omega, by rw [List.getD_eq_getElem?_getD, List.getElem?_eq_none (by omega)]; rfl⟩

theorem attr_lit (i : Nat) (nm : ByteArray) (s : Int) (l : Bool) (d : ByteArray) (b1 o1 : Nat) (a2 a3 a4 : Option Addr) (n1 n2 n3 n4 c1 c2 c3 c4 : Nat) (w : World)
    (hi : i < 1048576) (h1 : i < n1) (hb1 : b1 < w.heap.size) (hc1 : w.cell? ⟨b1, o1 + i, none⟩ = some (.string nm))
    (h2 : Elem w a2 n2 i (.string d) (.string ⟨#[]⟩)) (h3 : Elem w a3 n3 i (.int .i64 s) (.int .i64 0)) (h4 : Elem w a4 n4 i (.bool l) (.bool false)) :
    Calls Try.prog 12 #[.int .i64 i, .slice (some ⟨b1, o1, none⟩) n1 c1, .slice a2 n2 c2, .slice a3 n3 c3, .slice a4 n4 c4] w fun e w' =>
      e = .returned (.agg #[.string nm, .int .i64 s, .bool l, .string d, .bool false, .pointer none, .bool false, .string ⟨#[]⟩, .string ⟨#[]⟩]) ∧ Below w.heap.size w w' :=
  attr_any i nm s l d b1 o1 a2 a3 a4 n1 n2 n3 n4 c1 c2 c3 c4 w hi h1 hb1 hc1 h2 h3 h4

theorem info47 : (Try.prog.info? 47).map (fun i => (i.zero, i.size, i.bytes)) = some (some (.agg (attrC ⟨#[]⟩ 0 false ⟨#[]⟩)), 9, 104) := by kernel_rfl

theorem make24 (n : Nat) (hn : n ≤ 65536) (w : World) : (Instr.makeSlice 24 (.int .i64 n) (.int .i64 n)).run Try.prog w =
    .ok (.slice (some ⟨w.heap.size, 0, none⟩) n n) (w.alloc (.cells (madeCells (attrC ⟨#[]⟩ 0 false ⟨#[]⟩) (n * 9)) 47)) := by
  obtain ⟨i, hi, hzz⟩ := Option.map_eq_some_iff.1 info47
  simp only [Prod.mk.injEq] at hzz
  obtain ⟨hz, hs, hb⟩ := hzz
  have h := run_make (P := Try.prog) w 24 47 i _ Try.underlying24 hi hz .i64 .i64 n n (by omega) (Int.le_refl _) (by rw [hb]; omega) (by omega)
  rw [hs] at h
  simpa [Value.cells] using h

theorem find_lit (bm ba cap : Nat) (ats : List A) (q : ByteArray) (w : World) (hn : ats.length ≤ 1048576) (hbm : bm < w.heap.size)
    (hm : w.cell? ⟨bm, 4, none⟩ = some (.slice (some ⟨ba, 0, none⟩) ats.length cap)) (ha : Attrs w ba ats) :
    Calls Try.prog 13 #[.pointer (some ⟨bm, 0, none⟩), .string q] w fun e w' =>
      Below w.heap.size w w' ∧ ∃ a ok, e = .returned (.tuple #[.agg #[.string a.nm, .int .i64 a.s, .bool a.l, .string a.d, .bool false, .pointer none, .bool false, .string ⟨#[]⟩, .string ⟨#[]⟩], .bool ok]) ∧ Finds ats q a ok :=
  find_any bm ba cap ats q w hn hbm hm ha

theorem eql_lit (a : A) (w : World) : (binOp .eql 47 (.agg #[.string a.nm, .int .i64 a.s, .bool a.l, .string a.d, .bool false, .pointer none, .bool false, .string ⟨#[]⟩, .string ⟨#[]⟩])
    (.agg #[.string a.nm, .int .i64 a.s, .bool a.l, .string a.d, .bool false, .pointer none, .bool false, .string ⟨#[]⟩, .string ⟨#[]⟩])).run Try.prog w = .ok (.bool true) w := eql_attr a w

/-- The walk from the end: the first place of 'q' at or behind 'k'. -/
def FirstFrom (xs : List ByteArray) (q : ByteArray) (k : Nat) (f : Int) : Prop :=
  (f = -1 ∧ ∀ j (h : j < xs.length), k ≤ j → (xs[j].toList == q.toList) = false) ∨
  (∃ m : Nat, ∃ h : m < xs.length, f = m ∧ k ≤ m ∧ (xs[m].toList == q.toList) = true ∧ ∀ j (h : j < xs.length), k ≤ j → j < m → (xs[j].toList == q.toList) = false)

theorem first_no {xs : List ByteArray} {q : ByteArray} {k : Nat} {f : Int} (h : FirstFrom xs q (k + 1) f) (hk : k < xs.length) (e : (xs[k].toList == q.toList) = false) : FirstFrom xs q k f := by
  have key : ∀ {p : Nat → Prop}, (∀ j (h : j < xs.length), k + 1 ≤ j → p j → (xs[j].toList == q.toList) = false) → ∀ j (h : j < xs.length), k ≤ j → p j → (xs[j].toList == q.toList) = false := by
    intro p hp j hj hkj pj
    by_cases e' : j = k
    · subst e'; exact e
    · exact hp j hj (by omega) pj
  rcases h with ⟨h1, h2⟩ | ⟨m, hm, h1, h2, h3, h4⟩
  · exact .inl ⟨h1, fun j hj hkj => key (p := fun _ => True) (fun j hj hk _ => h2 j hj hk) j hj hkj trivial⟩
  · exact .inr ⟨m, hm, h1, by omega, h3, fun j hj hkj hjm => key (p := fun j => j < m) (fun j hj hk hp => h4 j hj hk hp) j hj hkj hjm⟩

theorem first_yes {xs : List ByteArray} {q : ByteArray} {k : Nat} (hk : k < xs.length) (e : (xs[k].toList == q.toList) = true) : FirstFrom xs q k k :=
  .inr ⟨k, hk, rfl, Nat.le_refl _, e, fun j hj h1 h2 => by omega⟩

theorem nm_ats (xs ys : List ByteArray) (zs : List Int) (bs : List Bool) (k : Nat) (h : k < xs.length) :
    ((atsOf xs ys zs bs)[k]'(by rw [len_ats]; exact h)).nm = xs[k] := by rw [get_ats]; simp [h]

/-- None found from the end: none found. -/
theorem finds_none {xs ys : List ByteArray} {zs : List Int} {bs : List Bool} {q : ByteArray} {a : A} {ok : Bool} (hf : Finds (atsOf xs ys zs bs) q a ok) (h : FirstFrom xs q 0 (-1)) : ok = false ∧ a = A.zero := by
  rcases h with ⟨_, h⟩ | ⟨m, hm, h1, _⟩
  · rcases hf with ⟨_, f, hl, _, e, _⟩ | ⟨h1, h2, _⟩
    · have hx : f < xs.length := by rw [len_ats] at hl; exact hl
      rw [nm_ats xs ys zs bs f hx, h f hx (by omega)] at e
      cases e
    · exact ⟨h1, h2⟩
  · omega

theorem finds_some {xs ys : List ByteArray} {zs : List Int} {bs : List Bool} {q : ByteArray} {a : A} {ok : Bool} {f : Int} (hf : Finds (atsOf xs ys zs bs) q a ok) (h : FirstFrom xs q 0 f) (hne : f ≠ -1) :
    ok = true ∧ ∃ m : Nat, ∃ h : m < xs.length, f = m ∧ a = (atsOf xs ys zs bs)[m]'(by rw [len_ats]; exact h) := by
  rcases h with ⟨h1, _⟩ | ⟨m, hm, h1, _, h3, h4⟩
  · exact absurd h1 hne
  · rcases hf with ⟨h5, f', hl, ha, e, hno⟩ | ⟨_, _, h6⟩
    · have hx : f' < xs.length := by rw [len_ats] at hl; exact hl
      refine ⟨h5, m, hm, h1, ?_⟩
      have : f' = m := by
        rcases Nat.lt_trichotomy f' m with g | g | g
        · rw [nm_ats xs ys zs bs f' hx, h4 f' hx (by omega) g] at e; cases e
        · exact g
        · have := hno m (by rw [len_ats]; exact hm) g
          rw [nm_ats xs ys zs bs m hm, h3] at this; cases this
      subst this; exact ha
    · have := h6 m (by rw [len_ats]; exact hm)
      rw [nm_ats xs ys zs bs m hm, h3] at this; cases this

set_option maxRecDepth 100000 in
set_option maxHeartbeats 4000000 in
theorem law (a1 a2 a3 a4 : Option Addr) (c1 c2 c3 c4 : Nat) (xs ys : List ByteArray) (zs : List Int) (bs : List Bool) (q : ByteArray) (w : World) (hx : xs.length ≤ maxLen) (hy : ys.length ≤ maxLen)
    (h3 : zs.length ≤ maxLen) (h4 : bs.length ≤ maxLen) (hq : q.size ≤ maxLen) (s1 : Sl w a1 (xs.map .string)) (s2 : Sl w a2 (ys.map .string)) (s3 : Sl w a3 (zs.map (.int .i64))) (s4 : Sl w a4 (bs.map .bool)) :
    Calls Try.prog 4 #[.slice a1 xs.length c1, .slice a2 ys.length c2, .slice a3 zs.length c3, .slice a4 bs.length c4, .string q] w fun e w' => e = .returned (.bool true) ∧ Below w.heap.size w w' := by
  have B8 := hide (bytes8 a1 a2 a3 a4 zs.length bs.length c1 c2 c3 c4 xs ys q w hx hy h3 h4 hq s1 s2)
  obtain ⟨n1, hn1⟩ : ∃ n, xs.length = n := ⟨_, rfl⟩
  obtain ⟨n2, hn2⟩ : ∃ n, ys.length = n := ⟨_, rfl⟩
  obtain ⟨n3, hn3⟩ : ∃ n, zs.length = n := ⟨_, rfl⟩
  obtain ⟨n4, hn4⟩ : ∃ n, bs.length = n := ⟨_, rfl⟩
  rw [hn1, hn2, hn3, hn4] at B8 ⊢
  rw [hn1] at hx
  rw [hn2] at hy
  rw [hn3] at h3
  rw [hn4] at h4
  unfold maxLen at *
  have S := hide (And.intro s1 (And.intro s2 (And.intro s3 s4)))
  have N := hide (And.intro hn1 (And.intro hn2 (And.intro hn3 hn4)))
  clear s1 s2 s3 s4 hn1 hn2 hn3 hn4
  go_enter Try.func4, Try.ntmps4
  go_wp2_with fail
  refine Calls.mono B8.out ?_
  clear B8
  rintro e w' ⟨⟨b, rfl⟩, rfl⟩
  cases b
  · go_wp2
    go_ret
    exact ⟨rfl, Below.refl _ _⟩
  go_wp2_with fail
  all_goals try (go_ret; exact ⟨rfl, Below.refl _ _⟩)
  have b1 : n1 ≤ 65536 := by omega
  have b2 : n2 ≤ 65536 := by omega
  have b3 : n3 ≤ 65536 := by omega
  have b4 : n4 ≤ 65536 := by omega
  go_loop [11, 12] (fun z i => (∃ u : Int, z = .int .i64 u) ∧ ∃ k : Nat, k ≤ n1 ∧ i = .int .i64 k) (fun _ i => n1 - (intOf i).toNat)
  case atStart => exact ⟨⟨_, rfl⟩, 0, Nat.zero_le _, rfl⟩
  case round =>
  obtain ⟨⟨u, rfl⟩, k, hk, rfl⟩ := hrel
  by_cases hlt : k < n1
  · obtain ⟨b, off, s, rfl, hb, hc, _⟩ := Sl.str S.out.1 (by rw [N.out.1]; exact hlt)
    go_wp2
    all_goals try (go_ret; exact ⟨rfl, Below.refl _ _⟩)
    go_round
    case rel => exact ⟨⟨_, rfl⟩, k + 1, by omega, by go_num⟩
    case measure => simp [intOf]; omega
  go_wp2_with fail
  clear hlt hk
  go_loop [11, 13] (fun z i => (∃ u : Int, z = .int .i64 u) ∧ ∃ k : Nat, k ≤ n2 ∧ i = .int .i64 k) (fun _ i => n2 - (intOf i).toNat)
  case atStart => exact ⟨⟨_, rfl⟩, 0, Nat.zero_le _, rfl⟩
  case round =>
  obtain ⟨⟨u, rfl⟩, k, hk, rfl⟩ := hrel
  by_cases hlt : k < n2
  · obtain ⟨b, off, s, rfl, hb, hc, _⟩ := Sl.str S.out.2.1 (by rw [N.out.2.1]; exact hlt)
    go_wp2
    all_goals try (go_ret; exact ⟨rfl, Below.refl _ _⟩)
    go_round
    case rel => exact ⟨⟨_, rfl⟩, k + 1, by omega, by go_num⟩
    case measure => simp [intOf]; omega
  go_wp2_with fail
  clear hlt hk
  have C := cls_any a1 c1 xs w' (by rw [N.out.1]; omega) S.out.1
  rw [N.out.1] at C
  refine C.mono ?_
  clear C
  rintro e w1 ⟨a1', c1', rfl, t1, bl1⟩
  have BL := hide bl1
  have T1 := hide t1
  clear bl1 t1
  go_wp2_with fail
  have C := cls_any a2 c2 ys w1 (by rw [N.out.2.1]; omega) (Sl.below S.out.2.1 BL.out)
  rw [N.out.2.1] at C
  refine C.mono ?_
  clear C
  rintro e w2 ⟨a2', c2', rfl, t2, bl2⟩
  have BL' := hide (BL.out.trans (bl2.mono BL.out.size))
  have T1' := hide (Sl.below T1.out bl2)
  have T2 := hide t2
  clear bl2 t2 BL T1
  have BL := BL'
  clear BL'
  have T1 := T1'
  clear T1'
  go_wp2_with fail
  have C := cli_any a3 c3 zs w2 (by rw [N.out.2.2.1]; omega) (Sl.below S.out.2.2.1 BL.out)
  rw [N.out.2.2.1] at C
  refine C.mono ?_
  clear C
  rintro e w3 ⟨a3', c3', rfl, t3, bl3⟩
  have BL' := hide (BL.out.trans (bl3.mono BL.out.size))
  have T1' := hide (Sl.below T1.out bl3)
  have T2' := hide (Sl.below T2.out bl3)
  have T3 := hide t3
  clear bl3 t3 BL T1 T2
  have BL := BL'
  clear BL'
  have T1 := T1'
  clear T1'
  have T2 := T2'
  clear T2'
  go_wp2_with fail
  have C := clb_any a4 c4 bs w3 (by rw [N.out.2.2.2]; omega) (Sl.below S.out.2.2.2 BL.out)
  rw [N.out.2.2.2] at C
  refine C.mono ?_
  clear C
  rintro e w4 ⟨a4', c4', rfl, t4, bl4⟩
  have BL' := hide (BL.out.trans (bl4.mono BL.out.size))
  have T1' := hide (Sl.below T1.out bl4)
  have T2' := hide (Sl.below T2.out bl4)
  have T3' := hide (Sl.below T3.out bl4)
  have T4 := hide t4
  clear bl4 t4 BL T1 T2 T3
  have BL := BL'
  clear BL'
  have T1 := T1'
  clear T1'
  have T2 := T2'
  clear T2'
  have T3 := T3'
  clear T3'
  have hmk := make24 n1 b1
  have F0 := hide (Filled.new w4 (attrC ⟨#[]⟩ 0 false ⟨#[]⟩) rfl (n1 * 9) 47 (atsOf xs ys zs bs))
  generalize madeCells (attrC ⟨#[]⟩ 0 false ⟨#[]⟩) (n1 * 9) = M at hmk F0
  go_wp2_with fail
  clear hmk
  go_loopw [15] (fun i wr => ∃ k : Nat, k ≤ n1 ∧ i = .int .i64 k ∧ Filled wr w4.heap.size (n1 * 9) (atsOf xs ys zs bs) k ∧ Below w4.heap.size w4 wr ∧ w4.heap.size < wr.heap.size) (fun i _ => n1 - (intOf i).toNat)
  case atStart => exact ⟨0, Nat.zero_le _, rfl, F0.out, (Below.refl _ _).alloc (Nat.le_refl _) _, by simp⟩
  case round =>
  obtain ⟨k, hk, rfl, hf, hbw, hgw⟩ := hrel
  have HF := hide hf
  clear hf F0
  by_cases hlt : k < n1
  · have hlt' : k < xs.length := by rw [N.out.1]; exact hlt
    have hka : k < (atsOf xs ys zs bs).length := by rw [len_ats]; exact hlt'
    obtain ⟨at', hat⟩ : ∃ a, (atsOf xs ys zs bs)[k] = a := ⟨_, rfl⟩
    have ga := get_ats xs ys zs bs k hka
    rw [hat] at ga
    obtain ⟨b, off, rfl, hb, hc⟩ := T1.out k (by simpa using hlt')
    have hc' : wr.cell? ⟨b, off + k, none⟩ = some (.string at'.nm) := by
      rw [hbw.cell (p := ⟨b, off + k, none⟩) hb, hc, ga]; simp [hlt']
    have e2 := elem_of Value.string (Sl.below T2.out hbw) k ⟨#[]⟩
    have e3 := elem_of (Value.int .i64) (Sl.below T3.out hbw) k 0
    have e4 := elem_of Value.bool (Sl.below T4.out hbw) k false
    rw [N.out.2.1] at e2
    rw [N.out.2.2.1] at e3
    rw [N.out.2.2.2] at e4
    have C := attr_lit k at'.nm at'.s at'.l at'.d b off a2' a3' a4' n1 n2 n3 n4 c1' c2' c3' c4' wr (by omega) hlt (by omega) hc' (by rw [ga]; exact e2) (by rw [ga]; exact e3) (by rw [ga]; exact e4)
    have HAT := hide hat
    have C' := hide C
    clear C hat ga hc hc' e2 e3 e4 hlt'
    go_wp2_with fail
    refine Calls.mono C'.out ?_
    clear C'
    rintro e wr1 ⟨rfl, hb1⟩
    have hf1 := Filled.below HF.out hb1 hgw
    obtain ⟨v0, x0⟩ := Option.isSome_iff_exists.1 (hf1.some' (k * 9) (by omega))
    obtain ⟨v1, x1⟩ := Option.isSome_iff_exists.1 (hf1.some' (k * 9 + 1) (by omega))
    obtain ⟨v2, x2⟩ := Option.isSome_iff_exists.1 (hf1.some' (k * 9 + 2) (by omega))
    obtain ⟨v3, x3⟩ := Option.isSome_iff_exists.1 (hf1.some' (k * 9 + 3) (by omega))
    obtain ⟨v4, x4⟩ := Option.isSome_iff_exists.1 (hf1.some' (k * 9 + 4) (by omega))
    obtain ⟨v5, x5⟩ := Option.isSome_iff_exists.1 (hf1.some' (k * 9 + 5) (by omega))
    obtain ⟨v6, x6⟩ := Option.isSome_iff_exists.1 (hf1.some' (k * 9 + 6) (by omega))
    obtain ⟨v7, x7⟩ := Option.isSome_iff_exists.1 (hf1.some' (k * 9 + 7) (by omega))
    obtain ⟨v8, x8⟩ := Option.isSome_iff_exists.1 (hf1.some' (k * 9 + 8) (by omega))
    have y0 := hf1.free (k * 9) (by omega)
    have y1 := hf1.free (k * 9 + 1) (by omega)
    have y2 := hf1.free (k * 9 + 2) (by omega)
    have y3 := hf1.free (k * 9 + 3) (by omega)
    have y4 := hf1.free (k * 9 + 4) (by omega)
    have y5 := hf1.free (k * 9 + 5) (by omega)
    have y6 := hf1.free (k * 9 + 6) (by omega)
    have y7 := hf1.free (k * 9 + 7) (by omega)
    have y8 := hf1.free (k * 9 + 8) (by omega)
    have R := Filled.step hf1 hka (by omega)
    rw [HAT.out] at R
    have R1 := hide R
    have R2 := hide (below_setCells (B := w4.heap.size) w4.heap.size (Nat.le_refl _) (valsOf at') (k * 9) _ (hbw.trans (hb1.mono (by omega))))
    have R3 : Hid (w4.heap.size < (wr1.setCells w4.heap.size (k * 9) (valsOf at')).heap.size) := by
      unfold Hid; rw [size_setCells]; have := hb1.size; omega
    clear R hf1 hb1
    go_wp2
    go_roundw
    case rel => exact ⟨k + 1, by omega, by go_num, R1.out, R2.out, R3.out⟩
    case measure => simp [intOf]; omega
  obtain rfl : k = n1 := by omega
  clear hlt hk
  have hla : (atsOf xs ys zs bs).length = k := by rw [len_ats, N.out.1]
  go_wp2_with fail
  refine (find_lit wr.heap.size w4.heap.size k (atsOf xs ys zs bs) q _ (by rw [hla]; omega) (by simp) (by rw [hla]; go_simp) ?_).mono ?_
  · exact ⟨by simp; omega, fun i h => (Filled.below HF.out (B := wr.heap.size) ((Below.refl _ wr).alloc (Nat.le_refl _) _) hgw).here i h (by rw [hla] at h; exact h)⟩
  rintro e w5 ⟨hb5, ⟨anm, as', al, ad⟩, ok, rfl, hfind⟩
  simp only
  have HFD := hide hfind
  have hb5' := (hbw.alloc (by omega) _).trans (hb5.mono (by simp; omega))
  have z5 : wr.heap.size < w5.heap.size := by have := hb5.size; simp at this; omega
  have m4 : w5.cell? ⟨wr.heap.size, 4, none⟩ = some (.slice (some ⟨w4.heap.size, 0, none⟩) k k) := by
    rw [hb5.cell (p := ⟨wr.heap.size, 4, none⟩) (by simp)]; go_simp
  have BL5 := hide (BL.out.trans (hb5'.mono BL.out.size))
  have T1' := hide (Sl.below T1.out hb5')
  have T2' := hide (Sl.below T2.out hb5')
  have T3' := hide (Sl.below T3.out hb5')
  have T4' := hide (Sl.below T4.out hb5')
  clear hb5 hb5' hfind HF hla hbw T1 T2 T3 T4 BL hgw
  go_wp2_with fail
  rename_i wx
  go_loop [19, 20] (fun f i => ∃ (j : Nat) (z : Int), j ≤ k ∧ ((j = 0 ∧ i = .int .i64 (-1)) ∨ (∃ j', j = j' + 1 ∧ i = .int .i64 j')) ∧ f = .int .i64 z ∧ Hid (FirstFrom xs q j z)) (fun _ i => (intOf i + 1).toNat)
  case atStart =>
    refine ⟨k, -1, Nat.le_refl _, ?_, rfl, .inl ⟨rfl, fun j h hj => absurd h (by rw [N.out.1]; omega)⟩⟩
    cases k with
    | zero => exact .inl ⟨rfl, rfl⟩
    | succ j => exact .inr ⟨j, rfl, by congr 1; omega⟩
  case round =>
  obtain ⟨j, z, hj, hi, rfl, HFF⟩ := hrel
  rcases hi with ⟨rfl, rfl⟩ | ⟨j, rfl, rfl⟩
  case inr =>
    have hjx : j < xs.length := by rw [N.out.1]; omega
    obtain ⟨b, off, s, rfl, hb, hc, hs⟩ := Sl.str T1'.out hjx
    have HS := hide hs
    clear hs
    cases hq : s.toList == q.toList
    · go_wp2
      go_round
      case rel =>
        refine ⟨j, z, by omega, ?_, rfl, first_no HFF.out hjx (by rw [HS.out]; exact hq)⟩
        cases j with
        | zero => exact .inl ⟨rfl, rfl⟩
        | succ j => exact .inr ⟨j, rfl, by congr 1; omega⟩
      case measure => simp [intOf]
    · go_wp2
      go_round
      case rel =>
        refine ⟨j, j, by omega, ?_, rfl, first_yes hjx (by rw [HS.out]; exact hq)⟩
        cases j with
        | zero => exact .inl ⟨rfl, rfl⟩
        | succ j => exact .inr ⟨j, rfl, by congr 1; omega⟩
      case measure => simp [intOf]
  case inl =>
  have blA := (Below.refl w5.heap.size w5).alloc (Nat.le_refl _) (.cells #[.string anm, .int .i64 as', .bool al, .string ad, .bool false, .pointer none, .bool false, .string ⟨#[]⟩, .string ⟨#[]⟩] 47)
  have HBA := hide blA
  clear blA
  by_cases hz : z = -1
  · subst hz
    have hfz := finds_none HFD.out HFF.out
    simp only [A.zero, A.mk.injEq] at hfz
    obtain ⟨rfl, rfl, rfl, rfl, rfl⟩ := hfz
    have hE := eql_lit ⟨⟨#[]⟩, 0, false, ⟨#[]⟩⟩
    simp only at hE
    go_wp2
    go_ret
    exact ⟨rfl, BL5.out.trans (HBA.out.mono (by have := BL5.out.size; omega))⟩
  · obtain ⟨rfl, m, hm, rfl, ha⟩ := finds_some HFD.out HFF.out hz
    have ga := get_ats xs ys zs bs m (by rw [len_ats]; exact hm)
    rw [← ha] at ga
    simp only [A.mk.injEq] at ga
    have hmk : m < k := by rw [N.out.1] at hm; exact hm
    obtain ⟨b, off, rfl, hb, hc⟩ := T1'.out m (by simpa using hm)
    have C : ∀ W, Below w5.heap.size w5 W → Calls Try.prog 12 #[.int .i64 m, .slice (some ⟨b, off, none⟩) k c1', .slice a2' n2 c2', .slice a3' n3 c3', .slice a4' n4 c4'] W fun e w' =>
        e = .returned (.agg #[.string anm, .int .i64 as', .bool al, .string ad, .bool false, .pointer none, .bool false, .string ⟨#[]⟩, .string ⟨#[]⟩]) ∧ Below W.heap.size W w' := by
      intro W hW
      have e2 := elem_of Value.string (Sl.below T2'.out hW) m ⟨#[]⟩
      have e3 := elem_of (Value.int .i64) (Sl.below T3'.out hW) m 0
      have e4 := elem_of Value.bool (Sl.below T4'.out hW) m false
      rw [N.out.2.1] at e2
      rw [N.out.2.2.1] at e3
      rw [N.out.2.2.2] at e4
      refine attr_lit m anm as' al ad b off a2' a3' a4' k n2 n3 n4 c1' c2' c3' c4' W (by omega) hmk (by have := hW.size; omega) ?_ (by rw [ga.2.2.2]; exact e2) (by rw [ga.2.1]; exact e3) (by rw [ga.2.2.1]; exact e4)
      rw [hW.cell (p := ⟨b, off + m, none⟩) hb, hc, ga.1]; simp [hm]
    have HC := hide C
    clear C hc ga ha hz hmk hm
    have hE := eql_lit ⟨anm, as', al, ad⟩
    simp only at hE
    go_wp2_with fail
    go_region_with (go_at_call 12; refine (HC.out _ HBA.out.drew).mono ?_; rintro e w7 ⟨rfl, hb7⟩; obtain ⟨hc7, hf7⟩ := bcell hb7)
    all_goals go_wp2
    all_goals go_ret
    all_goals exact ⟨rfl, BL5.out.trans ((HBA.out.drew.trans (hb7.mono (by simp))).mono (by have := BL5.out.size; omega))⟩
end Go.Proofs.Qxb6003261a.Att
