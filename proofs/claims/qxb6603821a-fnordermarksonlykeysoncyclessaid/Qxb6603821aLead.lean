/-
  leadsTo (29).
-/
import Derived.Test.Qxb6603821aReach
import Derived.Test.Qxb6603821aOrd0
import Derived.Deep.LoopGhost
import Derived.WalkKit
import Derived.OwnWalk
namespace Go.Proofs.Qxb6603821a.W
open Go.RowKit B
set_option linter.unusedVariables false

theorem infoI3 : (Try.prog.info? 3).map (fun i => (i.zero, i.size, i.bytes)) = some (some (.int .i64 0), 1, 8) := by kernel_rfl
theorem infoB4 : (Try.prog.info? 4).map (fun i => (i.zero, i.size, i.bytes)) = some (some (.bool false), 1, 1) := by kernel_rfl

def iv (st : List Nat) : List Value := st.map fun (i : Nat) => Value.int .i64 (i : Int)

/-- The stack: an owned row. -/
def Stack (w : World) (base : Nat) (v : Value) (st : List Nat) : Prop := ∃ g cap cur, v = .slice (some ⟨g, 0, none⟩) st.length cap ∧ base ≤ g ∧ w.heap[g]? = some (.cells cur 3 (0, 0)) ∧ st.length ≤ cap ∧ cap ≤ maxLen ∧ cur.size = cap ∧ cur.toList.take st.length = iv st

theorem Stack.own {w : World} {base : Nat} {v : Value} {st : List Nat} (h : Stack w base v st) : w.ownsRow base 3 1 v st.length (iv st) := by
  obtain ⟨g, cap, cur, h1, h2, h3, h4, h5, h6, h7⟩ := h
  exact ⟨by simp [iv], .inr ⟨g, cap, cur, h1, h2, h3, h4, h5, by rw [h6]; simp, by rw [Nat.mul_one]; exact h7⟩⟩

theorem Stack.below {w w' : World} {base B : Nat} {v : Value} {st : List Nat} (h : Stack w base v st) (hb : Below w.heap.size w w') : Stack w' base v st := by
  obtain ⟨g, cap, cur, h1, h2, h3, h⟩ := h
  exact ⟨g, cap, cur, h1, h2, (hb.block g (Array.getElem?_eq_some_iff.1 h3).1).trans h3, h⟩

/-- The top of the stack, and what is left. -/
theorem Stack.pop {w : World} {base : Nat} {v : Value} {st : List Nat} {i : Nat} (h : Stack w base v (st ++ [i])) :
    ∃ g cap, v = .slice (some ⟨g, 0, none⟩) (st.length + 1) cap ∧ st.length + 1 ≤ cap ∧ cap ≤ maxLen ∧ base ≤ g ∧ g < w.heap.size ∧ w.cell? ⟨g, st.length, none⟩ = some (.int .i64 (i : Int)) ∧ Stack w base (.slice (some ⟨g, 0, none⟩) st.length cap) st := by
  obtain ⟨g, cap, cur, h1, h2, h3, h4, h5, h6, h7⟩ := h
  simp only [List.length_append, List.length_singleton] at h1 h4 h7
  have hlt : st.length < cur.toList.length := by simp; omega
  have e1 : cur.toList.take st.length = iv st := by
    have : (cur.toList.take (st.length + 1)).take st.length = (iv (st ++ [i])).take st.length := by rw [h7]
    rw [List.take_take, Nat.min_eq_left (by omega)] at this
    rw [this]; simp [iv]
  have e2 : cur.toList[st.length] = .int .i64 (i : Int) := by
    have h8 : (cur.toList.take (st.length + 1))[st.length]? = (iv (st ++ [i]))[st.length]? := by rw [h7]
    rw [List.getElem?_take_of_lt (by omega), List.getElem?_eq_getElem hlt] at h8
    simp [iv] at h8
    simpa using h8
  refine ⟨g, cap, h1, h4, h5, h2, (Array.getElem?_eq_some_iff.1 h3).1, ?_, g, cap, cur, rfl, h2, h3, by omega, h5, h6, e1⟩
  have hs : st.length < cur.size := by omega
  simp [World.cell?, h3, hs]
  simpa using e2

theorem Stack.of_own {w : World} {base : Nat} {v : Value} {n : Nat} {st : List Nat} {vs : List Value} (h : w.ownsRow base 3 1 v n vs) (hv : vs = iv st) (hn : n = st.length) (hne : 0 < n) : Stack w base v st := by
  subst hv; subst hn
  obtain ⟨_, ⟨_, h0⟩ | ⟨g, cap, cur, h1, h2, h3, h4, h5, h6, h7⟩⟩ := h
  · omega
  · exact ⟨g, cap, cur, h1, h2, h3, h4, h5, by rw [h6, Nat.mul_one], by rw [Nat.mul_one] at h7; exact h7⟩

structure LW (xs : List ByteArray) (rs : List (List ByteArray)) (S : St) (w : World) (v : Value) (wr : World) (seen : List Bool) (st : List Nat) : Prop where
  own : Stack wr (w.heap.size + 1) v st
  cs : Cells wr w.heap.size (seen.map .bool)
  bel : Below w.heap.size w wr
  lt : w.heap.size < wr.heap.size

/-- The start. -/
theorem LW.new {xs : List ByteArray} {rs : List (List ByteArray)} {S : St} {w : World} {n fr : Nat} :
    LW xs rs S w (.slice (some ⟨w.heap.size + 1, 0, none⟩) 1 1) ((w.alloc (.cells (madeCells #[.bool false] n) 4)).alloc (.cells #[.int .i64 (fr : Int)] 3)) (List.replicate n false) [fr] := by
  have c := Cells.new w (madeCells #[.bool false] n) 4
  rw [made_one] at c
  have hz : (w.alloc (.cells (madeCells #[.bool false] n) 4)).heap.size = w.heap.size + 1 := by simp
  refine ⟨⟨w.heap.size + 1, 1, #[.int .i64 (fr : Int)], rfl, Nat.le_refl _, ?_, by simp, by simp [maxLen], rfl, by simp [iv]⟩, ?_, ((Below.refl _ _).alloc (Nat.le_refl _) _).alloc (by simp) _, by simp; omega⟩
  · rw [← hz]; exact heap_alloc_new _ _
  · have := c.below (B := w.heap.size + 1) (w' := (w.alloc (.cells (madeCells #[.bool false] n) 4)).alloc (.cells #[.int .i64 (fr : Int)] 3)) ((Below.refl _ _).alloc (by simp) _) (by omega)
    simpa using this

theorem LW.below {xs : List ByteArray} {rs : List (List ByteArray)} {S : St} {w : World} {v : Value} {wr w' : World} {seen : List Bool} {st : List Nat} (h : LW xs rs S w v wr seen st) (hb : Below wr.heap.size wr w') : LW xs rs S w v w' seen st :=
  ⟨h.own.below (B := 0) hb, h.cs.below hb h.lt, h.bel.trans (hb.mono (Nat.le_of_lt h.lt)), Nat.lt_of_lt_of_le h.lt hb.size⟩

theorem LW.grown {xs : List ByteArray} {rs : List (List ByteArray)} {S : St} {w : World} {v v' : Value} {wr w' : World} {seen : List Bool} {st st' : List Nat} (h : LW xs rs S w v wr seen st) (hg : wr.grownBy w' v.ownBlock) (ho : Stack w' (w.heap.size + 1) v' st') : LW xs rs S w v' w' seen st' := by
  obtain ⟨g, cap, cur, h1, h2, h3, _⟩ := h.own
  have hlt := h.lt
  subst h1
  have hb : Below (w.heap.size + 1) wr w' := ⟨hg.os, hg.tape, hg.output, hg.size, fun k hk => hg.block k (by omega) (by simp [Value.ownBlock]; omega)⟩
  exact ⟨ho, h.cs.below hb (by omega), h.bel.trans (hb.mono (Nat.le_succ _)), Nat.lt_of_lt_of_le hlt hg.size⟩

def LeadPost (xs : List ByteArray) (rs : List (List ByteArray)) (S : St) (fr to : Nat) (w : World) (e : Ending) (w' : World) : Prop :=
  ∃ b, e = .returned (.bool b) ∧ (b = true ↔ Leads (WE xs rs S) fr to) ∧ Below w.heap.size w w'

set_option maxHeartbeats 2000000 in
theorem lead_any (xs : List ByteArray) (rs : List (List ByteArray)) (L : Lay) (S : St) (fr to : Nat) (w : World) (hG : Gr xs rs L w S) (hn : xs.length ≤ 256) (hm : ∀ i, deg rs i ≤ 4096) (hfr : fr < xs.length) (hto : to < xs.length) :
    Calls Try.prog 29 #[.pointer (some ⟨L.bg, 0, none⟩), .int .i64 fr, .int .i64 to] w (LeadPost xs rs S fr to w) := by
  have g0 := hG.g0
  have HG := hide hG
  have HMM := hide hm
  have ub := ud_le (n := xs.length) hm
  have LI0 := hide (LI.new (rs := rs) (S := S) (to := to) hfr)
  obtain ⟨n, hN⟩ : ∃ n, xs.length = n := ⟨_, rfl⟩
  have HN := hide hN
  have HUB : Hid (1 + ud rs (List.replicate n false) ≤ 1048577) := hide (by rw [hN] at ub hn; have : n * 4096 ≤ 256 * 4096 := Nat.mul_le_mul_right _ hn; omega)
  rw [hN] at g0 hn hfr hto LI0
  have hmk := run_make_row' (P := Try.prog) 25 4 (.bool false) 1 Try.underlying25 infoB4 rfl .i64 .i64 n (by omega) (by omega)
  have W0 := hide (LW.new (xs := xs) (rs := rs) (S := S) (w := w) (n := n) (fr := fr))
  obtain ⟨i0, hi0, hz0, hz1, hz2⟩ := info_parts infoI3
  have HI0 := hide (And.intro hi0 (And.intro hz0 (And.intro hz1 hz2)))
  clear hG hm ub hN hi0 hz0 hz1 hz2
  go_enter Try.func29, Try.ntmps29
  go_wp2
  clear hmk
  go_loopg [8] (1 + ud rs (List.replicate n false)) (fun gk v wr => ∃ seen st, gk = st.length + ud rs seen ∧ gk ≤ 1048577 ∧ Hid (LI xs rs S fr to seen st ∧ LW xs rs S w v wr seen st))
  case atStart => exact ⟨List.replicate n false, [fr], rfl, HUB.out, hide ⟨LI0.out, W0.out⟩⟩
  case round =>
  clear LI0 W0 HUB
  obtain ⟨seen, st, rfl, hgk, HI⟩ := hrel
  rename World => w2
  rcases List.eq_nil_or_concat st with rfl | ⟨st', i, rfl⟩
  · have hown := HI.out.2.own
    obtain ⟨g, cap, cur, rfl, _⟩ := hown
    have fin : Hid (¬ Leads (WE xs rs S) fr to ∧ Below w.heap.size w w2) := hide ⟨HI.out.1.done, HI.out.2.bel⟩
    clear HI
    simp only [List.length_nil]
    go_wp2
    go_ret
    exact ⟨false, rfl, ⟨(fun h => by cases h), fun h => absurd h fin.out.1⟩, fin.out.2⟩
  rw [List.concat_eq_append] at HI hgk
  have hown := HI.out.2.own
  obtain ⟨g, cap, rfl, hcap, hmax, hg1, hg2, hcell, hpop⟩ := hown.pop
  have hii := HI.out.1.lt i (by simp)
  have hiz : i < seen.length := by rw [HI.out.1.len]; exact hii
  rw [HN.out] at hii
  obtain ⟨m, hm⟩ : ∃ m, st'.length = m := ⟨_, rfl⟩
  have HM := hide hm
  have P1 := hide hpop
  have d1 := HI.out.2.cs.at' i (by simpa using hiz)
  have d2 := HI.out.2.cs.free i (by simpa using hiz)
  simp only [List.getElem_map] at d1
  have hsd : seen.getD i false = seen[i] := by simp [hiz]
  have HSD := hide hsd
  rw [hm] at hcap hcell
  simp only [List.length_append, List.length_singleton] at hgk
  rw [hm] at hgk ⊢
  unfold maxLen at hmax
  have hsz := HI.out.2.lt
  clear hown hpop hm hsd
  by_cases hit : i = to
  · subst hit
    have fin : Hid (Leads (WE xs rs S) fr i ∧ Below w.heap.size w w2) := hide ⟨HI.out.1.got i (by simp), HI.out.2.bel⟩
    clear HI P1 HSD
    go_wp2
    go_ret
    exact ⟨true, rfl, ⟨(fun _ => fin.out.1), fun _ => rfl⟩, fin.out.2⟩
  have hit' : ((i : Int) == (to : Int)) = false := by rw [beq_eq_false_iff_ne]; omega
  obtain ⟨sb, hsb⟩ : ∃ sb, seen[i] = sb := ⟨_, rfl⟩
  rw [hsb] at d1 HSD
  clear hsb
  cases sb
  case true =>
    have R : Hid (LI xs rs S fr to seen st' ∧ LW xs rs S w (.slice (some ⟨g, 0, none⟩) m cap) w2 seen st') := hide ⟨HI.out.1.skip HSD.out, by
      have := P1.out; rw [HM.out] at this; exact ⟨this, HI.out.2.cs, HI.out.2.bel, HI.out.2.lt⟩⟩
    clear HI P1 HSD
    go_wp2
    go_roundg (m + ud rs seen)
    case measure => have := HM.out; simp; omega
    case rel => exact ⟨seen, st', by rw [HM.out], by omega, R⟩
  have hf0 := HG.out.fk i (by rw [HG.out.same, HN.out]; exact hii)
  have hd : deg rs i = (rs[i]'(by rw [HG.out.same, HN.out]; exact hii)).length := by simp [deg, show i < rs.length from by rw [HG.out.same, HN.out]; exact hii]
  rw [← hd] at hf0
  have hdm := HMM.out i
  have ht0 := HG.out.t i (by rw [HN.out]; exact hii)
  have V := hide (HI.out.1.visit (i := i) hit)
  have U := hide (ud_set (rs := rs) hiz HSD.out)
  obtain ⟨d, hdd⟩ : ∃ d, deg rs i = d := ⟨_, rfl⟩
  have HD := hide hdd
  rw [hdd] at hf0 hdm
  have hb2 := HI.out.2.bel
  have hlim := HG.out.lim
  have hb3 := hb2.setCell (p := ⟨w.heap.size, i, none⟩) (Nat.le_refl _) (.bool true)
  have e0 := (hb3.cell (p := ⟨L.bg, 0, none⟩) (by have := HG.out.lbg; show L.bg < _; omega)).trans g0
  have e1 := (hb3.cell (p := ⟨L.bt, i * 2, none⟩) (by have := HG.out.lbt; show L.bt < _; omega)).trans ht0
  have e2 := (hb3.cell (p := ⟨L.tb i, 2, none⟩) (by have := HG.out.ltb i (by rw [HN.out]; exact hii); show L.tb i < _; omega)).trans hf0
  have W1 : Hid (LW xs rs S w (.slice (some ⟨g, 0, none⟩) m cap) (w2.setCell ⟨w.heap.size, i, none⟩ (.bool true)) (seen.set i true) (st' ++ nextTo xs rs S i 0)) := hide (by
    have hst : nextTo xs rs S i 0 = [] := rfl
    rw [hst, List.append_nil]
    have h1 := P1.out
    rw [HM.out] at h1
    obtain ⟨g', cap', cur, q1, q2, q3, q4⟩ := h1
    refine ⟨⟨g', cap', cur, q1, q2, ?_, q4⟩, ?_, hb2.setCell (p := ⟨w.heap.size, i, none⟩) (Nat.le_refl _) _, by simpa [World.setCell] using hsz⟩
    · rw [← q3]; exact Below.heap_setCell _ _ _ _ (by show g' ≠ w.heap.size; omega)
    · have := HI.out.2.cs.set i (.bool true)
      simpa using this)
  clear HI P1 hd hdd ht0 hf0 hb2 hb3 hlim HSD
  have hgne : g ≠ w.heap.size := by omega
  go_wp2
  clear e0 e1 e2 d1 d2 hcell
  go_loopg [8, 58] d (fun gk v c wr => ∃ k : Nat, k ≤ d ∧ gk = d - k ∧ c = .int .i64 k ∧ Hid (LW xs rs S w v wr (seen.set i true) (st' ++ nextTo xs rs S i k)))
  case atStart => exact ⟨0, Nat.zero_le _, rfl, rfl, W1.out⟩
  case round =>
  clear W1
  obtain ⟨k, hk, rfl, rfl, HW⟩ := hrel
  rename World => w4
  by_cases hlt : k < d
  · go_wp2_with fail
    refine Calls.mono (wf_any xs rs L S i k _ (HG.out.below HW.out.bel) (by rw [HN.out]; exact hn) (by rw [HN.out]; exact hii) (by rw [HD.out]; exact hlt) (HMM.out i)) ?_
    rintro e w5 ⟨rfl, hb5⟩
    have W5 := hide (HW.out.below hb5)
    clear HW
    have NL := hide (nextTo_len xs rs S i k)
    obtain ⟨v, hv⟩ : ∃ v, wfI xs rs S i k = v := ⟨_, rfl⟩
    have HV := hide hv
    rw [hv]
    clear hv hb5
    by_cases hv0 : 0 ≤ v
    · obtain ⟨j, rfl⟩ : ∃ j : Nat, v = (j : Int) := ⟨v.toNat, by omega⟩
      have SN : Hid (nextTo xs rs S i (k + 1) = nextTo xs rs S i k ++ [j]) := hide (by
        rw [nextTo_succ_pos (by rw [HV.out]; exact hv0), HV.out, Int.toNat_natCast])
      have LN : Hid ((st' ++ nextTo xs rs S i k).length ≤ 2000000) := hide (by
        have h1 := NL.out; have h2 := HM.out
        rw [List.length_append]; omega)
      go_wp2_with (at_builtin; refine wpList_append_own _ rfl (.tmp 67) (.tmp 69) 42 rfl (w.heap.size + 1) 3 i0 (.int .i64 0) 1 8 Try.underlying42 HI0.out.1 HI0.out.2.1 HI0.out.2.2.1 HI0.out.2.2.2 rfl (by decide) _ _ _ rfl (W5.out.own.own.alloc _) ⟨w5.heap.size, 0, none⟩ 1 1 [.int .i64 (j : Int)] rfl rfl ?c1 ?c2 ?c3 ?c4 ?c5 ?_)
      case c1 =>
        intro q u hq
        match q, hq with
        | 0, hq => simp at hq; subst hq; simp [Addr.add]
      case c2 => intro u hu; simp at hu; subst hu; rfl
      case c3 => have := LN.out; unfold maxLen; omega
      case c4 => have := LN.out; omega
      case c5 => have := W5.out.lt; simp; omega
      intro v' w6 hown' hgrow _
      have R : Hid (LW xs rs S w v' w6 (seen.set i true) (st' ++ nextTo xs rs S i (k + 1))) := hide (by
        refine (W5.out.below ((Below.refl _ _).alloc (Nat.le_refl _) _)).grown hgrow (Stack.of_own hown' ?_ ?_ (by omega))
        · rw [SN.out]; simp [iv]
        · rw [SN.out]; simp; omega)
      clear hown' hgrow W5 SN LN NL HV
      go_wp2
      go_roundg (d - (k + 1))
      case measure => omega
      case rel => exact ⟨k + 1, by omega, rfl, by go_num, R.out⟩
    · have R : Hid (LW xs rs S w u8 w5 (seen.set i true) (st' ++ nextTo xs rs S i (k + 1))) := hide (by
        rw [nextTo_succ_neg (by rw [HV.out]; exact hv0)]; exact W5.out)
      clear W5 NL HV
      go_wp2
      go_roundg (d - (k + 1))
      case measure => omega
      case rel => exact ⟨k + 1, by omega, rfl, by go_num, R.out⟩
  obtain rfl : k = d := by omega
  have R : Hid (LI xs rs S fr to (seen.set i true) (st' ++ nextTo xs rs S i k) ∧ LW xs rs S w u8 w4 (seen.set i true) (st' ++ nextTo xs rs S i k)) := hide ⟨by have := V.out; rw [HD.out] at this; exact this, HW.out⟩
  have NL := hide (nextTo_len xs rs S i k)
  clear HW
  go_wp2
  go_roundg ((st' ++ nextTo xs rs S i k).length + ud rs (seen.set i true))
  case measure => have h1 := NL.out; have h2 := U.out; have h3 := HD.out; simp; omega
  case rel => exact ⟨seen.set i true, st' ++ nextTo xs rs S i k, rfl, by have h1 := NL.out; have h2 := U.out; have h3 := HD.out; have h4 := HM.out; simp; omega, R⟩
end Go.Proofs.Qxb6603821a.W
