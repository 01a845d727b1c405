/- CacheRun of any size; cacheFew; what FnCache's walk needs. -/
import Derived.Test.YtjhmcpdnmfhodaaLeh
import Derived.Test.YtjhmcpdnmfhodaaLei
import Derived.Test.YtjhmcpdnmfhodaaLel
import Derived.Test.YtjhmcpdnmfhodaaSpB
import Derived.Test.YtjhmcpdnmfhodaaCqA
import Derived.Deep.QuietTactic
section
/- CacheRun of any size; cacheFew; what FnCache's walk needs. -/
namespace Go.Proofs.Ytjhmcpdnmfhodaa.Lek
open Go Go.RowKit Go.Proofs.YtjhmcpdnmfhodaaW.PrintWords Go.Proofs.Ytjhmcpdnmfhodaa.GCfBody Lrc Lcp Lea Lec Lee Lef Lej Lel Spm Spt Sps Cpu Csm Small Flt
open Ccm (toOp)

def Fit (l : List S36) : Prop := l.length ≤ 2000 ∧ ∀ x ∈ l, 0 ≤ x.f0 ∧ x.f0 ≤ 8
theorem few2 (l : List S36) (hl : l.length ≤ 2147483647) : ∃ k b, laws_cacheFew.f k l = some b ∧ (b = true → Fit l) := by
  have key : ∀ (m i : Nat), i + m = l.length → ∃ b, Ev (fun k => laws_cacheFew.l0 k l (i : Int)) b ∧ (b = true → ∀ j, i ≤ j → j < l.length → 0 ≤ (rd_T36 l (j : Int)).f0 ∧ (rd_T36 l (j : Int)).f0 ≤ 8) := by
    intro m
    induction m with
    | zero =>
      intro i hi
      refine ⟨true, Ev.shift ?_, fun _ j h1 h2 => by omega⟩
      simp only [laws_cacheFew.l0, if_neg (show ¬ (i : Int) < (l.length : Int) by omega)]
      exact Ev.now _
    | succ m ih =>
      intro i hi
      obtain ⟨b, hb, hbb⟩ := ih (i + 1) (by omega)
      by_cases h1 : (rd_T36 l (i : Int)).f0 < 0
      · refine ⟨false, Ev.shift ?_, fun h => by cases h⟩
        simp only [laws_cacheFew.l0, if_pos (show (i : Int) < (l.length : Int) by omega), if_pos (show (0 : Int) ≤ (i : Int) by omega), if_pos h1]
        exact Ev.now _
      · by_cases h2 : (rd_T36 l (i : Int)).f0 > 8
        · refine ⟨false, Ev.shift ?_, fun h => by cases h⟩
          simp only [laws_cacheFew.l0, if_pos (show (i : Int) < (l.length : Int) by omega), if_pos (show (0 : Int) ≤ (i : Int) by omega), if_neg h1, if_pos h2]
          exact Ev.now _
        · refine ⟨b, Ev.shift ?_, fun h j hj1 hj2 => ?_⟩
          · simp only [laws_cacheFew.l0, if_pos (show (i : Int) < (l.length : Int) by omega), if_pos (show (0 : Int) ≤ (i : Int) by omega), if_neg h1, if_neg h2, wrap_succ i (by omega)]
            exact hb
          · by_cases e : j = i
            · rw [e]; exact ⟨by omega, by omega⟩
            · exact hbb h j (by omega) hj2
  by_cases h : (l.length : Int) > 2000
  · exact ⟨0, false, by unfold laws_cacheFew.f; rw [if_pos h], fun h => by cases h⟩
  · obtain ⟨b, hb, hbb⟩ := key l.length 0 (by omega)
    obtain ⟨k, hk⟩ := Ev.rounds hb
    refine ⟨k, b, by unfold laws_cacheFew.f; rw [if_neg h]; exact hk, fun hbt => ⟨by omega, fun x hx => ?_⟩⟩
    obtain ⟨j, hj, hx2⟩ := List.mem_iff_getElem.1 hx
    have h3 := hbb hbt j (Nat.zero_le _) hj
    have h4 : rd_T36 l (j : Int) = x := by
      show l.getD (j : Int).toNat z36 = x
      rw [Int.toNat_natCast, List.getD_eq_getElem?_getD, List.getElem?_eq_getElem hj, hx2]; rfl
    rw [h4] at h3
    exact h3
theorem run2 {w : World} (n : Int) (hn : 0 < n) (cb : Bool) (l : List S36) (A1 : Option Addr) (c1 : Nat) (hr : Kd.C k36 w A1 l.length l) (hk : ∀ x ∈ l, In64 x.f1) (hf : Fit l) :
    Calls Try.prog 6 #[.int .i64 n, .bool cb, .slice A1 l.length c1] w (Post w n cb l) := by
  cases cb
  · exact Leh.cacheRun n hn l A1 c1 hr hk hf.2 hf.1
  · exact Lei.cacheRun n hn l A1 c1 hr hk hf.2 hf.1
set_option linter.all false in
set_option maxRecDepth 1000000 in
set_option maxHeartbeats 4000000 in
theorem run0 {w : World} (n : Int) (hn : n ≤ 0) (cb : Bool) (V : Value) : Calls Try.prog 6 #[.int .i64 n, .bool cb, V] w fun r w' => r = .returned (.tuple #[.slice none 0 0, .bool false]) ∧ Below w.heap.size w w' := by
  have cN := new0 (w.alloc (.cells #[.slice none 0 0] 31)) n hn
  have hB := Aside0.mk ((Below.refl w.heap.size w).alloc (Nat.le_refl _) (.cells #[.slice none 0 0] 31))
  have cN2 : Calls Try.prog 12 #[.int .i64 n, .func (.func 13) #[] #[.pointer (some ⟨w.heap.size, 0, none⟩)]] (w.alloc (.cells #[.slice none 0 0] 31)) _ := newEvict0 _ n true w.heap.size hn
  clear hn
  cases cb
  · clear cN2
    go_enter Try.func6, Try.ntmps6
    go_wp2_with (first | (go_at_call 11; refine cN.mono ?_; rintro r wn ⟨rfl, hwn⟩; rw [hwn]; clear hwn wn cN))
    go_ret2
    exact ⟨rfl, hB.out⟩
  · go_enter Try.func6, Try.ntmps6
    go_wp2_with (first | (go_at_call 11; refine cN.mono ?_; rintro r wn ⟨rfl, hwn⟩; rw [hwn]; clear hwn wn cN) | (go_at_call 12; refine cN2.mono ?_; rintro r wn ⟨rfl, hwn⟩; rw [hwn]; clear hwn wn cN2))
    go_ret2
    exact ⟨rfl, hB.out⟩
set_option linter.all false in
set_option maxRecDepth 1000000 in
set_option maxHeartbeats 4000000 in
theorem made0 (w : World) (n : Int) (hn : n ≤ 0) : Calls Try.prog 7 #[.int .i64 n] w fun r w' => r = .returned (.tuple #[.pointer none, .bool false]) ∧ w' = w := by
  have d0 : decide (n ≤ 0) = true := decide_eq_true hn
  clear hn
  go_enter Try.func7, Try.ntmps7
  go_wp2_with (fail)
  go_ret2
  exact ⟨rfl, rfl⟩
theorem flat6 (os : List Oz) : ∀ j, (ozs os)[j]? = (os[j / 6]?).bind fun x => (oz x)[j % 6]? := by
  unfold ozs
  induction os with
  | nil => intro j; simp
  | cons x t ih =>
    intro j
    rw [List.flatMap_cons]
    by_cases h : j < 6
    · rw [List.getElem?_append_left (show j < (oz x).length from h), show j / 6 = 0 by omega, show j % 6 = j by omega]
      rfl
    · rw [List.getElem?_append_right (show (oz x).length ≤ j by show 6 ≤ j; omega), show (oz x).length = 6 from rfl, ih, show j / 6 = (j - 6) / 6 + 1 by omega, show (j - 6) % 6 = j % 6 by omega]
      rfl
/-- the results from place i on lie in block g; what was told lies below S -/
structure Ou (w0 w : World) (g S i : Nat) (os : List Oz) : Prop where
  blk : ∃ cs, w.heap[g]? = some (.cells cs 33 (0, 0)) ∧ ∀ (t : Nat) (y : Oz), i ≤ t → os[t]? = some y → ∀ r, r < 6 → cs[t * 6 + r]? = (oz y)[r]?
  rows : ∀ y ∈ os, w.ownsRow w0.heap.size 44 2 y.gv y.gone.length (pcs y.gone)
  bnd : ∀ y ∈ os, ∀ k, y.gv.ownBlock = some k → k < S
  gS : g < S
  gB : w0.heap.size ≤ g
theorem Ou.kept {w0 w w' : World} {g S i : Nat} {os : List Oz} (h : Ou w0 w g S i os) (hb : Below S w w') : Ou w0 w' g S i os := by
  obtain ⟨cs, hcs, hat⟩ := h.blk
  exact ⟨⟨cs, (hb.block g h.gS).trans hcs, hat⟩, fun y hy => rowKept (h.rows y hy) (fun k c e hk => (hb.block k (h.bnd y hy k e)).trans hk), h.bnd, h.gS, h.gB⟩
theorem Ou.put {w0 w : World} {g S i : Nat} {os : List Oz} (h : Ou w0 w g S i os) (r : Nat) (hr : r < 6) (u : Value) : Ou w0 (w.setCell ⟨g, i * 6 + r, none⟩ u) g S (i + 1) os := by
  obtain ⟨cs, hcs, hat⟩ := h.blk
  refine ⟨⟨_, Ll.set_same u hcs, fun t y ht hy q hq => ?_⟩, fun y hy => rowKept (h.rows y hy) (fun k c e hk => (Ll.set_other w u (fun e2 => by rw [e2, hcs] at hk; cases hk)).trans hk), h.bnd, h.gS, h.gB⟩
  rw [Array.getElem?_setIfInBounds_ne (by omega)]
  exact hat t y (by omega) hy q hq
theorem Ou.next {w0 w : World} {g S i : Nat} {os : List Oz} (h : Ou w0 w g S i os) : Ou w0 w g S (i + 1) os := by
  obtain ⟨cs, hcs, hat⟩ := h.blk
  exact ⟨⟨cs, hcs, fun t y ht hy q hq => hat t y (by omega) hy q hq⟩, h.rows, h.bnd, h.gS, h.gB⟩
theorem Ou.read {w0 w : World} {g S i : Nat} {os : List Oz} (h : Ou w0 w g S i os) {y : Oz} (hy : os[i]? = some y) :
    (∀ r, r < 6 → w.cell? ⟨g, i * 6 + r, none⟩ = (oz y)[r]?) ∧ (∀ j, w.frozen? ⟨g, j, none⟩ = false) := by
  obtain ⟨cs, hcs, hat⟩ := h.blk
  exact ⟨fun r hr => by rw [Lib.cell_of_heap hcs]; exact hat i y (Nat.le_refl _) hy r hr, fun j => by rw [Lib.frozen_of_heap hcs]⟩
theorem Ou.of_own {w0 w : World} {g n c : Nat} {os : List Oz} (h : w.ownsRow w0.heap.size 33 6 (.slice (some ⟨g, 0, none⟩) n c) n (ozs os)) (hn : n = os.length) (hr : ∀ y ∈ os, w.ownsRow w0.heap.size 44 2 y.gv y.gone.length (pcs y.gone)) : Ou w0 w g w.heap.size 0 os := by
  have hl := h.lt g rfl
  rcases h.2 with ⟨h', _⟩ | ⟨g', cap', cur, h', hb, hg, _, _, _, ht⟩
  · cases h'
  · simp only [Value.slice.injEq, Option.some.injEq, Addr.mk.injEq, and_true, true_and] at h'
    obtain ⟨rfl, rfl⟩ := h'
    refine ⟨⟨cur, hg, fun t y _ hy r hr => ?_⟩, hr, fun y hy k e => ((hr y hy).lt k e).2, hl.2, hb⟩
    have hj : t < os.length := (List.getElem?_eq_some_iff.1 hy).1
    have h1 : (cur.toList.take (n * 6))[t * 6 + r]? = cur[t * 6 + r]? := by
      rw [List.getElem?_take, if_pos (by omega), Array.getElem?_toList]
    rw [← h1, ht, flat6, show (t * 6 + r) / 6 = t by omega, show (t * 6 + r) % 6 = r by omega, hy]
    rfl
theorem Ou.rd {w0 w : World} {g S i : Nat} {os : List Oz} (h : Ou w0 w g S i os) {y : Oz} (hy : y ∈ os) (hl : y.gone.length ≤ 1000000) : Rd w y.gv y.gone := Rd.of_own (h.rows y hy) rfl hl
theorem form6 {W : World} {B n : Nat} {v : Value} {xs : List Value} (h : W.ownsRow B 33 6 v n xs) (hn : 0 < n) : ∃ g c, v = .slice (some ⟨g, 0, none⟩) n c := by
  rcases h.2 with ⟨_, h0⟩ | ⟨g, c, _, hv, _⟩
  · omega
  · exact ⟨g, c, hv⟩
theorem slice6 {W : World} {B n : Nat} {v : Value} {xs : List Value} (h : W.ownsRow B 33 6 v n xs) : ∃ A c, v = .slice A n c := by
  rcases h.2 with ⟨h1, h0⟩ | ⟨g, c, _, hv, _⟩
  · exact ⟨none, 0, by rw [h1, h0]⟩
  · exact ⟨_, c, hv⟩
end Go.Proofs.Ytjhmcpdnmfhodaa.Lek
end

section
/- The walk of FnCache. -/
namespace Go.Proofs.Ytjhmcpdnmfhodaa.Lem
open Go Go.RowKit Go.Proofs.YtjhmcpdnmfhodaaW.PrintWords Go.Proofs.YtjhmcpdnmfhodaaW.PrintLast Go.Proofs.YtjhmcpdnmfhodaaW.PrintMore Lrc Lcp Lea Lec Lee Lef Lel Lek Spm Spt Sps Cpu Csm Flt
open Go.Proofs.Ytjhmcpdnmfhodaa.GCfBody (S36 k36 z36 rd_T36 at_T36 laws_cacheFew.calls)
open Ccm (toOp)

/-- the two results that are compared, in memory -/
structure Two (W : World) (g i Q : Nat) (ok : Bool) (key val : Int) (rate : Nat) (asked : Bool) (yv gv : Value) : Prop where
  a0 : W.cell? ⟨g, i * 6, none⟩ = some (.bool ok)
  a1 : W.cell? ⟨g, i * 6 + 1, none⟩ = some (.int .i64 key)
  a2 : W.cell? ⟨g, i * 6 + 2, none⟩ = some (.int .i64 val)
  a3 : W.cell? ⟨g, i * 6 + 3, none⟩ = some (.float .f64 rate)
  a4 : W.cell? ⟨g, i * 6 + 4, none⟩ = some (.bool asked)
  a5 : W.cell? ⟨g, i * 6 + 5, none⟩ = some yv
  b0 : W.cell? ⟨Q, 0, none⟩ = some (.bool ok)
  b1 : W.cell? ⟨Q, 1, none⟩ = some (.int .i64 key)
  b2 : W.cell? ⟨Q, 2, none⟩ = some (.int .i64 val)
  b3 : W.cell? ⟨Q, 3, none⟩ = some (.float .f64 rate)
  b4 : W.cell? ⟨Q, 4, none⟩ = some (.bool asked)
  b5 : W.cell? ⟨Q, 5, none⟩ = some gv
theorem Two.kept {W W' : World} {g i Q : Nat} {ok : Bool} {key val : Int} {rate : Nat} {asked : Bool} {yv gv : Value} (h : Two W g i Q ok key val rate asked yv gv) (hb : Below W.heap.size W W') (hg : g < W.heap.size) (hQ : Q < W.heap.size) : Two W' g i Q ok key val rate asked yv gv :=
  ⟨(hb.cell hg).trans h.a0, (hb.cell hg).trans h.a1, (hb.cell hg).trans h.a2, (hb.cell hg).trans h.a3, (hb.cell hg).trans h.a4, (hb.cell hg).trans h.a5, (hb.cell hQ).trans h.b0, (hb.cell hQ).trans h.b1, (hb.cell hQ).trans h.b2, (hb.cell hQ).trans h.b3, (hb.cell hQ).trans h.b4, (hb.cell hQ).trans h.b5⟩
theorem Two.drew {W : World} {g i Q : Nat} {ok : Bool} {key val : Int} {rate : Nat} {asked : Bool} {yv gv : Value} (h : Two W g i Q ok key val rate asked yv gv) : Two W.drew g i Q ok key val rate asked yv gv := ⟨h.a0, h.a1, h.a2, h.a3, h.a4, h.a5, h.b0, h.b1, h.b2, h.b3, h.b4, h.b5⟩
theorem lowSet {B : Nat} {w : World} {S : Nat} {sz hh mm : Int} {v : Value} {ps : List (Int × Int)} (h : Cs B w S sz v hh mm ps) {g : Nat} (j : Nat) (u : Value) (hg : g < B) : Cs B (w.setCell ⟨g, j, none⟩ u) S sz v hh mm ps :=
  ⟨(Ll.set_other w u (by have := h.bS; omega)).trans h.own, rowKept h.row (fun k c e hk => (Ll.set_other w u (by have := (h.row.lt k e).1; omega)).trans hk), h.bS⟩
theorem twoPut {W : World} {g i Q : Nat} {ok : Bool} {key val : Int} {rate : Nat} {asked : Bool} {yv gv : Value} {cs : Array Value} (h : Two W g i Q ok key val rate asked yv gv) (hg : W.heap[g]? = some (.cells cs 33 (0, 0))) (hne : Q ≠ g) : Two (W.setCell ⟨g, i * 6 + 5, none⟩ gv) g i Q ok key val rate asked gv gv := by
  have hs := Ll.set_same (j := i * 6 + 5) gv hg
  have hc : ∀ r u, W.cell? ⟨g, i * 6 + r, none⟩ = some u → r < 5 → (W.setCell ⟨g, i * 6 + 5, none⟩ gv).cell? ⟨g, i * 6 + r, none⟩ = some u := fun r u hu hr => by
    rw [Lib.cell_of_heap hg] at hu
    rw [Lib.cell_of_heap hs, Array.getElem?_setIfInBounds_ne (by omega)]
    exact hu
  have hq : ∀ r u, W.cell? ⟨Q, r, none⟩ = some u → (W.setCell ⟨g, i * 6 + 5, none⟩ gv).cell? ⟨Q, r, none⟩ = some u := fun r u hu => (World.cell?_of_block (w := W) (Ll.set_other W gv hne)).trans hu
  have h5 : (W.setCell ⟨g, i * 6 + 5, none⟩ gv).cell? ⟨g, i * 6 + 5, none⟩ = some gv := by
    have h9 := h.a5
    rw [Lib.cell_of_heap hg] at h9
    have hlt := (Array.getElem?_eq_some_iff.1 h9).1
    rw [Lib.cell_of_heap hs]
    simp [hlt]
  exact ⟨hc 0 _ h.a0 (by omega), hc 1 _ h.a1 (by omega), hc 2 _ h.a2 (by omega), hc 3 _ h.a3 (by omega), hc 4 _ h.a4 (by omega), h5, hq 0 _ h.b0, hq 1 _ h.b1, hq 2 _ h.b2, hq 3 _ h.b3, hq 4 _ h.b4, hq 5 _ h.b5⟩
theorem nodup_of_fst : ∀ {l : List (Int × Int)}, (l.map Prod.fst).Nodup → l.Nodup
  | [], _ => List.nodup_nil
  | p :: t, h => by
    rw [List.map_cons, List.nodup_cons] at h
    rw [List.nodup_cons]
    exact ⟨fun hp => h.1 (List.mem_map.2 ⟨p, hp, rfl⟩), nodup_of_fst h.2⟩
theorem count_one {l : List (Int × Int)} (hn : l.Nodup) {z : Int × Int} (hz : z ∈ l) : l.count z = 1 := by
  obtain ⟨xs, ys, rfl⟩ := List.append_of_mem hz
  have hp := (List.perm_middle (a := z) (l₁ := xs) (l₂ := ys))
  have h1 := hp.nodup_iff.1 hn
  rw [List.nodup_cons] at h1
  rw [hp.count_eq, List.count_cons_self, List.count_eq_zero.2 h1.1]
-- TABLES
def T16 : Bool × List (List Nat × List Nat) := (true, [([], []), ([], []), ([0, 1], [0, 1]), ([2], [2]), ([3], [3]), ([], []), ([5], [5]), ([4, 6], [4, 6]), ([7], [7])])
def B16 : List Nat := [0, 0, 3, 7, 15, 0, 32, 127, 255]
theorem tab16 : rtab .any (opsOf Try.f3 16) = T16 := by kernel_rfl
theorem bits16 : waitsOk T16.2 B16 = true := by kernel_rfl
def T19 : Bool × List (List Nat × List Nat) := (true, [([], []), ([], []), ([0, 1], [0, 1]), ([2], [2]), ([], []), ([], []), ([3, 4, 5], [3, 4, 5]), ([6], [6])])
def B19 : List Nat := [0, 0, 3, 7, 0, 0, 63, 127]
theorem tab19 : rtab .any (opsOf Try.f3 19) = T19 := by kernel_rfl
theorem bits19 : waitsOk T19.2 B19 = true := by kernel_rfl
-- END TABLES
set_option linter.all false in
set_option maxRecDepth 1000000 in
set_option maxHeartbeats 40000000 in
theorem law_any (size : Int) (cb : Bool) (A1 : Option Addr) (c1 : Nat) (l : List S36) (w : World) (hr1 : Kd.C k36 w A1 l.length l) (hc1 : l.length ≤ c1) (hk : ∀ x ∈ l, In64 x.f1) :
    Calls Try.prog 3 #[.int .i64 size, .bool cb, .slice A1 l.length c1] w fun e w' => e = .returned (.bool true) ∧ Below w.heap.size w w' := by
  have HR := Aside0.mk hr1
  have HK := Aside0.mk hk
  obtain ⟨q, hq⟩ : ∃ q, l.length = q := ⟨_, rfl⟩
  have HQ := Aside0.mk hq
  rw [hq] at hc1 ⊢
  clear hr1 hk
  by_cases hbig : (q : Int) > 2147483647
  · have hb1 : decide ((q : Int) > 2147483647) = true := decide_eq_true hbig
    have hb2 : decide ((2147483647 : Int) < (q : Int)) = true := hb1
    have hb3 : decide (2147483647 < q) = true := decide_eq_true (by omega)
    clear hq hbig
    go_enter Try.func3, Try.ntmps3
    go_wp2_with (fail)
    go_ret
    exact ⟨rfl, Below.refl _ _⟩
  · have hb1 : decide ((q : Int) > 2147483647) = false := decide_eq_false hbig
    have hb2 : decide ((2147483647 : Int) < (q : Int)) = false := hb1
    have hb3 : decide (2147483647 < q) = false := decide_eq_false (by omega)
    obtain ⟨k, b, hf, hfit⟩ := few2 l (by omega)
    have cF := laws_cacheFew.calls k A1 c1 l b w HR.out (by rw [hq]; exact hc1) hf
    rw [hq] at cF
    have HF := Aside0.mk hfit
    clear hq hbig hf hfit
    cases b
    · go_enter Try.func3, Try.ntmps3
      go_wp2_with (go_at_call 5; refine cF.mono ?_; rintro e w1 ⟨rfl, hb⟩; have HB := Aside0.mk hb; clear hb)
      go_ret
      exact ⟨rfl, (Drawn0.below HB.out)⟩
    · by_cases hsz : size ≤ 0
      · have c6 := fun W : World => run0 (w := W) size hsz cb (.slice A1 q c1)
        have c7 := fun W : World => made0 W size hsz
        clear hsz
        go_enter Try.func3, Try.ntmps3
        go_wp2_with (first | (go_at_call 5; refine cF.mono ?_; rintro e w1 ⟨rfl, hb⟩; have HB := Aside0.mk hb; clear hb)
                           | (go_at_call 6; refine (c6 _).mono ?_; rintro e w2 ⟨rfl, hb⟩; have HB2 := Aside0.mk hb; clear hb)
                           | (go_at_call 7; refine (c7 _).mono ?_; rintro e w3 ⟨rfl, hb⟩; rw [hb]; clear hb w3))
        go_ret
        exact ⟨rfl, (Drawn0.below HB.out).trans (HB2.out.mono (Drawn0.below HB.out).size)⟩
      · have hn : 0 < size := by omega
        have hfit : Fit l := HF.out rfl
        have HS := Aside0.mk (And.intro hn hfit)
        clear hsz hn hfit
        go_enter Try.func3, Try.ntmps3
        go_wp2_with (first | (go_at_call 5; refine cF.mono ?_; rintro e w1 ⟨rfl, hb⟩
                              have hb1 := Drawn0.below hb
                              have c6 : Calls Try.prog 6 #[.int .i64 size, .bool cb, .slice A1 q c1] w1 (Lej.Post w1 size cb l) := by
                                rw [← HQ.out]; exact run2 size HS.out.1 cb l A1 c1 (Kd.C_below HR.out hb1) HK.out HS.out.2
                              have HB1 := Aside0.mk (And.intro hb hb1)
                              clear hb hb1 cF)
                           | (go_at_call 6; refine c6.mono ?_; rintro e w2 ⟨vo, os, rfl, hrow, hgood, hrows, hbel⟩
                              have hlen : os.length = q := by rw [hgood.len]; exact HQ.out
                              rw [hlen] at hrow
                              obtain ⟨A, c, rfl⟩ := slice6 hrow
                              have hA : 0 < q → ∃ g, A = some ⟨g, 0, none⟩ := fun h0 => by
                                obtain ⟨g, c2, hv⟩ := form6 hrow h0
                                injection hv with hv _ _
                                exact ⟨g, hv⟩
                              have c7 := Spn.cMade w2 size HS.out.1
                              have HP := Aside0.mk (And.intro hrow (And.intro hgood (And.intro hrows (And.intro hbel (And.intro hlen hA)))))
                              clear hrow hgood hrows hbel hlen hA c6)
                           | (go_at_call 7; refine c7.mono ?_; rintro e w3 ⟨rfl, hw3⟩; have HW3 := Aside0.mk hw3; clear hw3 c7))
        obtain ⟨N, hN⟩ : ∃ N, cut size = N := ⟨_, rfl⟩
        obtain ⟨ops, hops⟩ : ∃ ops, l.map toOp = ops := ⟨_, rfl⟩
        have h0 : 0 < N := by rw [← hN]; unfold cut; have := HS.out.1; omega
        have h1 : N ≤ 100000 := by rw [← hN]; unfold cut; omega
        have hlo : q = ops.length := by rw [← hops, List.length_map]; exact HQ.out.symm
        have hsame : w1.heap.size = w.heap.size := by obtain ⟨m, hm⟩ := HB1.out.1.out; rw [hm]; rfl
        have hgood : Lef.Good N cb ops q os := by have := HP.out.2.1; rw [hN, hops, HQ.out] at this; exact this
        have hb2 : Below w.heap.size w w2 := HB1.out.2.trans (by have := HP.out.2.2.2.1; rw [hsame] at this; exact this)
        have HN := Aside0.mk (And.intro hN (And.intro hops (And.intro hlo (And.intro hgood (And.intro hb2 hsame)))))
        have hqf : q ≤ 2000 := by rw [← HQ.out]; exact HS.out.2.1
        clear hN hops hlo hgood hb2 hsame
        go_loopg [11] q (fun gk v11 wx => ∃ i : Nat, v11 = .int .i64 i ∧ i + gk = q ∧ Below w.heap.size w wx ∧ w2.heap.size < wx.heap.size ∧ (∃ v, Cs w2.heap.size wx w2.heap.size N v (stAt N ops i).h (stAt N ops i).m (stAt N ops i).l.reverse) ∧ ∀ g, A = some ⟨g, 0, none⟩ → Ou w wx g w2.heap.size i os)
        case atStart =>
          have hb3 : Below w2.heap.size w2 w3 := by rw [HW3.out]; exact (Below.refl _ w2).alloc (Nat.le_refl _) _
          refine ⟨0, rfl, by omega, HN.out.2.2.2.2.1.trans (hb3.mono HN.out.2.2.2.2.1.size), by rw [HW3.out]; simp, ⟨.slice none 0 0, ?_⟩, fun g hg => ?_⟩
          · have hm := Spn.made (w := w2) (min size 100000)
            rw [← HW3.out] at hm
            have e : (min size 100000 : Int) = N := HN.out.1
            rw [e] at hm
            show Cs w2.heap.size w3 w2.heap.size N _ (Lcp.run N ⟨[], 0, 0⟩ (ops.take 0)).1.h (Lcp.run N ⟨[], 0, 0⟩ (ops.take 0)).1.m (Lcp.run N ⟨[], 0, 0⟩ (ops.take 0)).1.l.reverse
            rw [List.take_zero]
            exact hm
          · subst hg
            have hrow := HP.out.1
            have hrows := HP.out.2.2.1
            rw [HN.out.2.2.2.2.2] at hrow hrows
            exact (Ou.of_own hrow HP.out.2.2.2.2.1.symm hrows).kept hb3
        case round =>
          obtain ⟨i, hv, hi, hBx, hSz, hCs, hOu⟩ := hrel
          subst hv
          by_cases hlt : i < q
          · obtain ⟨g', rfl⟩ : ∃ g', gk = g' + 1 := ⟨gk - 1, by omega⟩
            obtain ⟨g, rfl⟩ := HP.out.2.2.2.2.2 (by omega)
            have hO := hOu g rfl
            obtain ⟨ad, hA1, hc0, hc1', hc2⟩ := at_T36 (Kd.C_below HR.out hBx) (i : Int) (by omega) (by rw [HQ.out]; omega)
            cases hA1
            obtain ⟨x, hx⟩ : ∃ x, toOp (rd_T36 l (i : Int)) = x := ⟨_, rfl⟩
            have hil : i < l.length := by rw [HQ.out]; exact hlt
            have hxo : ops[i]? = some x := by
              rw [← HN.out.2.1, List.getElem?_map, List.getElem?_eq_getElem hil, ← hx]
              show some _ = some _
              congr 2
              show _ = l.getD (i : Int).toNat z36
              rw [Int.toNat_natCast, List.getD_eq_getElem?_getD, List.getElem?_eq_getElem hil]; rfl
            have hmem : rd_T36 l (i : Int) ∈ l := by
              show l.getD (i : Int).toNat z36 ∈ l
              rw [Int.toNat_natCast, List.getD_eq_getElem?_getD, List.getElem?_eq_getElem hil]
              exact List.getElem_mem _
            have hxd : 0 ≤ x.d ∧ x.d ≤ 8 := by rw [← hx]; exact HS.out.2.2 _ hmem
            rw [Int.toNat_natCast] at hc0 hc1' hc2
            rw [show (rd_T36 l (i : Int)).f0 = x.d by rw [← hx]; rfl] at hc0
            rw [show (rd_T36 l (i : Int)).f1 = x.k by rw [← hx]; rfl] at hc1'
            rw [show (rd_T36 l (i : Int)).f2 = x.v by rw [← hx]; rfl] at hc2
            obtain ⟨y, hy⟩ : ∃ y, os[i]? = some y := ⟨_, List.getElem?_eq_getElem (by rw [HP.out.2.2.2.2.1]; exact hlt)⟩
            have hok := HN.out.2.2.2.1.ok i x y hxo hy
            have hops8 : ∀ z ∈ ops, 0 ≤ z.d ∧ z.d ≤ 8 := by
              rw [← HN.out.2.1]
              intro z hz
              obtain ⟨z0, hz0, rfl⟩ := List.mem_map.1 hz
              exact HS.out.2.2 z0 hz0
            have hinv := inv_at N h0 ops hops8 i (by rw [← HN.out.2.2.1]; omega)
            have hsim := sim N h0 (stAt N ops i) hinv x hxd
            have hnext := stAt_next (n := N) hxo
            obtain ⟨hm0, hm1, hm2⟩ := Leg.stAt_hm N ops (by rw [← HN.out.2.2.1]; exact hqf) i (by rw [← HN.out.2.2.1]; omega)
            have hlen : (stAt N ops i).l.reverse.length ≤ 100000 := by rw [List.length_reverse]; have := hinv.len; omega
            obtain ⟨vc, hCs⟩ := hCs
            have cSt := Spq.cStep hCs h0 hlen hm0 hm1 (by omega) x hxd
            have hrself := rt_self hm0 hm1 (by omega)
            have hyr := hok.r
            have hrr : FloatKind.f64.format.order y.rate y.rate = some .eq := by
              rw [hyr]
              unfold rateOf
              split
              · exact hrself
              · decide +kernel
            obtain ⟨T, hT⟩ : ∃ T, sstep N ⟨(stAt N ops i).l.reverse, (stAt N ops i).h, (stAt N ops i).m⟩ x = T := ⟨_, rfl⟩
            rw [hT] at cSt hsim
            obtain ⟨t', ok, key, val, rate, asked, og⟩ := T
            obtain ⟨yo, yr, yg, yv⟩ := y
            have e1 : yo.ok = ok := by rw [show yo = _ from hok.o]; exact hsim.ok.symm
            have e2 : yo.key = key := by rw [show yo = _ from hok.o]; exact hsim.key.symm
            have e3 : yo.val = val := by rw [show yo = _ from hok.o]; exact hsim.val.symm
            have e4 : yo.asked = asked := by rw [show yo = _ from hok.o]; exact hsim.asked.symm
            have e5 : yr = rate := by rw [show yr = _ from hok.r]; exact hsim.rate.symm
            obtain ⟨r0, r1⟩ := hO.read hy
            have f0 : wr.cell? ⟨g, i * 6, none⟩ = some (.bool ok) := by rw [← e1]; exact r0 0 (by omega)
            have f1 : wr.cell? ⟨g, i * 6 + 1, none⟩ = some (.int .i64 key) := by rw [← e2]; exact r0 1 (by omega)
            have f2 : wr.cell? ⟨g, i * 6 + 2, none⟩ = some (.int .i64 val) := by rw [← e3]; exact r0 2 (by omega)
            have f3 : wr.cell? ⟨g, i * 6 + 3, none⟩ = some (.float .f64 rate) := by rw [← e5]; exact r0 3 (by omega)
            have f4 : wr.cell? ⟨g, i * 6 + 4, none⟩ = some (.bool asked) := by rw [← e4]; exact r0 4 (by omega)
            have f5 : wr.cell? ⟨g, i * 6 + 5, none⟩ = some yv := r0 5 (by omega)
            have hymem : (⟨yo, yr, yg, yv⟩ : Oz) ∈ os := List.mem_of_getElem? hy
            have hrr' : FloatKind.f64.format.order rate rate = some .eq := by rw [← e5]; exact hrr
            have hyl : yg.length ≤ 1000000 := by
              have h3 := hok.g.length_eq
              have h4 : (told cb (goneOf N (stAt N ops i) x)).length ≤ (goneOf N (stAt N ops i) x).length := by cases cb <;> simp [told]
              have h5 := hsim.gone.length_eq
              have h6 : (goneOf N (stAt N ops i) x).length ≤ (stAt N ops i).l.length + 1 := by
                unfold goneOf
                repeat' split
                all_goals (first | (simp only [List.length_nil]; omega) | omega | (cases hh : (stAt N ops i).l.getLast? <;> simp [hh]))
              rw [List.length_reverse] at hlen
              show yg.length ≤ 1000000
              have h3' : yg.length = (told cb (goneOf N (stAt N ops i) x)).length := h3
              omega
            have hol : og.length ≤ 1000000 := by
              have h5 := hsim.gone.length_eq
              have h6 : (goneOf N (stAt N ops i) x).length ≤ (stAt N ops i).l.length + 1 := by
                unfold goneOf
                repeat' split
                all_goals (first | (simp only [List.length_nil]; omega) | omega | (cases hh : (stAt N ops i).l.getLast? <;> simp [hh]))
              rw [List.length_reverse] at hlen
              have h5' : og.length = (goneOf N (stAt N ops i) x).length := h5
              omega
            have hgS := hO.gS
            have hltd : (i : Int) < (q : Int) := by omega
            have hwi := Aside0.mk (Cpu.w1 i (by omega))
            have HI := Aside0.mk (And.intro hO (And.intro hBx (And.intro hok (And.intro hsim (And.intro hnext (And.intro hrr' (And.intro hyl (And.intro hol (And.intro hymem (And.intro hinv hSz))))))))))
            have HC := Aside0.mk (And.intro hc0 (And.intro hc1' hc2))
            have hsf : ∀ (W : World) (ad : Addr) (b : Nat), (store ad (.float .f64 b)).run Try.prog W = stored Try.prog W ad (.float .f64 b) .plain := fun W ad b => run_store Try.prog W ad _ .plain rfl
            have FF := Aside0.mk (And.intro f0 (And.intro f1 (And.intro f2 (And.intro f3 (And.intro f4 (And.intro f5 r1))))))
            have HD0 := Aside0.mk (show (rd_T36 l (i : Int)).f0 = x.d by rw [← hx]; rfl)
            clear hO hBx hok hsim hnext hrr hrr' hyl hol hymem hinv hxo hmem hx hT e1 e2 e3 e4 e5 r0 r1 hy hyr hrself hlen hm0 hm1 hm2 hops8 hCs hOu f0 f1 f2 f3 f4 f5 hSz hil
            -- ROUND
            by_cases h5 : x.d = 5
            · have h5b : (x.d == 5) = true := by rw [h5]; rfl
              cases cb
              · have H5 := Aside0.mk h5
                clear h5
                go_wp2_with (first | (
                  go_at_call 8
                  refine cSt.mono ?_
                  rintro e w4 ⟨gv, he, hgrow, hbt, vc', hC4⟩
                  unfold sov at he
                  subst he
                  obtain ⟨A3, n3, c3, rfl⟩ : ∃ A3 n3 c3, gv = .slice A3 n3 c3 := by
                    rcases row_cases hgrow with ⟨h1, _⟩ | ⟨g2, c2, h1⟩
                    · exact ⟨_, _, _, h1⟩
                    · exact ⟨_, _, _, h1⟩
                  obtain ⟨X, hX⟩ : ∃ X, w4.alloc (.cells #[.bool ok, .int .i64 key, .int .i64 val, .float .f64 rate, .bool asked, .slice A3 n3 c3] 33) = X := ⟨_, rfl⟩
                  have hXb : Below w4.heap.size w4 X := by rw [← hX]; exact (Below.refl _ w4).alloc (Nat.le_refl _) _
                  have hXQ : X.heap[w4.heap.size]? = some (.cells #[.bool ok, .int .i64 key, .int .i64 val, .float .f64 rate, .bool asked, .slice A3 n3 c3] 33 (0, 0)) := by rw [← hX]; exact heap_alloc_new w4 _
                  have hzX : X.heap.size = w4.heap.size + 1 := by rw [← hX]; simp
                  have hw2 := HN.out.2.2.2.2.1.size
                  have hw4 : w2.heap.size < w4.heap.size := Nat.lt_of_lt_of_le HI.out.2.2.2.2.2.2.2.2.2.2 hbt.b.size
                  have hBX : Below w.heap.size w X := (HI.out.2.1.trans (hbt.b.mono hw2)).trans (hXb.mono (by omega))
                  have hOX : Ou w X g w2.heap.size i os := (HI.out.1.kept hbt.b).kept (hXb.mono (by omega))
                  have hCX := hC4.kept hXb
                  have hgX : X.ownsRow w2.heap.size 44 2 (.slice A3 n3 c3) og.length (pcs og) := rowKept hgrow (fun k c _ hk => (hXb.block k (Array.getElem?_eq_some_iff.1 hk).1).trans hk)
                  have hgS := HI.out.1.gS
                  have cX : ∀ j u, wr.cell? ⟨g, j, none⟩ = some u → X.cell? ⟨g, j, none⟩ = some u := fun j u hu => (hXb.cell (show g < w4.heap.size by omega)).trans ((hbt.b.cell hgS).trans hu)
                  obtain ⟨f0, f1, f2, f3, f4, f5, r1⟩ := FF.out
                  have hTw : Two X g i w4.heap.size ok key val rate asked yv (.slice A3 n3 c3) := ⟨cX _ _ f0, cX _ _ f1, cX _ _ f2, cX _ _ f3, cX _ _ f4, cX _ _ f5, by rw [Lib.cell_of_heap hXQ]; rfl, by rw [Lib.cell_of_heap hXQ]; rfl, by rw [Lib.cell_of_heap hXQ]; rfl, by rw [Lib.cell_of_heap hXQ]; rfl, by rw [Lib.cell_of_heap hXQ]; rfl, by rw [Lib.cell_of_heap hXQ]; rfl⟩
                  obtain ⟨ad', hA', d0, _, _⟩ := at_T36 (Kd.C_below HR.out hBX) (i : Int) (by omega) (by rw [HQ.out]; omega)
                  obtain rfl : ad = ad' := by injection hA'
                  rw [Int.toNat_natCast, show (rd_T36 l (i : Int)).f0 = x.d by rw [HD0.out]] at d0
                  have KX := Aside0.mk (And.intro hBX (And.intro hOX (And.intro hCX (And.intro hgX (And.intro hTw (And.intro hzX hw4))))))
                  clear hgrow hbt hC4 hXb hXQ hzX hw2 hw4 hBX hOX hCX hgX hgS cX f0 f1 f2 f3 f4 f5 r1 hTw cSt hc0 hc1' hc2 hA'))
                obtain ⟨Y, hY⟩ : ∃ Y, X = Y := ⟨_, rfl⟩
                have hgY : g < X.heap.size := by have := KX.out.2.2.2.2.2.1; have := KX.out.2.2.2.2.2.2; have := HI.out.1.gS; omega
                have hQY : w4.heap.size < X.heap.size := by have := KX.out.2.2.2.2.2.1; omega
                have HY0 := And.intro KX.out.1 (And.intro KX.out.2.1.next (And.intro KX.out.2.2.1 (And.intro hgY hQY)))
                have hR1 : Rd X.drew yv yg := (KX.out.2.1.rd HI.out.2.2.2.2.2.2.2.2.1 HI.out.2.2.2.2.2.2.1).kept ((Below.refl _ X).drew)
                have hR2 : Rd X.drew (.slice A3 n3 c3) og := (Rd.of_own KX.out.2.2.2.1 rfl HI.out.2.2.2.2.2.2.2.1).kept ((Below.refl _ X).drew)
                have hTw := KX.out.2.2.2.2.1
                rw [hY] at HY0 hR1 hR2 hTw ⊢
                have HY := Aside0.mk HY0
                have S0 := Aside0.mk hTw.drew
                have hsm : yg = if false then og else [] := by have h3 : yg.Perm [] := HI.out.2.2.1.g; exact h3.eq_nil
                have cS : Calls Try.prog 10 #[.agg #[.bool ok, .int .i64 key, .int .i64 val, .float .f64 rate, .bool asked, yv], .agg #[.bool ok, .int .i64 key, .int .i64 val, .float .f64 rate, .bool asked, .slice A3 n3 c3], .bool false] Y.drew _ := cSame hR1 hR2 ok asked key val rate false hsm HI.out.2.2.2.2.2.1
                clear hY hgY hQY HY0 hR1 hR2 hTw hsm d0
                refine start_ (n := 8) (S := fun w' => Two w' g i w4.heap.size ok key val rate asked yv (.slice A3 n3 c3)) (ds := []) #[false, false, false, false, false, false, false, false] (by kernel_rfl) rfl rfl S0.out (fun hHeld => ?_); refine with_tabW tab19 bits19 (fun HT_ HW_ => ?_)
                refine pure_ (i := 0) (N := some 85) (v := ?_) (a' := ?_) #[true, false, false, false, false, false, false, false] rfl rfl (any_of HT_.out (by kernel_rfl)) (fun _ _ _ h => h) (Or.inl ⟨by rfl, ?_⟩) ?_ ?_
                rotate_left
                · intro w'
                  go_simp
                  with_reducible rfl
                rotate_left
                · simp only [Act.put, List.setIfInBounds_toArray, List.set_cons_zero, List.set_cons_succ, i64_w, i32_w]
                  rfl
                refine pure_ (i := 1) (N := some 86) (v := ?_) (a' := ?_) #[true, true, false, false, false, false, false, false] rfl rfl (any_of HT_.out (by kernel_rfl)) (fun _ _ _ h => h) (Or.inl ⟨by rfl, ?_⟩) ?_ ?_
                rotate_left
                · intro w'
                  go_simp
                  with_reducible rfl
                rotate_left
                · simp only [Act.put, List.setIfInBounds_toArray, List.set_cons_zero, List.set_cons_succ, i64_w, i32_w]
                  rfl
                refine pure_ (i := 2) (N := some 87) (v := ?_) (a' := ?_) #[true, true, true, false, false, false, false, false] rfl rfl (any_of HT_.out (by kernel_rfl)) (fun _ _ _ h => h) (Or.inl ⟨by rfl, ?_⟩) ?_ ?_
                rotate_left
                · intro w'
                  go_simp
                  with_reducible rfl
                rotate_left
                · simp only [Act.put, List.setIfInBounds_toArray, List.set_cons_zero, List.set_cons_succ, i64_w, i32_w]
                  rfl
                refine take_ (i := 3) (N := some 88) (v := ?_) (a' := ?_) #[true, true, true, true, false, false, false, false] rfl rfl (take_ofW HT_.out HW_.out (by kernel_rfl)) (fun _ _ _ h => h) (Or.inl ⟨by rfl, ?_⟩) hHeld ?_ ?_
                rotate_left
                · rintro w' ⟨a0, a1, a2, a3, a4, a5, b0, b1, b2, b3, b4, b5⟩
                  go_simp
                  with_reducible rfl
                rotate_left
                · simp only [Act.put, List.setIfInBounds_toArray, List.set_cons_zero, List.set_cons_succ, i64_w, i32_w]
                  rfl
                refine take_ (i := 4) (N := some 89) (v := ?_) (a' := ?_) #[true, true, true, true, true, false, false, false] rfl rfl (take_ofW HT_.out HW_.out (by kernel_rfl)) (fun _ _ _ h => h) (Or.inl ⟨by rfl, ?_⟩) hHeld ?_ ?_
                rotate_left
                · rintro w' ⟨a0, a1, a2, a3, a4, a5, b0, b1, b2, b3, b4, b5⟩
                  go_simp
                  with_reducible rfl
                rotate_left
                · simp only [Act.put, List.setIfInBounds_toArray, List.set_cons_zero, List.set_cons_succ, i64_w, i32_w]
                  rfl
                refine pure_ (i := 5) (N := some 90) (v := ?_) (a' := ?_) #[true, true, true, true, true, true, false, false] rfl rfl (any_of HT_.out (by kernel_rfl)) (fun _ _ _ h => h) (Or.inl ⟨by rfl, ?_⟩) ?_ ?_
                rotate_left
                · intro w'
                  go_simp
                  with_reducible rfl
                rotate_left
                · simp only [Act.put, List.setIfInBounds_toArray, List.set_cons_zero, List.set_cons_succ, i64_w, i32_w]
                  rfl
                refine one_ (i := 6) (N := some 91) #[true, true, true, true, true, true, true, false] rfl rfl (one_of HT_.out (by kernel_rfl)) (by decide) (fun Kc hKc => ?_)
                refine goes_ Try.func10 (by kernel_rfl) rfl #[.agg #[.bool ok, .int .i64 key, .int .i64 val, .float .f64 rate, .bool asked, yv], .agg #[.bool ok, .int .i64 key, .int .i64 val, .float .f64 rate, .bool asked, (.slice A3 n3 c3)], .bool false] (by rfl) rfl rfl (by (try simp only [List.map_toArray, List.map_cons, List.map_nil]); first | done | rfl) ?_
                refine (cS).mono ?_
                rintro e w6 ⟨rfl, hb6⟩
                refine ⟨_, rfl, ?_⟩
                have SB6 : Aside0 (Two w6 g i w4.heap.size ok key val rate asked yv (.slice A3 n3 c3)) := ⟨Two.kept (W := Y.drew) S0.out hb6 HY.out.2.2.2.1 HY.out.2.2.2.2⟩
                have H6 := Aside0.mk hb6
                clear hb6
                refine hKc.out _ _ SB6.out (fun hHeld => ?_)
                clear hKc Kc
                refine norm_ (a' := ?_) ?_ ?_
                rotate_left
                · show Act.put _ (some 91) _ = _
                  simp only [Act.put, List.setIfInBounds_toArray, List.set_cons_zero, List.set_cons_succ, i64_w, i32_w]
                  rfl
                refine pure_ (i := 7) (N := some 92) (v := ?_) (a' := ?_) #[true, true, true, true, true, true, true, true] rfl rfl (any_of HT_.out (by kernel_rfl)) (fun _ _ _ h => h) (Or.inl ⟨by rfl, ?_⟩) ?_ ?_
                rotate_left
                · intro w'
                  go_simp
                  with_reducible rfl
                rotate_left
                · simp only [Act.put, List.setIfInBounds_toArray, List.set_cons_zero, List.set_cons_succ, i64_w, i32_w]
                  rfl
                refine done_ (done_of HT_.out (by kernel_rfl)) ?_
                clear hHeld
                go_wp2_with (fail)
                go_roundg g'
                case measure => exact Nat.lt_succ_self _
                case rel =>
                  have hzz : w.heap.size ≤ w2.heap.size := HN.out.2.2.2.2.1.size
                  have h6 : Below Y.heap.size Y w6 := ⟨H6.out.os, H6.out.tape, H6.out.output, H6.out.size, H6.out.block⟩
                  have hC6 := HY.out.2.2.1.kept h6
                  have hl' : t'.l = _ := HI.out.2.2.2.1.l
                  have hh' : t'.h = _ := HI.out.2.2.2.1.h
                  have hm' : t'.m = _ := HI.out.2.2.2.1.m
                  refine ⟨i + 1, by first | rfl | exact congrArg _ hwi.out, by rw [Nat.add_right_comm]; exact hi, HY.out.1.trans (h6.mono (by have := HY.out.2.2.2.2; have := KX.out.2.2.2.2.2.2; omega)), Nat.lt_of_lt_of_le (by have := HY.out.2.2.2.2; have := KX.out.2.2.2.2.2.2; omega) h6.size, ⟨vc', ?_⟩, fun g2 hg2 => ?_⟩
                  · rw [HI.out.2.2.2.2.1, ← hl', ← hh', ← hm']; exact hC6
                  · obtain rfl : g = g2 := by injection hg2 with hg2; injection hg2
                    exact HY.out.2.1.kept (h6.mono (by have := HY.out.2.2.2.2; have := KX.out.2.2.2.2.2.2; omega))
              · have H5 := Aside0.mk h5
                clear h5
                go_wp2_with (first | (
                  go_at_call 8
                  refine cSt.mono ?_
                  rintro e w4 ⟨gv, he, hgrow, hbt, vc', hC4⟩
                  unfold sov at he
                  subst he
                  obtain ⟨A3, n3, c3, rfl⟩ : ∃ A3 n3 c3, gv = .slice A3 n3 c3 := by
                    rcases row_cases hgrow with ⟨h1, _⟩ | ⟨g2, c2, h1⟩
                    · exact ⟨_, _, _, h1⟩
                    · exact ⟨_, _, _, h1⟩
                  obtain ⟨X, hX⟩ : ∃ X, w4.alloc (.cells #[.bool ok, .int .i64 key, .int .i64 val, .float .f64 rate, .bool asked, .slice A3 n3 c3] 33) = X := ⟨_, rfl⟩
                  have hXb : Below w4.heap.size w4 X := by rw [← hX]; exact (Below.refl _ w4).alloc (Nat.le_refl _) _
                  have hXQ : X.heap[w4.heap.size]? = some (.cells #[.bool ok, .int .i64 key, .int .i64 val, .float .f64 rate, .bool asked, .slice A3 n3 c3] 33 (0, 0)) := by rw [← hX]; exact heap_alloc_new w4 _
                  have hzX : X.heap.size = w4.heap.size + 1 := by rw [← hX]; simp
                  have hw2 := HN.out.2.2.2.2.1.size
                  have hw4 : w2.heap.size < w4.heap.size := Nat.lt_of_lt_of_le HI.out.2.2.2.2.2.2.2.2.2.2 hbt.b.size
                  have hBX : Below w.heap.size w X := (HI.out.2.1.trans (hbt.b.mono hw2)).trans (hXb.mono (by omega))
                  have hOX : Ou w X g w2.heap.size i os := (HI.out.1.kept hbt.b).kept (hXb.mono (by omega))
                  have hCX := hC4.kept hXb
                  have hgX : X.ownsRow w2.heap.size 44 2 (.slice A3 n3 c3) og.length (pcs og) := rowKept hgrow (fun k c _ hk => (hXb.block k (Array.getElem?_eq_some_iff.1 hk).1).trans hk)
                  have hgS := HI.out.1.gS
                  have cX : ∀ j u, wr.cell? ⟨g, j, none⟩ = some u → X.cell? ⟨g, j, none⟩ = some u := fun j u hu => (hXb.cell (show g < w4.heap.size by omega)).trans ((hbt.b.cell hgS).trans hu)
                  obtain ⟨f0, f1, f2, f3, f4, f5, r1⟩ := FF.out
                  have hTw : Two X g i w4.heap.size ok key val rate asked yv (.slice A3 n3 c3) := ⟨cX _ _ f0, cX _ _ f1, cX _ _ f2, cX _ _ f3, cX _ _ f4, cX _ _ f5, by rw [Lib.cell_of_heap hXQ]; rfl, by rw [Lib.cell_of_heap hXQ]; rfl, by rw [Lib.cell_of_heap hXQ]; rfl, by rw [Lib.cell_of_heap hXQ]; rfl, by rw [Lib.cell_of_heap hXQ]; rfl, by rw [Lib.cell_of_heap hXQ]; rfl⟩
                  obtain ⟨ad', hA', d0, _, _⟩ := at_T36 (Kd.C_below HR.out hBX) (i : Int) (by omega) (by rw [HQ.out]; omega)
                  obtain rfl : ad = ad' := by injection hA'
                  rw [Int.toNat_natCast, show (rd_T36 l (i : Int)).f0 = x.d by rw [HD0.out]] at d0
                  have KX := Aside0.mk (And.intro hBX (And.intro hOX (And.intro hCX (And.intro hgX (And.intro hTw (And.intro hzX hw4))))))
                  clear hgrow hbt hC4 hXb hXQ hzX hw2 hw4 hBX hOX hCX hgX hgS cX f0 f1 f2 f3 f4 f5 r1 hTw cSt hc0 hc1' hc2 hA'))
                have hp : yg.Perm og := HI.out.2.2.1.g.trans HI.out.2.2.2.1.gone.symm
                have hnd : og.Nodup := by
                  have h2 : goneOf N (stAt N ops i) x = (stAt N ops i).l := by have h5 := H5.out; unfold goneOf; rw [if_neg (by omega), if_neg (by omega), if_pos h5]
                  have h3 : og.Perm (stAt N ops i).l := by rw [← h2]; exact HI.out.2.2.2.1.gone
                  exact h3.nodup_iff.2 (nodup_of_fst HI.out.2.2.2.2.2.2.2.2.2.1.nd)
                have hR1 : Rd X.drew yv yg := (KX.out.2.1.rd HI.out.2.2.2.2.2.2.2.2.1 HI.out.2.2.2.2.2.2.1).kept ((Below.refl _ X).drew)
                have hR2 : Rd X.drew (.slice A3 n3 c3) og := (Rd.of_own KX.out.2.2.2.1 rfl HI.out.2.2.2.2.2.2.2.1).kept ((Below.refl _ X).drew)
                have cPu := cPurged hR1 hR2 hp.length_eq (fun z hz => by rw [hp.count_eq]; exact count_one hnd hz)
                have S5 : Aside0 (X.cell? ⟨g, i * 6 + 5, none⟩ = some yv ∧ X.cell? ⟨w4.heap.size, 5, none⟩ = some (.slice A3 n3 c3)) := ⟨⟨KX.out.2.2.2.2.1.a5, KX.out.2.2.2.2.1.b5⟩⟩
                clear hp hnd hR1 hR2 d0
                refine start_ (n := 9) (S := fun w' => w'.cell? ⟨g, i * 6 + 5, none⟩ = some yv ∧ w'.cell? ⟨w4.heap.size, 5, none⟩ = some (.slice A3 n3 c3)) (ds := []) #[false, false, false, false, false, false, false, false, false] (by kernel_rfl) rfl rfl S5.out (fun hHeld => ?_); refine with_tabW tab16 bits16 (fun HT_ HW_ => ?_)
                refine pure_ (i := 0) (N := some 70) (v := ?_) (a' := ?_) #[true, false, false, false, false, false, false, false, false] rfl rfl (any_of HT_.out (by kernel_rfl)) (fun _ _ _ h => h) (Or.inl ⟨by rfl, ?_⟩) ?_ ?_
                rotate_left
                · intro w'
                  go_simp
                  with_reducible rfl
                rotate_left
                · simp only [Act.put, List.setIfInBounds_toArray, List.set_cons_zero, List.set_cons_succ, i64_w, i32_w]
                  rfl
                refine pure_ (i := 1) (N := some 71) (v := ?_) (a' := ?_) #[true, true, false, false, false, false, false, false, false] rfl rfl (any_of HT_.out (by kernel_rfl)) (fun _ _ _ h => h) (Or.inl ⟨by rfl, ?_⟩) ?_ ?_
                rotate_left
                · intro w'
                  go_simp
                  with_reducible rfl
                rotate_left
                · simp only [Act.put, List.setIfInBounds_toArray, List.set_cons_zero, List.set_cons_succ, i64_w, i32_w]
                  rfl
                refine pure_ (i := 2) (N := some 72) (v := ?_) (a' := ?_) #[true, true, true, false, false, false, false, false, false] rfl rfl (any_of HT_.out (by kernel_rfl)) (fun _ _ _ h => h) (Or.inl ⟨by rfl, ?_⟩) ?_ ?_
                rotate_left
                · intro w'
                  go_simp
                  with_reducible rfl
                rotate_left
                · simp only [Act.put, List.setIfInBounds_toArray, List.set_cons_zero, List.set_cons_succ, i64_w, i32_w]
                  rfl
                refine pure_ (i := 3) (N := some 73) (v := ?_) (a' := ?_) #[true, true, true, true, false, false, false, false, false] rfl rfl (any_of HT_.out (by kernel_rfl)) (fun _ _ _ h => h) (Or.inl ⟨by rfl, ?_⟩) ?_ ?_
                rotate_left
                · intro w'
                  go_simp
                  with_reducible rfl
                rotate_left
                · simp only [Act.put, List.setIfInBounds_toArray, List.set_cons_zero, List.set_cons_succ, i64_w, i32_w]
                  rfl
                refine take_ (i := 4) (N := some 74) (v := ?_) (a' := ?_) #[true, true, true, true, true, false, false, false, false] rfl rfl (take_ofW HT_.out HW_.out (by kernel_rfl)) (fun _ _ _ h => h) (Or.inl ⟨by rfl, ?_⟩) hHeld ?_ ?_
                rotate_left
                · rintro w' ⟨s0, s1⟩
                  go_simp
                  with_reducible rfl
                rotate_left
                · simp only [Act.put, List.setIfInBounds_toArray, List.set_cons_zero, List.set_cons_succ, i64_w, i32_w]
                  rfl
                refine pure_ (i := 5) (N := some 75) (v := ?_) (a' := ?_) #[true, true, true, true, true, true, false, false, false] rfl rfl (any_of HT_.out (by kernel_rfl)) (fun _ _ _ h => h) (Or.inl ⟨by rfl, ?_⟩) ?_ ?_
                rotate_left
                · intro w'
                  go_simp
                  with_reducible rfl
                rotate_left
                · simp only [Act.put, List.setIfInBounds_toArray, List.set_cons_zero, List.set_cons_succ, i64_w, i32_w]
                  rfl
                refine take_ (i := 6) (N := some 76) (v := ?_) (a' := ?_) #[true, true, true, true, true, true, true, false, false] rfl rfl (take_ofW HT_.out HW_.out (by kernel_rfl)) (fun _ _ _ h => h) (Or.inl ⟨by rfl, ?_⟩) hHeld ?_ ?_
                rotate_left
                · rintro w' ⟨s0, s1⟩
                  go_simp
                  with_reducible rfl
                rotate_left
                · simp only [Act.put, List.setIfInBounds_toArray, List.set_cons_zero, List.set_cons_succ, i64_w, i32_w]
                  rfl
                refine one_ (i := 7) (N := some 77) #[true, true, true, true, true, true, true, true, false] rfl rfl (one_of HT_.out (by kernel_rfl)) (by decide) (fun Kc hKc => ?_)
                refine goes_ Try.func9 (by kernel_rfl) rfl #[yv, .slice A3 n3 c3] (by rfl) rfl rfl (by (try simp only [List.map_toArray, List.map_cons, List.map_nil]); first | done | rfl) ?_
                refine (cPu).mono ?_
                rintro e w5 ⟨rfl, hb5⟩
                refine ⟨_, rfl, ?_⟩
                have hTw5 : Two w5 g i w4.heap.size ok key val rate asked yv (.slice A3 n3 c3) := Two.kept (W := X.drew) KX.out.2.2.2.2.1.drew hb5 (show g < X.heap.size by have h1 := KX.out.2.2.2.2.2.1; have h2 := KX.out.2.2.2.2.2.2; have h3 := HI.out.1.gS; omega) (show w4.heap.size < X.heap.size by have h1 := KX.out.2.2.2.2.2.1; omega)
                have SB5 : Aside0 (w5.cell? ⟨g, i * 6 + 5, none⟩ = some yv ∧ w5.cell? ⟨w4.heap.size, 5, none⟩ = some (.slice A3 n3 c3)) := ⟨⟨hTw5.a5, hTw5.b5⟩⟩
                have K5 := Aside0.mk (And.intro hb5 hTw5)
                clear hb5 hTw5
                refine hKc.out _ _ SB5.out (fun hHeld => ?_)
                clear hKc Kc
                refine norm_ (a' := ?_) ?_ ?_
                rotate_left
                · show Act.put _ (some 77) _ = _
                  simp only [Act.put, List.setIfInBounds_toArray, List.set_cons_zero, List.set_cons_succ, i64_w, i32_w]
                  rfl
                refine pure_ (i := 8) (N := some 78) (v := ?_) (a' := ?_) #[true, true, true, true, true, true, true, true, true] rfl rfl (any_of HT_.out (by kernel_rfl)) (fun _ _ _ h => h) (Or.inl ⟨by rfl, ?_⟩) ?_ ?_
                rotate_left
                · intro w'
                  go_simp
                  with_reducible rfl
                rotate_left
                · simp only [Act.put, List.setIfInBounds_toArray, List.set_cons_zero, List.set_cons_succ, i64_w, i32_w]
                  rfl
                refine done_ (done_of HT_.out (by kernel_rfl)) ?_
                clear hHeld
                have hb5 : Below X.heap.size X w5 := ⟨K5.out.1.os, K5.out.1.tape, K5.out.1.output, K5.out.1.size, K5.out.1.block⟩
                have hO5 : Ou w w5 g w2.heap.size i os := KX.out.2.1.kept (hb5.mono (by have := KX.out.2.2.2.2.2; omega))
                have hC5 := KX.out.2.2.1.kept hb5
                have f5 := K5.out.2.a5
                have q5 := K5.out.2.b5
                obtain ⟨cs5, hcs5, _⟩ := hO5.blk
                have r5 : ∀ j, w5.frozen? ⟨g, j, none⟩ = false := fun j => by rw [Lib.frozen_of_heap hcs5]
                have hz5 : w4.heap.size < w5.heap.size := Nat.lt_of_lt_of_le (by have := KX.out.2.2.2.2.2.1; omega) hb5.size
                have hg5 : g < w4.heap.size := by have := KX.out.2.2.2.2.2.2; have := HI.out.1.gS; omega
                have hYc := lowSet hC5 (i * 6 + 5) (.slice A3 n3 c3) HI.out.1.gS
                have hYo := hO5.put 5 (by omega) (.slice A3 n3 c3)
                have hYg : (w5.setCell ⟨g, i * 6 + 5, none⟩ (.slice A3 n3 c3)).ownsRow w2.heap.size 44 2 (.slice A3 n3 c3) og.length (pcs og) := rowKept KX.out.2.2.2.1 (fun k c e hk => (Ll.set_other w5 _ (show k ≠ g by have := (KX.out.2.2.2.1.lt k e).1; have := HI.out.1.gS; omega)).trans ((hb5.block k (Array.getElem?_eq_some_iff.1 hk).1).trans hk))
                have hYt := twoPut K5.out.2 hcs5 (by omega)
                have hYb : Below w.heap.size w (w5.setCell ⟨g, i * 6 + 5, none⟩ (.slice A3 n3 c3)) := (KX.out.1.trans (hb5.mono (by have := KX.out.1.size; omega))).setCell (show w.heap.size ≤ g from HI.out.1.gB) _
                have K8 := Aside0.mk (And.intro hYc (And.intro hYo (And.intro hYg (And.intro hYt hYb))))
                have K9 := Aside0.mk (And.intro hz5 hg5)
                clear hb5 hO5 hC5 hcs5 hYc hYo hYg hYt hYb hz5 hg5
                go_wp2_with (fail)
                obtain ⟨Y, hY⟩ : ∃ Y, w5.setCell ⟨g, i * 6 + 5, none⟩ (.slice A3 n3 c3) = Y := ⟨_, rfl⟩
                have hYz : Y.heap.size = w5.heap.size := by rw [← hY]; exact Lcw.put_size _ _ _
                rw [hY] at K8 ⊢
                clear hY f5 q5 r5
                have S0 : Aside0 (Two Y.drew g i w4.heap.size ok key val rate asked (.slice A3 n3 c3) (.slice A3 n3 c3)) := ⟨K8.out.2.2.2.1.drew⟩
                have HY := Aside0.mk (show Below w.heap.size w Y ∧ Ou w Y g w2.heap.size (i + 1) os ∧ Cs w2.heap.size Y w2.heap.size N vc' t'.h t'.m t'.l ∧ g < Y.heap.size ∧ w4.heap.size < Y.heap.size from ⟨K8.out.2.2.2.2, K8.out.2.1, K8.out.1, by rw [hYz]; have := K9.out.1; have := K9.out.2; omega, by rw [hYz]; exact K9.out.1⟩)
                have hR2 : Rd Y.drew (.slice A3 n3 c3) og := (Rd.of_own K8.out.2.2.1 rfl HI.out.2.2.2.2.2.2.2.1).kept ((Below.refl _ Y).drew)
                have cS : Calls Try.prog 10 #[.agg #[.bool ok, .int .i64 key, .int .i64 val, .float .f64 rate, .bool asked, .slice A3 n3 c3], .agg #[.bool ok, .int .i64 key, .int .i64 val, .float .f64 rate, .bool asked, .slice A3 n3 c3], .bool true] Y.drew _ := cSame hR2 hR2 ok asked key val rate true rfl HI.out.2.2.2.2.2.1
                clear hR2 hYz
                refine start_ (n := 8) (S := fun w' => Two w' g i w4.heap.size ok key val rate asked (.slice A3 n3 c3) (.slice A3 n3 c3)) (ds := []) #[false, false, false, false, false, false, false, false] (by kernel_rfl) rfl rfl S0.out (fun hHeld => ?_); refine with_tabW tab19 bits19 (fun HT_ HW_ => ?_)
                refine pure_ (i := 0) (N := some 85) (v := ?_) (a' := ?_) #[true, false, false, false, false, false, false, false] rfl rfl (any_of HT_.out (by kernel_rfl)) (fun _ _ _ h => h) (Or.inl ⟨by rfl, ?_⟩) ?_ ?_
                rotate_left
                · intro w'
                  go_simp
                  with_reducible rfl
                rotate_left
                · simp only [Act.put, List.setIfInBounds_toArray, List.set_cons_zero, List.set_cons_succ, i64_w, i32_w]
                  rfl
                refine pure_ (i := 1) (N := some 86) (v := ?_) (a' := ?_) #[true, true, false, false, false, false, false, false] rfl rfl (any_of HT_.out (by kernel_rfl)) (fun _ _ _ h => h) (Or.inl ⟨by rfl, ?_⟩) ?_ ?_
                rotate_left
                · intro w'
                  go_simp
                  with_reducible rfl
                rotate_left
                · simp only [Act.put, List.setIfInBounds_toArray, List.set_cons_zero, List.set_cons_succ, i64_w, i32_w]
                  rfl
                refine pure_ (i := 2) (N := some 87) (v := ?_) (a' := ?_) #[true, true, true, false, false, false, false, false] rfl rfl (any_of HT_.out (by kernel_rfl)) (fun _ _ _ h => h) (Or.inl ⟨by rfl, ?_⟩) ?_ ?_
                rotate_left
                · intro w'
                  go_simp
                  with_reducible rfl
                rotate_left
                · simp only [Act.put, List.setIfInBounds_toArray, List.set_cons_zero, List.set_cons_succ, i64_w, i32_w]
                  rfl
                refine take_ (i := 3) (N := some 88) (v := ?_) (a' := ?_) #[true, true, true, true, false, false, false, false] rfl rfl (take_ofW HT_.out HW_.out (by kernel_rfl)) (fun _ _ _ h => h) (Or.inl ⟨by rfl, ?_⟩) hHeld ?_ ?_
                rotate_left
                · rintro w' ⟨a0, a1, a2, a3, a4, a5, b0, b1, b2, b3, b4, b5⟩
                  go_simp
                  with_reducible rfl
                rotate_left
                · simp only [Act.put, List.setIfInBounds_toArray, List.set_cons_zero, List.set_cons_succ, i64_w, i32_w]
                  rfl
                refine take_ (i := 4) (N := some 89) (v := ?_) (a' := ?_) #[true, true, true, true, true, false, false, false] rfl rfl (take_ofW HT_.out HW_.out (by kernel_rfl)) (fun _ _ _ h => h) (Or.inl ⟨by rfl, ?_⟩) hHeld ?_ ?_
                rotate_left
                · rintro w' ⟨a0, a1, a2, a3, a4, a5, b0, b1, b2, b3, b4, b5⟩
                  go_simp
                  with_reducible rfl
                rotate_left
                · simp only [Act.put, List.setIfInBounds_toArray, List.set_cons_zero, List.set_cons_succ, i64_w, i32_w]
                  rfl
                refine pure_ (i := 5) (N := some 90) (v := ?_) (a' := ?_) #[true, true, true, true, true, true, false, false] rfl rfl (any_of HT_.out (by kernel_rfl)) (fun _ _ _ h => h) (Or.inl ⟨by rfl, ?_⟩) ?_ ?_
                rotate_left
                · intro w'
                  go_simp
                  with_reducible rfl
                rotate_left
                · simp only [Act.put, List.setIfInBounds_toArray, List.set_cons_zero, List.set_cons_succ, i64_w, i32_w]
                  rfl
                refine one_ (i := 6) (N := some 91) #[true, true, true, true, true, true, true, false] rfl rfl (one_of HT_.out (by kernel_rfl)) (by decide) (fun Kc hKc => ?_)
                refine goes_ Try.func10 (by kernel_rfl) rfl #[.agg #[.bool ok, .int .i64 key, .int .i64 val, .float .f64 rate, .bool asked, (.slice A3 n3 c3)], .agg #[.bool ok, .int .i64 key, .int .i64 val, .float .f64 rate, .bool asked, (.slice A3 n3 c3)], .bool true] (by rfl) rfl rfl (by (try simp only [List.map_toArray, List.map_cons, List.map_nil]); first | done | rfl) ?_
                refine (cS).mono ?_
                rintro e w6 ⟨rfl, hb6⟩
                refine ⟨_, rfl, ?_⟩
                have SB6 : Aside0 (Two w6 g i w4.heap.size ok key val rate asked (.slice A3 n3 c3) (.slice A3 n3 c3)) := ⟨Two.kept (W := Y.drew) S0.out hb6 HY.out.2.2.2.1 HY.out.2.2.2.2⟩
                have H6 := Aside0.mk hb6
                clear hb6
                refine hKc.out _ _ SB6.out (fun hHeld => ?_)
                clear hKc Kc
                refine norm_ (a' := ?_) ?_ ?_
                rotate_left
                · show Act.put _ (some 91) _ = _
                  simp only [Act.put, List.setIfInBounds_toArray, List.set_cons_zero, List.set_cons_succ, i64_w, i32_w]
                  rfl
                refine pure_ (i := 7) (N := some 92) (v := ?_) (a' := ?_) #[true, true, true, true, true, true, true, true] rfl rfl (any_of HT_.out (by kernel_rfl)) (fun _ _ _ h => h) (Or.inl ⟨by rfl, ?_⟩) ?_ ?_
                rotate_left
                · intro w'
                  go_simp
                  with_reducible rfl
                rotate_left
                · simp only [Act.put, List.setIfInBounds_toArray, List.set_cons_zero, List.set_cons_succ, i64_w, i32_w]
                  rfl
                refine done_ (done_of HT_.out (by kernel_rfl)) ?_
                clear hHeld
                go_wp2_with (fail)
                go_roundg g'
                case measure => exact Nat.lt_succ_self _
                case rel =>
                  have hzz : w.heap.size ≤ w2.heap.size := HN.out.2.2.2.2.1.size
                  have h6 : Below Y.heap.size Y w6 := ⟨H6.out.os, H6.out.tape, H6.out.output, H6.out.size, H6.out.block⟩
                  have hC6 := HY.out.2.2.1.kept h6
                  have hl' : t'.l = _ := HI.out.2.2.2.1.l
                  have hh' : t'.h = _ := HI.out.2.2.2.1.h
                  have hm' : t'.m = _ := HI.out.2.2.2.1.m
                  refine ⟨i + 1, by first | rfl | exact congrArg _ hwi.out, by rw [Nat.add_right_comm]; exact hi, HY.out.1.trans (h6.mono (by have := HY.out.2.2.2.2; have := KX.out.2.2.2.2.2.2; omega)), Nat.lt_of_lt_of_le (by have := HY.out.2.2.2.2; have := KX.out.2.2.2.2.2.2; omega) h6.size, ⟨vc', ?_⟩, fun g2 hg2 => ?_⟩
                  · rw [HI.out.2.2.2.2.1, ← hl', ← hh', ← hm']; exact hC6
                  · obtain rfl : g = g2 := by injection hg2 with hg2; injection hg2
                    exact HY.out.2.1.kept (h6.mono (by have := HY.out.2.2.2.2; have := KX.out.2.2.2.2.2.2; omega))
            · have h5b : (x.d == 5) = false := by rw [beq_eq_false_iff_ne]; exact h5
              have H5 := Aside0.mk h5
              clear h5
              go_wp2_with (first | (
                go_at_call 8
                refine cSt.mono ?_
                rintro e w4 ⟨gv, he, hgrow, hbt, vc', hC4⟩
                unfold sov at he
                subst he
                obtain ⟨A3, n3, c3, rfl⟩ : ∃ A3 n3 c3, gv = .slice A3 n3 c3 := by
                  rcases row_cases hgrow with ⟨h1, _⟩ | ⟨g2, c2, h1⟩
                  · exact ⟨_, _, _, h1⟩
                  · exact ⟨_, _, _, h1⟩
                obtain ⟨X, hX⟩ : ∃ X, w4.alloc (.cells #[.bool ok, .int .i64 key, .int .i64 val, .float .f64 rate, .bool asked, .slice A3 n3 c3] 33) = X := ⟨_, rfl⟩
                have hXb : Below w4.heap.size w4 X := by rw [← hX]; exact (Below.refl _ w4).alloc (Nat.le_refl _) _
                have hXQ : X.heap[w4.heap.size]? = some (.cells #[.bool ok, .int .i64 key, .int .i64 val, .float .f64 rate, .bool asked, .slice A3 n3 c3] 33 (0, 0)) := by rw [← hX]; exact heap_alloc_new w4 _
                have hzX : X.heap.size = w4.heap.size + 1 := by rw [← hX]; simp
                have hw2 := HN.out.2.2.2.2.1.size
                have hw4 : w2.heap.size < w4.heap.size := Nat.lt_of_lt_of_le HI.out.2.2.2.2.2.2.2.2.2.2 hbt.b.size
                have hBX : Below w.heap.size w X := (HI.out.2.1.trans (hbt.b.mono hw2)).trans (hXb.mono (by omega))
                have hOX : Ou w X g w2.heap.size i os := (HI.out.1.kept hbt.b).kept (hXb.mono (by omega))
                have hCX := hC4.kept hXb
                have hgX : X.ownsRow w2.heap.size 44 2 (.slice A3 n3 c3) og.length (pcs og) := rowKept hgrow (fun k c _ hk => (hXb.block k (Array.getElem?_eq_some_iff.1 hk).1).trans hk)
                have hgS := HI.out.1.gS
                have cX : ∀ j u, wr.cell? ⟨g, j, none⟩ = some u → X.cell? ⟨g, j, none⟩ = some u := fun j u hu => (hXb.cell (show g < w4.heap.size by omega)).trans ((hbt.b.cell hgS).trans hu)
                obtain ⟨f0, f1, f2, f3, f4, f5, r1⟩ := FF.out
                have hTw : Two X g i w4.heap.size ok key val rate asked yv (.slice A3 n3 c3) := ⟨cX _ _ f0, cX _ _ f1, cX _ _ f2, cX _ _ f3, cX _ _ f4, cX _ _ f5, by rw [Lib.cell_of_heap hXQ]; rfl, by rw [Lib.cell_of_heap hXQ]; rfl, by rw [Lib.cell_of_heap hXQ]; rfl, by rw [Lib.cell_of_heap hXQ]; rfl, by rw [Lib.cell_of_heap hXQ]; rfl, by rw [Lib.cell_of_heap hXQ]; rfl⟩
                obtain ⟨ad', hA', d0, _, _⟩ := at_T36 (Kd.C_below HR.out hBX) (i : Int) (by omega) (by rw [HQ.out]; omega)
                obtain rfl : ad = ad' := by injection hA'
                rw [Int.toNat_natCast, show (rd_T36 l (i : Int)).f0 = x.d by rw [HD0.out]] at d0
                have KX := Aside0.mk (And.intro hBX (And.intro hOX (And.intro hCX (And.intro hgX (And.intro hTw (And.intro hzX hw4))))))
                clear hgrow hbt hC4 hXb hXQ hzX hw2 hw4 hBX hOX hCX hgX hgS cX f0 f1 f2 f3 f4 f5 r1 hTw cSt hc0 hc1' hc2 hA'))
              obtain ⟨Y, hY⟩ : ∃ Y, X = Y := ⟨_, rfl⟩
              have hgY : g < X.heap.size := by have := KX.out.2.2.2.2.2.1; have := KX.out.2.2.2.2.2.2; have := HI.out.1.gS; omega
              have hQY : w4.heap.size < X.heap.size := by have := KX.out.2.2.2.2.2.1; omega
              have HY0 := And.intro KX.out.1 (And.intro KX.out.2.1.next (And.intro KX.out.2.2.1 (And.intro hgY hQY)))
              have hR1 : Rd X.drew yv yg := (KX.out.2.1.rd HI.out.2.2.2.2.2.2.2.2.1 HI.out.2.2.2.2.2.2.1).kept ((Below.refl _ X).drew)
              have hR2 : Rd X.drew (.slice A3 n3 c3) og := (Rd.of_own KX.out.2.2.2.1 rfl HI.out.2.2.2.2.2.2.2.1).kept ((Below.refl _ X).drew)
              have hTw := KX.out.2.2.2.2.1
              rw [hY] at HY0 hR1 hR2 hTw ⊢
              have HY := Aside0.mk HY0
              have S0 := Aside0.mk hTw.drew
              have hsm : yg = if cb then og else [] := by have h3 : yg = told cb (goneOf N (stAt N ops i) x) := HI.out.2.2.1.e H5.out; have h4 : og = goneOf N (stAt N ops i) x := HI.out.2.2.2.1.eq H5.out; rw [h3, h4]; rfl
              have cS : Calls Try.prog 10 #[.agg #[.bool ok, .int .i64 key, .int .i64 val, .float .f64 rate, .bool asked, yv], .agg #[.bool ok, .int .i64 key, .int .i64 val, .float .f64 rate, .bool asked, .slice A3 n3 c3], .bool cb] Y.drew _ := cSame hR1 hR2 ok asked key val rate cb hsm HI.out.2.2.2.2.2.1
              clear hY hgY hQY HY0 hR1 hR2 hTw hsm d0
              refine start_ (n := 8) (S := fun w' => Two w' g i w4.heap.size ok key val rate asked yv (.slice A3 n3 c3)) (ds := []) #[false, false, false, false, false, false, false, false] (by kernel_rfl) rfl rfl S0.out (fun hHeld => ?_); refine with_tabW tab19 bits19 (fun HT_ HW_ => ?_)
              refine pure_ (i := 0) (N := some 85) (v := ?_) (a' := ?_) #[true, false, false, false, false, false, false, false] rfl rfl (any_of HT_.out (by kernel_rfl)) (fun _ _ _ h => h) (Or.inl ⟨by rfl, ?_⟩) ?_ ?_
              rotate_left
              · intro w'
                go_simp
                with_reducible rfl
              rotate_left
              · simp only [Act.put, List.setIfInBounds_toArray, List.set_cons_zero, List.set_cons_succ, i64_w, i32_w]
                rfl
              refine pure_ (i := 1) (N := some 86) (v := ?_) (a' := ?_) #[true, true, false, false, false, false, false, false] rfl rfl (any_of HT_.out (by kernel_rfl)) (fun _ _ _ h => h) (Or.inl ⟨by rfl, ?_⟩) ?_ ?_
              rotate_left
              · intro w'
                go_simp
                with_reducible rfl
              rotate_left
              · simp only [Act.put, List.setIfInBounds_toArray, List.set_cons_zero, List.set_cons_succ, i64_w, i32_w]
                rfl
              refine pure_ (i := 2) (N := some 87) (v := ?_) (a' := ?_) #[true, true, true, false, false, false, false, false] rfl rfl (any_of HT_.out (by kernel_rfl)) (fun _ _ _ h => h) (Or.inl ⟨by rfl, ?_⟩) ?_ ?_
              rotate_left
              · intro w'
                go_simp
                with_reducible rfl
              rotate_left
              · simp only [Act.put, List.setIfInBounds_toArray, List.set_cons_zero, List.set_cons_succ, i64_w, i32_w]
                rfl
              refine take_ (i := 3) (N := some 88) (v := ?_) (a' := ?_) #[true, true, true, true, false, false, false, false] rfl rfl (take_ofW HT_.out HW_.out (by kernel_rfl)) (fun _ _ _ h => h) (Or.inl ⟨by rfl, ?_⟩) hHeld ?_ ?_
              rotate_left
              · rintro w' ⟨a0, a1, a2, a3, a4, a5, b0, b1, b2, b3, b4, b5⟩
                go_simp
                with_reducible rfl
              rotate_left
              · simp only [Act.put, List.setIfInBounds_toArray, List.set_cons_zero, List.set_cons_succ, i64_w, i32_w]
                rfl
              refine take_ (i := 4) (N := some 89) (v := ?_) (a' := ?_) #[true, true, true, true, true, false, false, false] rfl rfl (take_ofW HT_.out HW_.out (by kernel_rfl)) (fun _ _ _ h => h) (Or.inl ⟨by rfl, ?_⟩) hHeld ?_ ?_
              rotate_left
              · rintro w' ⟨a0, a1, a2, a3, a4, a5, b0, b1, b2, b3, b4, b5⟩
                go_simp
                with_reducible rfl
              rotate_left
              · simp only [Act.put, List.setIfInBounds_toArray, List.set_cons_zero, List.set_cons_succ, i64_w, i32_w]
                rfl
              refine pure_ (i := 5) (N := some 90) (v := ?_) (a' := ?_) #[true, true, true, true, true, true, false, false] rfl rfl (any_of HT_.out (by kernel_rfl)) (fun _ _ _ h => h) (Or.inl ⟨by rfl, ?_⟩) ?_ ?_
              rotate_left
              · intro w'
                go_simp
                with_reducible rfl
              rotate_left
              · simp only [Act.put, List.setIfInBounds_toArray, List.set_cons_zero, List.set_cons_succ, i64_w, i32_w]
                rfl
              refine one_ (i := 6) (N := some 91) #[true, true, true, true, true, true, true, false] rfl rfl (one_of HT_.out (by kernel_rfl)) (by decide) (fun Kc hKc => ?_)
              refine goes_ Try.func10 (by kernel_rfl) rfl #[.agg #[.bool ok, .int .i64 key, .int .i64 val, .float .f64 rate, .bool asked, yv], .agg #[.bool ok, .int .i64 key, .int .i64 val, .float .f64 rate, .bool asked, (.slice A3 n3 c3)], .bool cb] (by rfl) rfl rfl (by (try simp only [List.map_toArray, List.map_cons, List.map_nil]); first | done | rfl) ?_
              refine (cS).mono ?_
              rintro e w6 ⟨rfl, hb6⟩
              refine ⟨_, rfl, ?_⟩
              have SB6 : Aside0 (Two w6 g i w4.heap.size ok key val rate asked yv (.slice A3 n3 c3)) := ⟨Two.kept (W := Y.drew) S0.out hb6 HY.out.2.2.2.1 HY.out.2.2.2.2⟩
              have H6 := Aside0.mk hb6
              clear hb6
              refine hKc.out _ _ SB6.out (fun hHeld => ?_)
              clear hKc Kc
              refine norm_ (a' := ?_) ?_ ?_
              rotate_left
              · show Act.put _ (some 91) _ = _
                simp only [Act.put, List.setIfInBounds_toArray, List.set_cons_zero, List.set_cons_succ, i64_w, i32_w]
                rfl
              refine pure_ (i := 7) (N := some 92) (v := ?_) (a' := ?_) #[true, true, true, true, true, true, true, true] rfl rfl (any_of HT_.out (by kernel_rfl)) (fun _ _ _ h => h) (Or.inl ⟨by rfl, ?_⟩) ?_ ?_
              rotate_left
              · intro w'
                go_simp
                with_reducible rfl
              rotate_left
              · simp only [Act.put, List.setIfInBounds_toArray, List.set_cons_zero, List.set_cons_succ, i64_w, i32_w]
                rfl
              refine done_ (done_of HT_.out (by kernel_rfl)) ?_
              clear hHeld
              go_wp2_with (fail)
              go_roundg g'
              case measure => exact Nat.lt_succ_self _
              case rel =>
                have hzz : w.heap.size ≤ w2.heap.size := HN.out.2.2.2.2.1.size
                have h6 : Below Y.heap.size Y w6 := ⟨H6.out.os, H6.out.tape, H6.out.output, H6.out.size, H6.out.block⟩
                have hC6 := HY.out.2.2.1.kept h6
                have hl' : t'.l = _ := HI.out.2.2.2.1.l
                have hh' : t'.h = _ := HI.out.2.2.2.1.h
                have hm' : t'.m = _ := HI.out.2.2.2.1.m
                refine ⟨i + 1, by first | rfl | exact congrArg _ hwi.out, by rw [Nat.add_right_comm]; exact hi, HY.out.1.trans (h6.mono (by have := HY.out.2.2.2.2; have := KX.out.2.2.2.2.2.2; omega)), Nat.lt_of_lt_of_le (by have := HY.out.2.2.2.2; have := KX.out.2.2.2.2.2.2; omega) h6.size, ⟨vc', ?_⟩, fun g2 hg2 => ?_⟩
                · rw [HI.out.2.2.2.2.1, ← hl', ← hh', ← hm']; exact hC6
                · obtain rfl : g = g2 := by injection hg2 with hg2; injection hg2
                  exact HY.out.2.1.kept (h6.mono (by have := HY.out.2.2.2.2; have := KX.out.2.2.2.2.2.2; omega))
            -- END ROUND
          · obtain rfl : gk = 0 := by omega
            obtain rfl : i = q := by omega
            have HX := Aside0.mk hBx
            clear hBx hCs hOu hSz
            go_wp2_with (fail)
            go_ret
            exact ⟨rfl, HX.out⟩
end Go.Proofs.Ytjhmcpdnmfhodaa.Lem
end

section
/- The contract of the law, in the print's own form (the walk: Lem). The calls are those of CfBody; -- structure S36 where -/
namespace Go.Proofs.Ytjhmcpdnmfhodaa.GFnCache
open Go.RowKit Go.Proofs.YtjhmcpdnmfhodaaW.PrintWords
set_option linter.unusedVariables false
abbrev S36 := GCfBody.S36
abbrev k36 := GCfBody.k36
abbrev z36 := GCfBody.z36
/-! ### laws_FnCache: function 3 -/
noncomputable def laws_FnCache.f (a0 : Int) (a1 : Bool) (l2 : List (S36)) : Option (Bool) := @ite _ (∀ x ∈ l2, Lrc.In64 x.f1) (Classical.propDecidable _) (some true) none
theorem laws_FnCache.calls (a0 : Int) (a1 : Bool) (A2 : Option Addr) (c2 : Nat) (l2 : List (S36)) (r : Bool) (w : World) (hr2 : Kd.C k36 w A2 l2.length l2) (hc2 : l2.length ≤ c2) (h : laws_FnCache.f a0 a1 l2 = some r) :
    Calls Try.prog 3 #[.int .i64 a0, .bool a1, .slice A2 l2.length c2] w fun e w' => e = .returned (.bool r) ∧ Below w.heap.size w w' := by
  unfold laws_FnCache.f at h
  by_cases hg : ∀ x ∈ l2, Lrc.In64 x.f1
  · rw [if_pos hg] at h
    obtain rfl := Option.some.inj h
    exact Lem.law_any a0 a1 A2 c2 l2 w hr2 hc2 hg
  · rw [if_neg hg] at h
    exact absurd h (by simp)
end Go.Proofs.Ytjhmcpdnmfhodaa.GFnCache
end
