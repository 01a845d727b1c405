/- SortedKeys: sort.Slice by its contract. -/
import Derived.Test.YtokdamfalhcnnaaMx
import Derived.Test.YtokdamfalhcnnaaShelf
import Derived.Shelf.GgSortFunc.Whole
import Derived.Shelf.GgSortFunc.Tiny
import Derived.Deep.QuietTactic
import Derived.Lib.SortBridge
import Derived.Sort.LotA
section
/- SortedKeys: sort.Slice by its contract. -/
namespace Go.Proofs.Ytokdamfalhcnnaa.Sk
open Go Go.Shelf Go.Lib Go.Sort Go.Maps Go.ChangeMaps Go.MapKept Go.RowKit Go.Proofs.YtokdamfalhcnnaaW.PrintWords Go.Proofs.YtokdamfalhcnnaaW.PrintLast Go.Proofs.YtokdamfalhcnnaaW.PrintMore Mp Mq Mr Ms Mt Mu GMpBody Small Mv Mo Mw Mx

set_option linter.all false
set_option maxRecDepth 1000000
set_option maxHeartbeats 4000000
noncomputable def siT : TypeInfo := (Try.prog.info? 22).get (by kernel_rfl)
noncomputable def siE : TypeInfo := (Try.prog.info? 3).get (by kernel_rfl)
theorem siK (n : Nat) (h2 : 2 ≤ n) : Lib.swapperK n siE 2 = 5 := by
  have a : siE.hasPointers = false := by kernel_rfl
  have b : siE.bytes = 8 := by kernel_rfl
  have c : (n == 0) = false := by simp; omega
  have d : (n == 1) = false := by simp; omega
  simp [Lib.swapperK, a, b, c, d]
theorem asInt3 (x : Int) (w : World) : (Instr.typeAssert (.iface 3 (.int .i64 x)) 20 3 true).run Try.prog w = .ok (.tuple #[.int .i64 x, .bool true]) w := by kernel_rfl
/-- the literal: which of two keys is smaller -/
theorem lessT (blk c G size : Nat) (W : World) (F : Nat → Int) (hs : W.cell? ⟨G, 0, none⟩ = some (.slice (some ⟨blk, 0, none⟩) size c)) (hc : ∀ t, t < size → W.cell? ⟨blk, 0 + t, none⟩ = some (.int .i64 (F t))) (i j : Nat) (hi : i < size) (hj : j < size) :
    Calls Try.prog 42 #[.int .i64 i, .int .i64 j, .pointer (some ⟨G, 0, none⟩)] W fun e w' => e = .returned (.bool (decide (F i < F j))) ∧ ∃ q, w' = W.drewN q := by
  have ci := hc i hi
  have cj := hc j hj
  rw [Nat.zero_add] at ci cj
  clear hc
  have hA := asInt3
  go_enter Try.func42, Try.ntmps42
  go_wp2
  go_quiet (fail)
  go_wp2
  go_ret
  exact ⟨rfl, nq, rfl⟩
theorem two (blk c G : Nat) (d : Array Int) (h2 : 2 ≤ d.size) (h12 : d.size < 4611686018427387904) (w : World) (hs : w.cell? ⟨G, 0, none⟩ = some (.slice (some ⟨blk, 0, none⟩) d.size c)) (hne : G ≠ blk) (hG : G < w.heap.size) (hH : Holds (Value.int .i64) w blk 0 d) (hblk : blk < w.heap.size) :
    Calls Try.prog 41 #[.iface 22 (.slice (some ⟨blk, 0, none⟩) d.size c), .func (.func 42) #[] #[.pointer (some ⟨G, 0, none⟩)]] w fun e w' =>
      e = .returned (.tuple #[]) ∧ ∃ d' n os, PermIn 0 d.size d d' ∧ SortedIn ltInt 0 d.size d' ∧ w' = grow (putRow (Value.int .i64) (Sort.ahead w n) blk 0 d') os := by
  have hless : LessReads Try.prog 42 #[.pointer (some ⟨G, 0, none⟩)] (Value.int .i64) ltInt blk 0 d.size w := by
    intro m os dk hsz i j hi hj
    have e : sortWorld (Value.int .i64) w blk 0 m dk os = putRow (Value.int .i64) (grow (Sort.ahead w m) os) blk 0 dk := by
      unfold sortWorld; rw [putRow_grow _ (Sort.ahead w m) _ blk 0 _ hblk]
    have hHg : Holds (Value.int .i64) (grow (Sort.ahead w m) os) blk 0 d := holds_grow _ _ _ blk 0 d hblk (holds_ahead _ _ _ _ _ _ hH)
    refine lessT blk c G d.size _ (fun t => dk[t]!) ?_ (fun t ht => ?_) i j hi hj
    · rw [e, cell?_putRow_other _ _ blk 0 dk _ (Or.inl (by show G ≠ blk; exact hne)), cell?_grow _ _ _ (by show G < w.heap.size; exact hG)]
      exact hs
    · rw [e]; exact cell?_putRow _ _ blk 0 d dk hHg hsz t (by omega)
  exact Any.sort_Slice_sorted Try.laysGg6 22 3 siT siE (by kernel_rfl) (by kernel_rfl) (by kernel_rfl) (by kernel_rfl) 2 (fun _ => by kernel_rfl) (by kernel_rfl) (fun _ => by kernel_rfl) (Value.int .i64) (fun _ => rfl) ltInt swo_ltInt 42 _
    (enters_of Try.func42 (by kernel_rfl) rfl) blk 0 c d h2 h12 52 (by rw [siK _ h2]; kernel_rfl) true
    (fun args W => run_callFunc_extern Try.func52 (by kernel_rfl) (by kernel_rfl) (by kernel_rfl) (e := Extern.ReflectliteSwapper.swap true) (by kernel_rfl) args W) _ hless hH hblk
theorem tiny (p : Option Addr) (n c : Nat) (h1 : n ≤ 1) (G : Nat) (w : World) :
    Calls Try.prog 41 #[.iface 22 (.slice p n c), .func (.func 42) #[] #[.pointer (some ⟨G, 0, none⟩)]] w fun e w' => e = .returned (.tuple #[]) ∧ ∃ os, w' = grow w os := by
  have hK : Lib.swapperK n siE 2 = n + 1 := by
    rcases Nat.eq_zero_or_pos n with h | h
    · subst h; simp [Lib.swapperK]
    · obtain rfl : n = 1 := by omega
      simp [Lib.swapperK]
  exact Any.sort_Slice_tiny Try.laysGg6 22 3 siT siE (by kernel_rfl) (by kernel_rfl) (by kernel_rfl) (by kernel_rfl) 2 (fun _ => by kernel_rfl) p n c h1 (48 + n) (by
    rw [hK]
    rcases Nat.eq_zero_or_pos n with h | h
    · subst h; kernel_rfl
    · obtain rfl : n = 1 := by omega
      kernel_rfl) (.func 42) #[] #[.pointer (some ⟨G, 0, none⟩)] w
end Go.Proofs.Ytokdamfalhcnnaa.Sk
end

section
/- SortedKeys: the walk. -/
namespace Go.Proofs.Ytokdamfalhcnnaa.Sl
open Go Go.Shelf Go.Lib Go.Sort Go.Maps Go.ChangeMaps Go.MapKept Go.RowKit Go.Proofs.YtokdamfalhcnnaaW.PrintWords Go.Proofs.YtokdamfalhcnnaaW.PrintLast Go.Proofs.YtokdamfalhcnnaaW.PrintMore Mp Mq Mr Ms Mt Mu GMpBody Small Mv Mo Mw Mx Sk

set_option linter.all false
set_option maxRecDepth 1000000
set_option maxHeartbeats 4000000
def leI (x y : Int) : Bool := decide (x ≤ y)
theorem leI_sorted (l : List Int) : (l.mergeSort leI).Pairwise (fun x y => x ≤ y) := by
  have h := List.pairwise_mergeSort (le := leI) (fun a b c h1 h2 => by unfold leI at *; simp at *; omega) (fun a b => by unfold leI; simp; omega) l
  exact h.imp (fun h => by unfold leI at h; simpa using h)
theorem sorted_is {d' : Array Int} {l : List Int} (hp : PermIn 0 l.toArray.size l.toArray d') (hs : SortedIn ltInt 0 l.toArray.size d') : d' = (l.mergeSort leI).toArray := by
  have h := sorted_unique_holds (lt := ltInt) swo_ltInt (fun x y h1 h2 => by simp only [ltInt, decide_eq_false_iff_not] at h1 h2; omega) l.toArray d' hp hs
  have e : (fun x y : Int => !ltInt y x) = leI := by
    funext x y
    simp only [ltInt, leI]
    by_cases h : x ≤ y <;> simp [h] <;> omega
  rw [e] at h
  rw [← h]
theorem sortT (blk c G : Nat) (l : List Int) (W : World) (cur : Array Value) (hgw : W.heap[blk]? = some (.cells cur 3 (0, 0))) (hcur : cur.toList.take l.length = ints l) (hbox : W.heap[G]? = some (.cells #[.slice (some ⟨blk, 0, none⟩) l.length c] 22 (0, 0))) (hl : l.length ≤ 100000) :
    Calls Try.prog 41 #[.iface 22 (.slice (some ⟨blk, 0, none⟩) l.length c), .func (.func 42) #[] #[.pointer (some ⟨G, 0, none⟩)]] W fun e w' =>
      e = .returned (.tuple #[]) ∧ (∀ (j : Nat) (x : Int), (l.mergeSort leI)[j]? = some x → w'.cell? ⟨blk, j, none⟩ = some (.int .i64 x)) ∧ W.grownBy w' (some blk) := by
  have hblk : blk < W.heap.size := (Array.getElem?_eq_some_iff.1 hgw).1
  have hG : G < W.heap.size := (Array.getElem?_eq_some_iff.1 hbox).1
  have hne : G ≠ blk := fun e => by rw [e, hgw] at hbox; cases hbox
  have hcell : ∀ (j : Nat) (x : Int), l[j]? = some x → W.cell? ⟨blk, j, none⟩ = some (.int .i64 x) := fun j x hj => by
    have h1 : (ints l)[j]? = some (.int .i64 x) := by unfold ints; rw [List.getElem?_map, hj]; rfl
    rw [← hcur, List.getElem?_take] at h1
    rw [Lib.cell_of_heap hgw]
    split at h1
    · rw [← Array.getElem?_toList]; exact h1
    · cases h1
  have hgrow : ∀ (m : Nat) (os : Array Obj) (d' : Array Int), W.grownBy (grow (putRow (Value.int .i64) (Sort.ahead W m) blk 0 d') os) (some blk) := fun m os d' =>
    ⟨rfl, rfl, rfl, by simp, fun k hk hn => by
      rw [heap_grow_old _ _ (by simpa using hk)]
      have : blk ≠ k := fun e => hn (by rw [e])
      simp [putRow, mapBlock, Sort.ahead, Array.getElem?_modify, this]⟩
  by_cases h2 : 2 ≤ l.length
  · have hH : Holds (Value.int .i64) W blk 0 l.toArray := fun j hj => by
      have hj' : j < l.length := by simpa using hj
      refine ⟨?_, by rw [Lib.frozen_of_heap hgw]⟩
      rw [Nat.zero_add, hcell j l[j] (List.getElem?_eq_getElem hj')]
      simp [hj']
    refine (two blk c G l.toArray (by simpa using h2) (by simp; omega) W (by rw [Lib.cell_of_heap hbox]; simp) hne hG hH hblk).mono ?_
    rintro e w' ⟨rfl, d', m, os, hp, hs, rfl⟩
    obtain rfl := sorted_is hp hs
    refine ⟨rfl, fun j x hj => ?_, hgrow _ _ _⟩
    have hlm : (l.mergeSort leI).length = l.length := List.length_mergeSort l
    have hj' : j < l.length := by rw [← hlm]; exact (List.getElem?_eq_some_iff.1 hj).1
    rw [cell?_grow _ _ _ (by simpa using hblk)]
    have h3 := cell?_putRow (Value.int .i64) (Sort.ahead W m) blk 0 l.toArray (l.mergeSort leI).toArray (holds_ahead _ _ _ _ _ _ hH) (by simp) j (by simpa using hj')
    rw [Nat.zero_add] at h3
    rw [h3]
    rw [List.getElem?_eq_getElem (by omega)] at hj
    injection hj with hj
    simp [hj', hj]
  · refine (tiny (some ⟨blk, 0, none⟩) l.length c (by omega) G W).mono ?_
    rintro e w' ⟨rfl, os, rfl⟩
    have hm : l.mergeSort leI = l := by
      match l, h2 with
      | [], _ => simp
      | [x], _ => simp
      | x :: y :: r, h2 => simp at h2
    refine ⟨rfl, fun j x hj => ?_, ⟨rfl, rfl, rfl, by simp, fun k hk _ => heap_grow_old _ _ hk⟩⟩
    rw [hm] at hj
    rw [cell?_grow _ _ _ hblk]
    exact hcell j x hj
/-- keys in any order, sorted, are the pairs' keys in order -/
theorem sorted_keys {ds ps : List Pr} (hp : ds.Perm ps) (hs : Srt ps) : (keys ds).mergeSort leI = keys ps := by
  refine List.Perm.eq_of_pairwise (le := fun x y => x ≤ y) (fun a b _ _ h1 h2 => by omega) (leI_sorted _) ?_ ((List.mergeSort_perm _ _).trans (hp.map Prod.fst))
  unfold keys
  rw [List.pairwise_map]
  exact hs.imp (fun h => by omega)
theorem reads_ints {w : World} {blk : Nat} {l : List Int} (hl : l.length ≤ 100000) (h : ∀ (j : Nat) (x : Int), l[j]? = some x → w.cell? ⟨blk, j, none⟩ = some (.int .i64 x)) : Kd.C (Kd.int .i64) w (some ⟨blk, 0, none⟩) l.length l :=
  ⟨rfl, by omega, fun _ => ⟨_, rfl, fun j p hj => ⟨[.int .i64 p], rfl, rfl, fun i u hi => by
    have hi0 : i = 0 := by
      cases i with
      | zero => rfl
      | succ i => simp at hi
    subst hi0
    obtain rfl : Value.int .i64 p = u := by simpa using hi
    have e : ((⟨blk, 0, none⟩ : Addr).add (j * 1 + 0)) = ⟨blk, j, none⟩ := by simp [Addr.add]; exact Eq.symm
    have h1 := h j p hj
    exact e ▸ h1⟩⟩⟩
end Go.Proofs.Ytokdamfalhcnnaa.Sl
end

section
/- SortedKeys: the walk. -/
namespace Go.Proofs.Ytokdamfalhcnnaa.Sm
open Go Go.Shelf Go.Lib Go.Sort Go.Maps Go.ChangeMaps Go.MapKept Go.RowKit Go.Proofs.YtokdamfalhcnnaaW.PrintWords Go.Proofs.YtokdamfalhcnnaaW.PrintLast Go.Proofs.YtokdamfalhcnnaaW.PrintMore Mp Mq Mr Ms Mt Mu GMpBody Small Mv Mo Mw Mx Sk Sl

set_option linter.all false
set_option maxRecDepth 1000000
set_option maxHeartbeats 4000000
variable {b : Nat} {w w' : World} {ps : List Pr}
/-- the loop: the keys so far lie behind the boxed slice -/
structure Ks (B b r G : Nat) (w0 w : World) (ps ds rem : List Pr) (v : Value) : Prop where
  st : St B b r w0 w ps ds rem
  row : w.ownsRow B 3 1 v ds.length (ints (keys ds))
  box : w.heap[G]? = some (.cells #[v] 22 (0, 0))
  bG : B ≤ G
  some_ : ∃ g n c, v = .slice (some ⟨g, 0, none⟩) n c
theorem lenN (ty : TypeId) (w : World) : (Builtin.len_ #[47] ty #[.map none]).run Try.prog w = .ok (.int .i64 0) w := by kernel_rfl
theorem sortedKeysT (h : Mq b w ps) (hs : Srt ps) (hl : ps.length ≤ 100000) : Calls Try.prog 22 #[.map (some b)] w fun r w' => ∃ A c, r = .returned (.slice A (keys ps).length c) ∧ (keys ps).length ≤ c ∧ Kd.C (Kd.int .i64) w' A (keys ps).length (keys ps) ∧ Below w.heap.size w w' ∧ ∀ ad, A = some ad → w.heap.size ≤ ad.block := by
  have hL := h.len
  have hM := made3 ps.length hl w
  obtain ⟨W, hW⟩ : ∃ W, w.alloc (.cells (madeCells #[.int .i64 0] ps.length) 3) = W := ⟨_, rfl⟩
  have hb := h.lt
  have hRow : W.ownsRow w.heap.size 3 1 (.slice (some ⟨w.heap.size, 0, none⟩) 0 ps.length) 0 [] := by
    rw [← hW]
    have := madeRow w w.heap.size 3 1 ps.length #[.int .i64 0] (Nat.le_refl _) hl
    simpa using this
  have hg0 : w.grownBy W none := by rw [← hW]; exact World.grownBy_alloc w _ none
  have hsW : W.heap.size = w.heap.size + 1 := by rw [← hW]; simp
  have hmW : Mq b W ps := h.kept hg0 (by simp)
  rw [hW] at hM
  have HL := Aside0.mk (And.intro hl (And.intro hs (And.intro hb hsW)))
  obtain ⟨W2, hW2⟩ : ∃ W2, W.alloc (.cells #[.slice (some ⟨w.heap.size, 0, none⟩) 0 ps.length] 22) = W2 := ⟨_, rfl⟩
  have hg2 : W.grownBy W2 none := by rw [← hW2]; exact World.grownBy_alloc W _ none
  have hmW2 : Mq b W2 ps := hmW.kept hg2 (by simp)
  have hs2 : W2.heap.size = w.heap.size + 1 + 1 := by rw [← hW2]; simp [hsW]
  have hbox : W2.heap[w.heap.size + 1]? = some (.cells #[.slice (some ⟨w.heap.size, 0, none⟩) 0 ps.length] 22 (0, 0)) := by rw [← hW2, ← hsW]; exact heap_alloc_new W _
  have hR2 := hRow.kept hg2 (.inr (by simp [Value.ownBlock]))
  have HG := Aside0.mk (And.intro hg0 (And.intro hg2 (And.intro hbox (And.intro hR2 hs2))))
  have HW2 := Aside0.mk hW2
  clear h hW hs hg0 hg2 hbox hR2 hs2 hRow hmW hW2 hb hl
  go_enter Try.func22, Try.ntmps22
  go_wp2_with (first | (rw [HW2.out]; refine range_ _ rfl _ rfl rfl hmW2 ?_; intro w0 hr0 hg1 hs1; have H0 := Aside0.mk (And.intro hr0 (And.intro hg1 hs1)); clear hr0 hg1 hs1))
  rw [HG.out.2.2.2.2]
  go_frame
  have hS0 : Ks w.heap.size b (w.heap.size + 1 + 1) (w.heap.size + 1) w w0 ps [] ps (.slice (some ⟨w.heap.size, 0, none⟩) 0 ps.length) := by
    have h1 := H0.out.1
    rw [HG.out.2.2.2.2] at h1
    have hz2 := HG.out.2.2.2.2
    exact ⟨⟨h1, (below_grown HG.out.1 (Nat.le_refl _) (fun k hk => by cases hk)).trans ((below_grown HG.out.2.1 HG.out.1.size (fun k hk => by cases hk)).trans (below_grown H0.out.2.1 (by omega) (fun k hk => by cases hk))), List.Perm.refl _, HL.out.2.2.1, by omega⟩, HG.out.2.2.2.1.kept H0.out.2.1 (.inr (by simp [Value.ownBlock])), (H0.out.2.1.block _ (by omega) (by simp)).trans HG.out.2.2.1, by omega, ⟨_, _, _, rfl⟩⟩
  have HS := Aside0.mk hS0
  clear hS0 hmW2 hM hL hsW
  go_loopg [4] ps.length (fun gk v4 wx => ∃ ds rem v, Ks w.heap.size b (w.heap.size + 1 + 1) (w.heap.size + 1) w wx ps ds rem v ∧ rem.length ≤ gk)
  case atStart => exact ⟨[], ps, _, HS.out, Nat.le_refl _⟩
  case round =>
    obtain ⟨ds, rem, v, hP, hlen⟩ := hrel
    have HP := Aside0.mk (And.intro hP hlen)
    have hrg := hP.st.rg
    clear hP hlen
    go_wp2_with (first | (refine next_ _ rfl _ rfl rfl hrg ?_ ?_))
    · intro hrem
      subst hrem
      clear hrg
      have hpm : ds.Perm ps := by have := HP.out.1.st.pm; simpa using this
      obtain ⟨g, n, c, hv⟩ := HP.out.1.some_
      subst hv
      have hrow := HP.out.1.row
      rcases hrow.2 with ⟨hn, _⟩ | ⟨g', cap, cur, hv, hB, hgw, hcap, hmx, hcs, hcur⟩
      · cases hn
      cases hv
      have hkl : (keys ds).length = ds.length := by unfold keys; simp
      have hbox := HP.out.1.box
      rw [← hkl] at hbox
      have c41 := sortT g c (w.heap.size + 1) (keys ds) wr cur hgw (by rw [hkl, ← Nat.mul_one ds.length]; exact hcur) hbox (by rw [hkl, hpm.length_eq]; exact HL.out.1)
      rw [sorted_keys hpm HL.out.2.1] at c41
      have hkp : (keys ds).length = (keys ps).length := (hpm.map Prod.fst).length_eq
      rw [hkp] at c41 hbox
      have hc : wr.cell? ⟨w.heap.size + 1, 0, none⟩ = some (.slice (some ⟨g, 0, none⟩) (keys ps).length c) := by rw [Lib.cell_of_heap hbox]; rfl
      have hne : some (w.heap.size + 1) ≠ some g := fun e => by injection e with e; rw [e, hgw] at hbox; cases hbox
      have hGl : w.heap.size + 1 < wr.heap.size := (Array.getElem?_eq_some_iff.1 hbox).1
      have HQ := Aside0.mk (And.intro hc (And.intro hne (And.intro hGl (And.intro hB (show (keys ps).length ≤ c by rw [← hkp, hkl]; exact hcap)))))
      clear hrow hkl hbox hgw hcap hmx hcs hcur hpm hkp hne hGl hB
      go_wp2_with (first | (go_at_call 41; refine c41.mono ?_; rintro e w3 ⟨rfl, hr3, hg3⟩; have H3 := Aside0.mk (And.intro hr3 hg3); have hc3 : w3.cell? ⟨w.heap.size + 1, 0, none⟩ = some (.slice (some ⟨g, 0, none⟩) (keys ps).length c) := (by rw [← HQ.out.1]; unfold World.cell?; rw [hg3.block _ HQ.out.2.2.1 HQ.out.2.1]); clear hr3 hg3 c41))
      go_ret
      exact ⟨_, _, rfl, HQ.out.2.2.2.2, reads_ints (by unfold keys; simp; exact HL.out.1) H3.out.1, HP.out.1.st.bl.trans (below_grown H3.out.2 HP.out.1.st.bl.size (fun k hk => by injection hk with hk; rw [← hk]; exact HQ.out.2.2.2.1)), fun ad e => by injection e with e; rw [← e]; exact HQ.out.2.2.2.1⟩
    · intro x y r1 r2 w1 hrem hrg1 hg1 hs1 hen
      have hB := HP.out.1.st.le (Nat.le_refl _)
      have hS1 := HP.out.1.st.next hrem hrg1 hg1 hB
      have hrow1 := HP.out.1.row.kept hg1 (.inr (fun e2 => by
        have := (HP.out.1.st.row_ne HP.out.1.row _ e2).2
        exact this rfl))
      have hls := HP.out.1.st.lens
      have hlr : rem.length = (r1 ++ r2).length + 1 := by rw [hrem]; simp; omega
      have hps := HL.out.1
      have hGr : w.heap.size + 1 ≠ w.heap.size + 1 + 1 := by omega
      have hGl : w.heap.size + 1 < wr.heap.size := (Array.getElem?_eq_some_iff.1 HP.out.1.box).1
      have hbox1 := (hg1.block _ hGl (by simp)).trans HP.out.1.box
      obtain ⟨A2, n2, c2, w6, hrun, ho6, hg6, hat6⟩ := push Try.underlying22 Mr.info3 rfl (by omega) w.heap.size w1 v ds.length _ hrow1 (hS1.le (Nat.le_refl _)) [.int .i64 x] rfl (by intro u hu; simp at hu; subst hu; rfl) (by omega)
      have hvG : v.ownBlock ≠ some (w.heap.size + 1) := fun e => by
        obtain ⟨cs, hcs⟩ := own_typed hrow1 _ e
        rw [hbox1] at hcs; cases hcs
      have hbox6 := (hg6.block _ (by rw [hs1]; exact hGl) (fun e => hvG e.symm)).trans hbox1
      have hS6 := hS1.go hg6 (hS1.le (Nat.le_refl _)) (hS1.row_ne hrow1)
      have hk7 : w6.grownBy (w6.setCell ⟨w.heap.size + 1, 0, none⟩ (.slice A2 n2 c2)) (some (w.heap.size + 1)) := ⟨rfl, rfl, rfl, by simp [World.setCell], fun k _ hk => Below.heap_setCell _ _ _ k (fun e => hk (by rw [e]))⟩
      have hS7 := hS6.go hk7 (hS6.le (Nat.le_refl _)) (fun k hk => by injection hk with hk; omega)
      have hvG6 : (Value.slice A2 n2 c2).ownBlock ≠ some (w.heap.size + 1) := fun e => by
        obtain ⟨cs, hcs⟩ := own_typed ho6 _ e
        rw [hbox6] at hcs; cases hcs
      have hrow7 : (w6.setCell ⟨w.heap.size + 1, 0, none⟩ (.slice A2 n2 c2)).ownsRow w.heap.size 3 1 (.slice A2 n2 c2) (ds ++ [(x, y)]).length (ints (keys (ds ++ [(x, y)]))) := by
        have : keys (ds ++ [(x, y)]) = keys ds ++ [x] := by unfold keys; rw [List.map_append]; rfl
        rw [this, ints_snoc, List.length_append]
        exact ho6.kept hk7 (.inr hvG6)
      have hbox7 : (w6.setCell ⟨w.heap.size + 1, 0, none⟩ (.slice A2 n2 c2)).heap[w.heap.size + 1]? = some (.cells #[.slice A2 n2 c2] 22 (0, 0)) := (heap_setCell_same w6 _ 0 _ 22 _ hbox6).trans rfl
      have hsome : ∃ g n c, Value.slice A2 n2 c2 = .slice (some ⟨g, 0, none⟩) n c := by
        rcases ho6.2 with ⟨_, h0⟩ | ⟨g, cap, cur, h0, _⟩
        · omega
        · exact ⟨_, _, _, h0⟩
      have HK := Aside0.mk (show Ks w.heap.size b (w.heap.size + 1 + 1) (w.heap.size + 1) w (w6.setCell ⟨w.heap.size + 1, 0, none⟩ (.slice A2 n2 c2)) ps (ds ++ [(x, y)]) (r1 ++ r2) (.slice A2 n2 c2) from ⟨hS7, hrow7, hbox7, by omega, hsome⟩)
      have cG1 : w1.cell? ⟨w.heap.size + 1, 0, none⟩ = some v := by rw [Lib.cell_of_heap hbox1]; rfl
      have cG6 : w6.cell? ⟨w.heap.size + 1, 0, none⟩ = some v := by rw [Lib.cell_of_heap hbox6]; rfl
      have fG6 : w6.frozen? ⟨w.heap.size + 1, 0, none⟩ = false := by rw [Lib.frozen_of_heap hbox6]
      have HQ := Aside0.mk hlr
      obtain ⟨g', rfl⟩ : ∃ g', gk = g' + 1 := ⟨gk - 1, by have := HP.out.2; omega⟩
      clear hS1 hrow1 hg6 hat6 hS6 hrow7 hg1 hs1 hrg1 hB ho6 hrg hls hlr hps hrem hGr hGl hbox1 hvG hbox6 hk7 hS7 hvG6 hbox7 hsome
      go_wp2_with (first | (refine appL_ (some 17) rfl rfl rfl rfl rfl hrun ?_; clear hrun))
      go_roundg g'
      case measure => exact Nat.lt_succ_self _
      case rel => exact ⟨_, _, _, HK.out, by have := HP.out.2; have := HQ.out; omega⟩
end Go.Proofs.Ytokdamfalhcnnaa.Sm
end

section
/- SortedKeys of a nil map. -/
namespace Go.Proofs.Ytokdamfalhcnnaa.Sn
open Go Go.Shelf Go.Lib Go.Sort Go.Maps Go.ChangeMaps Go.MapKept Go.RowKit Go.Proofs.YtokdamfalhcnnaaW.PrintWords Go.Proofs.YtokdamfalhcnnaaW.PrintLast Go.Proofs.YtokdamfalhcnnaaW.PrintMore Mp Mq Mr Ms Mt Mu GMpBody Small Mv Mo Mw Mx Sk Sl Sm

set_option linter.all false
set_option maxRecDepth 1000000
set_option maxHeartbeats 4000000
theorem sortedKeys_nil (w : World) : Calls Try.prog 22 #[.map none] w fun r w' => ∃ A c, r = .returned (.slice A 0 c) ∧ Kd.C (Kd.int .i64) w' A ([] : List Int).length [] ∧ Below w.heap.size w w' ∧ ∀ ad, A = some ad → w.heap.size ≤ ad.block := by
  have hL := lenN
  have hM : (Instr.makeSlice 22 (.int .i64 0) (.int .i64 0)).run Try.prog w = .ok (.slice (some ⟨w.heap.size, 0, none⟩) 0 0) (w.alloc (.cells (madeCells #[.int .i64 0] 0) 3)) := made3 0 (by omega) w
  obtain ⟨W, hW⟩ : ∃ W, w.alloc (.cells (madeCells #[.int .i64 0] 0) 3) = W := ⟨_, rfl⟩
  have hsW : W.heap.size = w.heap.size + 1 := by rw [← hW]; simp
  have hb0 : Below w.heap.size w W := by rw [← hW]; exact (Below.refl _ w).alloc (Nat.le_refl _) _
  rw [hW] at hM
  obtain ⟨W2, hW2⟩ : ∃ W2, W.alloc (.cells #[.slice (some ⟨w.heap.size, 0, none⟩) 0 0] 22) = W2 := ⟨_, rfl⟩
  have hb2 : Below w.heap.size w W2 := by rw [← hW2]; exact hb0.alloc (by omega) _
  have hs2 : W2.heap.size = w.heap.size + 1 + 1 := by rw [← hW2]; simp [hsW]
  have hbox : W2.heap[w.heap.size + 1]? = some (.cells #[.slice (some ⟨w.heap.size, 0, none⟩) 0 0] 22 (0, 0)) := by rw [← hW2, ← hsW]; exact heap_alloc_new W _
  obtain ⟨W3, hW3⟩ : ∃ W3, W2.alloc (.mapIter none 0 #[] 0) = W3 := ⟨_, rfl⟩
  have hrg := run_range_nilMap (P := Try.prog) W2 47 3 3 u47
  have hnx : ∀ ty, (Instr.next (.pointer (some ⟨W2.heap.size, 0, none⟩)) false ty).run Try.prog (W2.alloc (.mapIter none 0 #[] 0)) = _ := fun ty => run_next_nilMap W2 ty 0 0 #[]
  have hb3 : Below w.heap.size w W3 := by rw [← hW3]; exact hb2.alloc (by omega) _
  have hbox3 : W3.heap[w.heap.size + 1]? = some (.cells #[.slice (some ⟨w.heap.size, 0, none⟩) 0 0] 22 (0, 0)) := by rw [← hW3]; exact (Below.heap_alloc W2 _ _ (by omega)).trans hbox
  rw [hW3] at hrg hnx
  rw [hs2] at hrg hnx
  have c41 := tiny (some ⟨w.heap.size, 0, none⟩) 0 0 (by omega) (w.heap.size + 1) W3
  have hc3 : W3.cell? ⟨w.heap.size + 1, 0, none⟩ = some (.slice (some ⟨w.heap.size, 0, none⟩) 0 0) := by rw [Lib.cell_of_heap hbox3]; rfl
  have HQ := Aside0.mk (And.intro hb3 hbox3)
  have HW2 := Aside0.mk hW2
  clear hb0 hb2 hs2 hbox hW3 hb3 hbox3 hW2 hW
  go_enter Try.func22, Try.ntmps22
  go_wp2_with (fail)
  rw [HW2.out, hrg]
  go_wp2_with (fail)
  refine wp_loop_rounds 1 ?_
  rw [rounds_succ]
  go_wp2_with (first | (go_at_call 41; refine c41.mono ?_; rintro e w4 ⟨rfl, os, hw4⟩; have hc4 : w4.cell? ⟨w.heap.size + 1, 0, none⟩ = some (.slice (some ⟨w.heap.size, 0, none⟩) 0 0) := (by rw [hw4, cell?_grow _ _ _ (Array.getElem?_eq_some_iff.1 HQ.out.2).1]; exact hc3); have HW4 := Aside0.mk hw4; clear hw4 c41))
  go_ret
  refine ⟨_, _, rfl, ⟨rfl, by simp, fun h => absurd h (by simp)⟩, ?_, fun ad e => by injection e with e; rw [← e]; exact Nat.le_refl _⟩
  rw [HW4.out]
  exact HQ.out.1.trans (below_grown (row := none) ⟨rfl, rfl, rfl, by simp, fun k hk _ => heap_grow_old _ _ hk⟩ HQ.out.1.size (fun k hk => by cases hk))
end Go.Proofs.Ytokdamfalhcnnaa.Sn
end
