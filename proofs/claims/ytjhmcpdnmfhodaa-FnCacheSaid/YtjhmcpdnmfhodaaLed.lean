/- The cache's Purge with a callback. -/
import Derived.Test.YtjhmcpdnmfhodaaLeA
import Derived.Test.YtjhmcpdnmfhodaaSpB
import Derived.Maps.RangeWalk
import Derived.Deep.LoopGhost
namespace Go.Proofs.Ytjhmcpdnmfhodaa.Led
open Go Go.Maps Go.ChangeMaps Go.MapKept Go.RowKit Go.Proofs.YtjhmcpdnmfhodaaW.PrintWords Go.Proofs.YtjhmcpdnmfhodaaW.PrintLast Go.Proofs.YtjhmcpdnmfhodaaW.PrintMore Ll Lra Lrc Lrw Lrx Lry Lrz Spm Mp Lea Leb Lec Lcp

theorem rangesHeap {P : Program} {k : TypeId} {R : Value → Option (DataW Value × List MemPlace)} {w w' : World} {b r n : Nat} {D : DataW Value} {left : Lit → Bool} {cnt : Nat} (h : w.ranges P k R b r n D left cnt) (hb : ∀ o, w.heap[b]? = some o → w'.heap[b]? = some o) (hr : ∀ o, w.heap[r]? = some o → w'.heap[r]? = some o) : w'.ranges P k R b r n D left cnt := by
  obtain ⟨es, clock, since, seen, c0, hb0, F, hs, hD, hr0, rest⟩ := h
  exact ⟨es, clock, since, seen, c0, hb _ hb0, F, hs, hD, hr _ hr0, rest⟩
theorem ranges_iter {P : Program} {k : TypeId} {R : Value → Option (DataW Value × List MemPlace)} {w : World} {b r n : Nat} {D : DataW Value} {left : Lit → Bool} {cnt : Nat} (h : w.ranges P k R b r n D left cnt) : ∃ x y z u, w.heap[r]? = some (.mapIter x y z u) := by
  obtain ⟨es, clock, since, seen, c0, hb0, F, hs, hD, hr0, rest⟩ := h
  exact ⟨_, _, _, _, hr0⟩
theorem ranges_map {P : Program} {k : TypeId} {R : Value → Option (DataW Value × List MemPlace)} {w : World} {b r n : Nat} {D : DataW Value} {left : Lit → Bool} {cnt : Nat} (h : w.ranges P k R b r n D left cnt) : ∃ x y, w.heap[b]? = some (.map x y) := by
  obtain ⟨es, clock, since, seen, c0, hb0, F, hs, hD, hr0, rest⟩ := h
  exact ⟨_, _, hb0⟩
theorem invK3 (key : Value) (kl : Lit) (h : keyOf Try.prog 3 key = some kl) : ∃ x, key = Value.int .i64 x := by
  obtain ⟨x, rfl, _⟩ := Maps.keyOf_int_inv Try.underlying3 h
  exact ⟨x, rfl⟩
theorem sameKey_int (a b : Int) : (Lit.int .i64 a).sameKey (.int .i64 b) = (a == b) := by
  simp only [Lit.sameKey]
  by_cases h : a = b <;> simp [h]
theorem nilRow31 (B : Nat) (w : World) : w.ownsRow B 44 2 nil31 0 [] := ⟨rfl, .inl ⟨rfl, rfl⟩⟩
/-- the loop's state: what is left and what was told -/
structure Pu (B : Nat) (w0 w : World) (L M G r n : Nat) (sz hh mm : Int) (es : List En) (D : DataW Value) (v : Value) (gs : List (Int × Int)) (rem : List En) (left : Lit → Bool) (cnt : Nat) : Prop where
  ca : Ca B w L M (cbv G) sz hh mm es
  gv : Gv B w G v gs
  rg : w.ranges Try.prog 3 tokR M r n D left cnt
  fz : Fz [G] B w0 w
  sub : ∀ e ∈ rem, e ∈ es
  nd : (rem.map En.k).Nodup
  lf : ∀ kl, left kl = true → ∃ e ∈ rem, kl = .int .i64 e.k
  rl : ∀ e ∈ rem, left (.int .i64 e.k) = true
  pm : (gs ++ pl rem).Perm (pl es)
  fresh : ∀ g, v.ownBlock = some g → w0.heap.size ≤ g
theorem Pu.step {B : Nat} {w0 w w2 : World} {L M G r n : Nat} {sz hh mm : Int} {es r1 r2 : List En} {e : En} {D : DataW Value} {v v' : Value} {gs : List (Int × Int)} {left : Lit → Bool} {cnt cnt' : Nat} (h : Pu B w0 w L M G r n sz hh mm es D v gs (r1 ++ e :: r2) left cnt)
    (hc : Ca B w2 L M (cbv G) sz hh mm es) (hg : Gv B w2 G v' (gs ++ [(e.k, e.v)])) (hr : w2.ranges Try.prog 3 tokR M r n D (fun z => left z && !z.sameKey (.int .i64 e.k)) cnt') (hf : Fz [G] B w0 w2) (hfr : ∀ g, v'.ownBlock = some g → w0.heap.size ≤ g) :
    Pu B w0 w2 L M G r n sz hh mm es D v' (gs ++ [(e.k, e.v)]) (r1 ++ r2) (fun z => left z && !z.sameKey (.int .i64 e.k)) cnt' := by
  have hp := (front_perm e r1 r2)
  have hnd := (hp.map En.k).nodup_iff.1 h.nd
  rw [List.map_cons, List.nodup_cons] at hnd
  refine ⟨hc, hg, hr, hf, fun a ha => h.sub a (mem_app ha), hnd.2, fun kl hkl => ?_, fun a ha => ?_, ?_, hfr⟩
  · rw [Bool.and_eq_true] at hkl
    obtain ⟨a, ha, rfl⟩ := h.lf kl hkl.1
    refine ⟨a, ?_, rfl⟩
    rcases List.mem_append.1 ha with ha | ha
    · exact List.mem_append.2 (.inl ha)
    · rcases List.mem_cons.1 ha with rfl | ha
      · rw [sameKey_int] at hkl; simp at hkl
      · exact List.mem_append.2 (.inr ha)
  · rw [h.rl a (mem_app ha), sameKey_int]
    have : a.k ≠ e.k := fun e2 => hnd.1 (List.mem_map.2 ⟨a, ha, e2⟩)
    simp [this]
  · refine List.Perm.trans ?_ h.pm
    have e1 : pl (r1 ++ e :: r2) = pl r1 ++ (e.k, e.v) :: pl r2 := by unfold pl; rw [List.map_append]; rfl
    have e2 : pl (r1 ++ r2) = pl r1 ++ pl r2 := by unfold pl; rw [List.map_append]
    rw [e1, e2, List.append_assoc]
    exact List.Perm.append_left gs (show ((e.k, e.v) :: (pl r1 ++ pl r2)).Perm _ from List.perm_middle.symm)
-- TABLES
def T5 : Bool × List (List Nat × List Nat) := (true, [([], []), ([0], [0]), ([1], [1]), ([2], [2]), ([], []), ([], []), ([5], [5]), ([6], [6]), ([7], [7]), ([3, 4, 8], [3, 4, 8])])
def B5 : List Nat := [0, 1, 3, 7, 0, 0, 32, 96, 224, 511]
theorem tab5 : rtab .any (opsOf Try.f20 5) = T5 := by kernel_rfl
theorem bits5 : waitsOk T5.2 B5 = true := by kernel_rfl
-- END TABLES
theorem plainC {c : Array Value} {t : TypeId} {f : Nat × Nat} (h1 : t ≠ 64) (h2 : t ≠ 67) : Plain (.cells c t f) := ⟨fun _ _ e => (by injection e with _ e _; exact h1 e), fun _ _ e => (by injection e with _ e _; exact h2 e), fun _ _ e => (by cases e)⟩
theorem plainIter (x : Option Nat) (y : Nat) (z : Array Nat) (u : Nat) : Plain (.mapIter x y z u) := ⟨fun _ _ h => (by cases h), fun _ _ h => (by cases h), fun _ _ h => (by cases h)⟩
theorem neqF' (G : Nat) (w : World) : (binOp .neq 60 (.func (.func 13) #[] #[.pointer (some ⟨G, 0, none⟩)]) .nilFunc).run Try.prog w = .ok (.bool true) w := neqF G w
set_option linter.all false in
set_option maxRecDepth 1000000 in
set_option maxHeartbeats 4000000 in
theorem purgeT {B : Nat} {w : World} {L M G : Nat} {sz hh mm : Int} {es : List En} (h : Ca B w L M (cbv G) sz hh mm es) (hgv : Gv B w G nil31 []) (hsz : 0 < sz) (hsz2 : sz ≤ 100000) (hB : B ≤ w.heap.size) (hes : es.length ≤ 100000) :
    Calls Try.prog 20 #[ptr L] w fun r w' => r = .returned (.tuple #[]) ∧ ∃ M' gs v', Ca B w' L M' (cbv G) sz 0 0 [] ∧ Gv B w' G v' gs ∧ gs.Perm (pl es) ∧ Fz [G] B w w' := by
  obtain ⟨c0, c1, c5, c6, lf, c4⟩ := cells h
  unfold cbv at c4
  have hd0 : decide (sz ≤ 0) = false := decide_eq_false (by omega)
  have hN := neqF' G w
  obtain ⟨D, hown, hDs, _, hD⟩ := h.mp
  have HH := Aside0.mk (And.intro h (And.intro hgv (And.intro hD (And.intro hDs (And.intro hB hes)))))
  have HS := Aside0.mk (And.intro hsz hsz2)
  clear h hgv hD hDs hB hes hsz hsz2
  unfold ptr
  go_enter Try.func20, Try.ntmps20
  go_wp2_with (first | (refine wpList_range_own _ rfl _ 61 rfl 3 62 (Maps.int_keyed Try.underlying3) Try.underlying61 tokR M _ D rfl hown ?_; intro w0 hrg0 hg0 hs0
                        have HR := Aside0.mk (And.intro hrg0 (And.intro hg0 hs0)); clear hrg0 hg0 hs0 hown c0 c1 c5 c6 lf c4))
  go_frame
  have hP0 : Pu B w w0 L M G w.heap.size es.length sz hh mm es D nil31 [] es (Maps.has D) (Maps.size D) := by
    have hkk : ∀ k o, w.heap[k]? = some o → w0.heap[k]? = some o := fun k o hk => (HR.out.2.1.block k (Array.getElem?_eq_some_iff.1 hk).1 (by simp)).trans hk
    have hg := HR.out.2.1
    refine ⟨caKept HH.out.1 (fun k o hk _ => hkk k o hk), ⟨hkk _ _ HH.out.2.1.own, nilRow31 _ _, HH.out.2.1.bG⟩, HR.out.1, ⟨hg.os, hg.tape, hg.output, hg.size, fun k hk => hg.block k (by have := HH.out.2.2.2.2.1; omega) (by simp), fun k o _ hk _ => hkk k o hk⟩, fun e he => he, HH.out.1.nk, fun kl hkl => ?_, fun e he => ?_, List.Perm.refl _, fun g e => by cases e⟩
    · rw [(HH.out.2.2.1 kl).1] at hkl
      unfold Lrc.look at hkl
      split at hkl
      · rename_i k
        rw [Option.isSome_map] at hkl
        obtain ⟨e, he⟩ := Option.isSome_iff_exists.1 hkl
        have h1 := List.find?_some he
        exact ⟨e, List.mem_of_find?_eq_some he, by simp at h1; rw [h1]⟩
      · cases hkl
    · rw [(HH.out.2.2.1 _).1, look_int, find_mem HH.out.1.nk e he]; rfl
  have HP0 := Aside0.mk hP0
  clear hP0 hN
  go_loopg [2, 3] es.length (fun gk v2 v3 wx => ∃ v gs rem left cnt, Pu B w wx L M G w.heap.size es.length sz hh mm es D v gs rem left cnt ∧ rem.length ≤ gk)
  case atStart => exact ⟨_, _, _, _, _, HP0.out, Nat.le_refl _⟩
  case round =>
    obtain ⟨v, gs, rem, left, cnt, hP, hlen⟩ := hrel
    have HP := Aside0.mk (And.intro hP hlen)
    have hrg := hP.rg
    clear hP hlen
    go_wp2_with (first | (refine wpList_next_ranges _ rfl _ rfl 3 (Maps.int_keyed Try.underlying3) tokR (Value.int .i64) (fun v => v) invK3 (fun v _ _ => ⟨v, rfl⟩) M _ _ D left cnt rfl hrg ?_ ?_))
    · intro hc0 hl0
      have hrem : rem = [] := by
        cases rem with
        | nil => rfl
        | cons a t => have h1 := HP.out.1.rl a (by simp); rw [hl0] at h1; cases h1
      subst hrem
      have h := HP.out.1.ca
      have hB : B ≤ wr.heap.size := Nat.le_trans HH.out.2.2.2.2.1 HP.out.1.fz.size
      have hm := makeM sz wr
      have hLlt : L < wr.heap.size := (Array.getElem?_eq_some_iff.1 h.ls.own).1
      have hLM : L ≠ wr.heap.size := by omega
      have hLM' := hLM.symm
      have hown := (Below.heap_alloc wr (.map #[] 0) L hLlt).trans h.ls.own
      obtain ⟨d0, _, _, _, _, _⟩ := cells h
      obtain ⟨W, hW⟩ : ∃ W, wr.alloc (.map #[] 0) = W := ⟨_, rfl⟩
      have hMW : W.heap[wr.heap.size]? = some (.map #[] 0) := by rw [← hW]; exact heap_alloc_new wr _
      have hf : Fr B wr W := by rw [← hW]; exact (Fr.refl B wr).alloc _ hB
      rw [hW] at hown hm
      have a1 : ∀ j, W.frozen? ⟨L, j, none⟩ = false := fun j => by rw [Lib.frozen_of_heap hown]
      have b0 : W.cell? ⟨L, 0, none⟩ = some (.int .i64 sz) := by rw [Lib.cell_of_heap hown]; rfl
      have b1 : W.cell? ⟨L, 1, none⟩ = some (.map (some M)) := by rw [Lib.cell_of_heap hown]; rfl
      have b2 : W.cell? ⟨L, 2, none⟩ = some (hd es nil) := by rw [Lib.cell_of_heap hown]; rfl
      have b3 : W.cell? ⟨L, 3, none⟩ = some (lst nil es) := by rw [Lib.cell_of_heap hown]; rfl
      have b5 : W.cell? ⟨L, 5, none⟩ = some (.int .i64 hh) := by rw [Lib.cell_of_heap hown]; rfl
      have b6 : W.cell? ⟨L, 6, none⟩ = some (.int .i64 mm) := by rw [Lib.cell_of_heap hown]; rfl
      have c1' := set_same (j := 1) (.map (some wr.heap.size)) hown
      have c2' := set_same (j := 2) (.pointer none) c1'
      have c3' := set_same (j := 3) (.pointer none) c2'
      have c5' := set_same (j := 5) (.int .i64 0) c3'
      have c6' := set_same (j := 6) (.int .i64 0) c5'
      have FIN : Aside0 (Ca B (((((W.setCell ⟨L, 1, none⟩ (.map (some wr.heap.size))).setCell ⟨L, 2, none⟩ (.pointer none)).setCell ⟨L, 3, none⟩ (.pointer none)).setCell ⟨L, 5, none⟩ (.int .i64 0)).setCell ⟨L, 6, none⟩ (.int .i64 0)) L wr.heap.size (cbv G) sz 0 0 [] ∧
          Fr B wr (((((W.setCell ⟨L, 1, none⟩ (.map (some wr.heap.size))).setCell ⟨L, 2, none⟩ (.pointer none)).setCell ⟨L, 3, none⟩ (.pointer none)).setCell ⟨L, 5, none⟩ (.int .i64 0)).setCell ⟨L, 6, none⟩ (.int .i64 0))) := by
        refine ⟨empty (c6'.trans rfl) ?_ h.bL hB, ?_⟩
        · exact (set_other _ _ hLM').trans ((set_other _ _ hLM').trans ((set_other _ _ hLM').trans ((set_other _ _ hLM').trans ((set_other _ _ hLM').trans hMW))))
        · have hbL := h.bL
          have hnp : ∀ (k : Nat) (o : Obj), wr.heap[k]? = some o → Plain o → k ≠ L := fun k o hk hp e => h.not_plain L (by simp) o (by rw [← e]; exact hk) hp
          refine ⟨hf.os, hf.tape, hf.output, ?_, fun k hk => ?_, fun k o hk hp => ?_⟩
          · simpa [World.setCell] using hf.size
          · have hkL : k ≠ L := by omega
            exact (set_other _ _ hkL).trans ((set_other _ _ hkL).trans ((set_other _ _ hkL).trans ((set_other _ _ hkL).trans ((set_other _ _ hkL).trans (hf.old k hk)))))
          · have hkL := hnp k o hk hp
            exact (set_other _ _ hkL).trans ((set_other _ _ hkL).trans ((set_other _ _ hkL).trans ((set_other _ _ hkL).trans ((set_other _ _ hkL).trans (hf.plain k o hk hp)))))
      have d1 : wr.cell? ⟨L, 1, none⟩ = some (.map (some M)) := by rw [Lib.cell_of_heap h.ls.own]; rfl
      clear h hown hMW hf c1' c2' c3' c5' c6' hW hrg hc0 hl0 hB
      go_wp2_with (fail)
      go_end0
      refine ⟨rfl, _, gs, v, FIN.out.1, HP.out.1.gv.fr FIN.out.2, ?_, HP.out.1.fz.trans (Fz.of_fr FIN.out.2)⟩
      have hpm := HP.out.1.pm
      unfold pl at hpm ⊢
      simpa using hpm
    · intro x c kl a b w1 cnt1 hkey hlk hv hat hrg1 hlt hg1 hs1 hen
      obtain ⟨e, he, rfl⟩ := HP.out.1.lf kl hlk
      obtain ⟨x', hx1, hx2, _⟩ := Maps.keyOf_int_inv Try.underlying3 hkey
      obtain rfl : x = e.k := by cases hx1; cases hx2; rfl
      obtain rfl : c = .pointer (some ⟨e.b, 0, none⟩) := by
        have h1 := tokR_inv hv
        have h2 := (HH.out.2.2.1 (.int .i64 e.k)).2 nil
        rw [hat, look_int, find_mem HH.out.1.nk e (HP.out.1.sub e he)] at h2
        injection h1 with h1 _
        rw [h1] at h2
        injection h2
      obtain ⟨r1, r2, rfl⟩ := List.append_of_mem he
      have hri := ranges_iter HP.out.1.rg
      have hk1 : ∀ (k : Nat) (o : Obj), wr.heap[k]? = some o → (∀ x y z u, o ≠ .mapIter x y z u) → w1.heap[k]? = some o := fun k o hk hne => (hg1.block k (Array.getElem?_eq_some_iff.1 hk).1 (fun e2 => by
        obtain ⟨x, y, z, u, hz⟩ := hri
        injection e2 with e2
        rw [← e2, hk] at hz
        exact hne _ _ _ _ (Option.some.inj hz))).trans hk
      have hC1 : Ca B w1 L M (cbv G) sz hh mm es := caKept HP.out.1.ca (fun k o hk hp => hk1 k o hk (fun x y z u e2 => hp (by rw [e2]; exact plainIter x y z u)))
      have hG1 : Gv B w1 G v gs := ⟨hk1 G _ HP.out.1.gv.own (fun _ _ _ _ h => (by cases h)), rowKept HP.out.1.gv.row (fun k c _ hk => hk1 k _ hk (fun _ _ _ _ h => (by cases h))), HP.out.1.gv.bG⟩
      have hpl : gs.length ≤ 100000 := by
        have h1 := HP.out.1.pm.length_eq
        rw [List.length_append, pl_len, pl_len] at h1
        have := HH.out.2.2.2.2.2
        omega
      have hse := hC1.ls.seg.at_ e (HP.out.1.sub e he)
      have l4 : w1.cell? ⟨L, 4, none⟩ = some (.func (.func 13) #[] #[.pointer (some ⟨G, 0, none⟩)]) := by rw [Lib.cell_of_heap hC1.ls.own]; rfl
      have e1 : w1.cell? ⟨e.b, 1, none⟩ = some (.int .i64 e.v) := by
        obtain ⟨q, z, hq⟩ := hse
        rw [Lib.cell_of_heap hq]; rfl
      have cT := tell hG1.drew (by omega) e.k e.v
      have S0 : Aside0 (w1.cell? ⟨L, 4, none⟩ = some (.func (.func 13) #[] #[.pointer (some ⟨G, 0, none⟩)]) ∧ w1.cell? ⟨e.b, 1, none⟩ = some (.int .i64 e.v)) := ⟨⟨l4, e1⟩⟩
      have hfz := HP.out.1.fz
      have hF1 : Fz [G] B w w1 := ⟨hg1.os.trans hfz.os, hg1.tape.trans hfz.tape, hg1.output.trans hfz.output, Nat.le_trans hfz.size hg1.size, fun k hk => (hg1.block k (by have := HH.out.2.2.2.2.1; have := hfz.size; omega) (fun e2 => by injection e2 with e2; have := HH.out.2.2.2.2.1; omega)).trans (hfz.old k hk), fun k o hX hk hp => (hg1.block k (by have := (Array.getElem?_eq_some_iff.1 hk).1; have := hfz.size; omega) (fun e2 => by injection e2 with e2; have := (Array.getElem?_eq_some_iff.1 hk).1; omega)).trans (hfz.plain k o hX hk hp)⟩
      have HM := Aside0.mk (And.intro hC1 (And.intro hG1 (And.intro hrg1 hF1)))
      clear hkey hlk hv hat hrg1 hlt hg1 hs1 hrg hri hk1 hC1 hG1 hse l4 e1 hx1 hx2 hF1 hpl he hfz
      obtain ⟨g', rfl⟩ : ∃ g', gk = g' + 1 := ⟨gk - 1, by have := HP.out.2; simp at this; omega⟩
      go_wp2_with (fail)
      -- REGION 5
      refine start_ (n := 10) (S := fun w' => w'.cell? ⟨L, 4, none⟩ = some (.func (.func 13) #[] #[.pointer (some ⟨G, 0, none⟩)]) ∧ w'.cell? ⟨e.b, 1, none⟩ = some (.int .i64 e.v)) (ds := []) #[false, false, false, false, false, false, false, false, false, false] (by kernel_rfl) rfl rfl S0.out (fun hHeld => ?_); refine with_tabW tab5 bits5 (fun HT_ HW_ => ?_)
      refine pure_ (i := 0) (N := some 28) (v := ?_) (a' := ?_) #[true, false, false, false, false, false, false, false, false, false] rfl rfl (any_of HT_.out (by kernel_rfl)) (fun _ _ _ h => h) (Or.inl ⟨by rfl, ?_⟩) ?_ ?_
      rotate_left
      · intro w'
        go_simp
        with_reducible rfl
      rotate_left
      · simp only [Act.put, List.setIfInBounds_toArray, List.set_cons_zero, List.set_cons_succ, i64_w, i32_w]
        rfl
      refine pure_ (i := 1) (N := some 29) (v := ?_) (a' := ?_) #[true, true, false, false, false, false, false, false, false, false] rfl rfl (any_of HT_.out (by kernel_rfl)) (fun _ _ _ h => h) (Or.inl ⟨by rfl, ?_⟩) ?_ ?_
      rotate_left
      · intro w'
        go_simp
        with_reducible rfl
      rotate_left
      · simp only [Act.put, List.setIfInBounds_toArray, List.set_cons_zero, List.set_cons_succ, i64_w, i32_w]
        rfl
      refine pure_ (i := 2) (N := some 30) (v := ?_) (a' := ?_) #[true, true, true, false, false, false, false, false, false, false] rfl rfl (any_of HT_.out (by kernel_rfl)) (fun _ _ _ h => h) (Or.inl ⟨by rfl, ?_⟩) ?_ ?_
      rotate_left
      · intro w'
        go_simp
        with_reducible rfl
      rotate_left
      · simp only [Act.put, List.setIfInBounds_toArray, List.set_cons_zero, List.set_cons_succ, i64_w, i32_w]
        rfl
      refine take_ (i := 3) (N := some 31) (v := ?_) (a' := ?_) #[true, true, true, true, false, false, false, false, false, false] rfl rfl (take_ofW HT_.out HW_.out (by kernel_rfl)) (fun _ _ _ h => h) (Or.inl ⟨by rfl, ?_⟩) hHeld ?_ ?_
      rotate_left
      · rintro w' ⟨s0, s1⟩
        go_simp
        with_reducible rfl
      rotate_left
      · simp only [Act.put, List.setIfInBounds_toArray, List.set_cons_zero, List.set_cons_succ, i64_w, i32_w]
        rfl
      refine pure_ (i := 4) (N := some 32) (v := ?_) (a' := ?_) #[true, true, true, true, true, false, false, false, false, false] rfl rfl (any_of HT_.out (by kernel_rfl)) (fun _ _ _ h => h) (Or.inl ⟨by rfl, ?_⟩) ?_ ?_
      rotate_left
      · intro w'
        go_simp
        with_reducible rfl
      rotate_left
      · simp only [Act.put, List.setIfInBounds_toArray, List.set_cons_zero, List.set_cons_succ, i64_w, i32_w]
        rfl
      refine pure_ (i := 5) (N := some 33) (v := ?_) (a' := ?_) #[true, true, true, true, true, true, false, false, false, false] rfl rfl (any_of HT_.out (by kernel_rfl)) (fun _ _ _ h => h) (Or.inl ⟨by rfl, ?_⟩) ?_ ?_
      rotate_left
      · intro w'
        go_simp
        with_reducible rfl
      rotate_left
      · simp only [Act.put, List.setIfInBounds_toArray, List.set_cons_zero, List.set_cons_succ, i64_w, i32_w]
        rfl
      refine pure_ (i := 6) (N := some 34) (v := ?_) (a' := ?_) #[true, true, true, true, true, true, true, false, false, false] rfl rfl (any_of HT_.out (by kernel_rfl)) (fun _ _ _ h => h) (Or.inl ⟨by rfl, ?_⟩) ?_ ?_
      rotate_left
      · intro w'
        go_simp
        with_reducible rfl
      rotate_left
      · simp only [Act.put, List.setIfInBounds_toArray, List.set_cons_zero, List.set_cons_succ, i64_w, i32_w]
        rfl
      refine pure_ (i := 7) (N := some 35) (v := ?_) (a' := ?_) #[true, true, true, true, true, true, true, true, false, false] rfl rfl (any_of HT_.out (by kernel_rfl)) (fun _ _ _ h => h) (Or.inl ⟨by rfl, ?_⟩) ?_ ?_
      rotate_left
      · intro w'
        go_simp
        with_reducible rfl
      rotate_left
      · simp only [Act.put, List.setIfInBounds_toArray, List.set_cons_zero, List.set_cons_succ, i64_w, i32_w]
        rfl
      refine take_ (i := 8) (N := some 36) (v := ?_) (a' := ?_) #[true, true, true, true, true, true, true, true, true, false] rfl rfl (take_ofW HT_.out HW_.out (by kernel_rfl)) (fun _ _ _ h => h) (Or.inl ⟨by rfl, ?_⟩) hHeld ?_ ?_
      rotate_left
      · rintro w' ⟨s0, s1⟩
        go_simp
        with_reducible rfl
      rotate_left
      · simp only [Act.put, List.setIfInBounds_toArray, List.set_cons_zero, List.set_cons_succ, i64_w, i32_w]
        rfl
      refine one_ (i := 9) (N := some 37) #[true, true, true, true, true, true, true, true, true, true] rfl rfl (one_of HT_.out (by kernel_rfl)) (by decide) (fun Kc hKc => ?_)
      refine goesV_ Try.func13 (by kernel_rfl) rfl #[.int .i64 e.k, .int .i64 e.v] #[.pointer (some ⟨G, 0, none⟩)] (by rfl) rfl rfl (by rfl) (by (try simp only [List.map_toArray, List.map_cons, List.map_nil]); first | done | rfl) ?_
      refine cT.mono ?_
      rintro r w2 ⟨rfl, v2, hg2, hb2, hk2, hat2⟩
      refine ⟨_, rfl, ?_⟩
      have hkk : ∀ (k : Nat) (o : Obj), w1.heap[k]? = some o → (∀ c f, o ≠ .cells c 31 f) → (∀ c f, o ≠ .cells c 44 f) → w2.heap[k]? = some o := fun k o hk h1 h2 => (hk2 k (Array.getElem?_eq_some_iff.1 hk).1 (fun e2 => by rw [e2, HM.out.2.1.own] at hk; exact h1 _ _ (Option.some.inj hk).symm) (fun e2 => by obtain ⟨c, hc⟩ := Sps.own44 HM.out.2.1.row e2; rw [hc] at hk; exact h2 _ _ (Option.some.inj hk).symm)).trans hk
      have hC2 : Ca B w2 L M (cbv G) sz hh mm es := caKept HM.out.1 (fun k o hk hp => hkk k o hk (fun c f e2 => hp (by subst e2; exact plainC (by decide) (by decide))) (fun c f e2 => hp (by subst e2; exact plainC (by decide) (by decide))))
      have hR2 := rangesHeap HM.out.2.2.1 (w' := w2) (fun o ho => by obtain ⟨x, y, hm⟩ := ranges_map HM.out.2.2.1; rw [hm] at ho; cases ho; exact hkk _ _ hm (fun _ _ h => (by cases h)) (fun _ _ h => (by cases h))) (fun o ho => by obtain ⟨x, y, z, u, hm⟩ := ranges_iter HM.out.2.2.1; rw [hm] at ho; cases ho; exact hkk _ _ hm (fun _ _ h => (by cases h)) (fun _ _ h => (by cases h)))
      have hfr2 : ∀ g, v2.ownBlock = some g → w.heap.size ≤ g := fun g e2 => by
        rcases hat2 with h1 | ⟨g2, h1, h2⟩
        · exact HP.out.1.fresh g (by rw [← h1]; exact e2)
        · rw [h1] at e2; injection e2 with e2; have := HM.out.2.2.2.size; have h3 : w1.drew.heap.size = w1.heap.size := rfl; omega
      have hF2 : Fz [G] B w w2 := ⟨hb2.os.trans HM.out.2.2.2.os, hb2.tape.trans HM.out.2.2.2.tape, hb2.output.trans HM.out.2.2.2.output, Nat.le_trans HM.out.2.2.2.size hb2.size, fun k hk => (hb2.block k hk).trans (HM.out.2.2.2.old k hk), fun k o hX hk hp => (hk2 k (by have := (Array.getElem?_eq_some_iff.1 hk).1; have := HM.out.2.2.2.size; have h3 : w1.drew.heap.size = w1.heap.size := rfl; omega) (fun e2 => hX (by rw [e2]; simp)) (fun e2 => by have := HP.out.1.fresh k e2; have := (Array.getElem?_eq_some_iff.1 hk).1; omega)).trans (HM.out.2.2.2.plain k o hX hk hp)⟩
      have HM2 := Aside0.mk (HP.out.1.step hC2 hg2 hR2 hF2 hfr2)
      have SB : Aside0 (w2.cell? ⟨L, 4, none⟩ = some (.func (.func 13) #[] #[.pointer (some ⟨G, 0, none⟩)]) ∧ w2.cell? ⟨e.b, 1, none⟩ = some (.int .i64 e.v)) := ⟨⟨by rw [Lib.cell_of_heap hC2.ls.own]; rfl, by obtain ⟨q, z, hq⟩ := hC2.ls.seg.at_ e (HP.out.1.sub e (by simp)); rw [Lib.cell_of_heap hq]; rfl⟩⟩
      clear hg2 hb2 hk2 hat2 hkk hC2 hR2 hfr2 hF2
      refine hKc.out _ _ SB.out (fun hHeld => ?_)
      clear hKc Kc
      refine norm_ (a' := ?_) ?_ ?_
      rotate_left
      · show Act.put _ (some 37) _ = _
        simp only [Act.put, List.setIfInBounds_toArray, List.set_cons_zero, List.set_cons_succ, i64_w, i32_w]
        rfl
      refine done_ (done_of HT_.out (by kernel_rfl)) ?_
      -- END REGION 5
      clear hHeld
      go_wp2_with (fail)
      go_roundg g'
      case measure => exact Nat.lt_succ_self _
      case rel => exact ⟨_, _, _, _, _, HM2.out, by have := HP.out.2; simp at this ⊢; omega⟩
end Go.Proofs.Ytjhmcpdnmfhodaa.Led
