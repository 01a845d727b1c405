/- Each over the literal that puts pairs into the facts. -/
import Derived.Test.YtokdamfalhcnnaaPb
section
/- Each over the literal that puts pairs into the facts. -/
namespace Go.Proofs.Ytokdamfalhcnnaa.Pc
open Go Go.Maps Go.ChangeMaps Go.MapKept Go.RowKit Go.Proofs.YtokdamfalhcnnaaW.PrintWords Go.Proofs.YtokdamfalhcnnaaW.PrintLast Go.Proofs.YtokdamfalhcnnaaW.PrintMore Mp Mq Mr Ms Mt Mu Small Mv Mo Mw Mx Pa Pb

set_option linter.all false
set_option maxRecDepth 1000000
set_option maxHeartbeats 4000000
variable {B F : Nat} {w w' : World} {ev : Value} {es ds ps : List Pr} {arr : Array Value} {b : Nat}
/-- a world but for block F and the row of v -/
structure Kp (w w' : World) (F : Nat) (v : Value) : Prop where
  os : w'.os = w.os
  tape : w'.tape = w.tape
  output : w'.output = w.output
  size : w.heap.size ≤ w'.heap.size
  block : ∀ k, k < w.heap.size → k ≠ F → v.ownBlock ≠ some k → w'.heap[k]? = w.heap[k]?
/-- f.Pairs or f.Each (field j) gets one more pair -/
theorem put_field {j : Nat} {v' : Value} {w1 : World} {qs : List Pr} (hf : w.heap[F]? = some (.cells arr 36 (0, 0))) (hz : arr.size = 10) (ho : w.ownsRow B 29 2 ev es.length (pcs es)) (h1 : w1.ownsRow B 29 2 v' qs.length (pcs qs)) (hg : w.grownBy w1 ev.ownBlock) (hat : v'.ownBlock = ev.ownBlock ∨ ∃ g, v'.ownBlock = some g ∧ w.heap.size ≤ g) :
    w1.heap[F]? = some (.cells arr 36 (0, 0)) ∧ (w1.setCell ⟨F, j, none⟩ v').heap[F]? = some (.cells (arr.setIfInBounds j v') 36 (0, 0)) ∧ (w1.setCell ⟨F, j, none⟩ v').ownsRow B 29 2 v' qs.length (pcs qs) ∧ Kp w (w1.setCell ⟨F, j, none⟩ v') F ev := by
  have hF : F < w.heap.size := (Array.getElem?_eq_some_iff.1 hf).1
  have hne : ev.ownBlock ≠ some F := fun e => by
    obtain ⟨cs, hcs⟩ := own_typed ho _ e
    rw [hf] at hcs; cases hcs
  have hf1 : w1.heap[F]? = some (.cells arr 36 (0, 0)) := (hg.block F hF (fun e => hne e.symm)).trans hf
  have hne' : v'.ownBlock ≠ some F := by
    rcases hat with h | ⟨g, h, hg⟩
    · rw [h]; exact hne
    · rw [h]; intro e; injection e with e; omega
  have hk : w1.grownBy (w1.setCell ⟨F, j, none⟩ v') (some F) := ⟨rfl, rfl, rfl, by simp [World.setCell], fun k _ hk => Below.heap_setCell _ _ _ k (fun e => hk (by rw [e]))⟩
  refine ⟨hf1, heap_setCell_same w1 F j _ 36 v' hf1, h1.kept hk (.inr hne'), hk.os.trans hg.os, hk.tape.trans hg.tape, hk.output.trans hg.output, Nat.le_trans hg.size hk.size, fun k hk' hkF hkv => ?_⟩
  exact (hk.block k (Nat.lt_of_lt_of_le hk' hg.size) (fun e => hkF (Option.some.inj e))).trans (hg.block k hk' (fun e => hkv e.symm))
theorem own_slice {t : TypeId} {s n : Nat} {v : Value} {xs : List Value} (h : w.ownsRow B t s v n xs) : ∃ A n c, v = .slice A n c := by
  rcases h.2 with ⟨h1, _⟩ | ⟨g2, c2, _, h1, _⟩
  · exact ⟨_, _, _, h1⟩
  · exact ⟨_, _, _, h1⟩
theorem lit30 (hf : w.heap[F]? = some (.cells arr 36 (0, 0))) (hz : arr.size = 10) (h8 : arr[8]? = some ev) (ho : w.ownsRow B 29 2 ev es.length (pcs es)) (hB : B ≤ w.heap.size) (hs : Srt es) (x y : Int) (hx : ∀ e ∈ es, e.1 ≠ x) (hl : es.length ≤ 100000) :
    Calls Try.prog 30 (#[.int .i64 x, .int .i64 y] ++ #[.pointer (some ⟨F, 0, none⟩)]) w fun r w' => r = .returned (.tuple #[]) ∧ ∃ v', w'.heap[F]? = some (.cells (arr.setIfInBounds 8 v') 36 (0, 0)) ∧ w'.ownsRow B 29 2 v' (ins es (x, y)).length (pcs (ins es (x, y))) ∧ Kp w w' F ev := by
  have hu36 := Try.underlying36
  have c8 : w.cell? ⟨F, 8, none⟩ = some ev := by rw [Lib.cell_of_heap hf]; exact h8
  have c28 := pairedT (p := (x, y)) ho hB hs hx hl
  have HL := Aside0.mk (And.intro hf (And.intro hz (And.intro h8 ho)))
  clear hf hz h8 ho hB hs hx hl
  go_enter Try.func30, Try.ntmps30
  go_wp2_with (first | (go_at_call 28; refine c28.mono ?_; rintro e w1 ⟨v', rfl, h1, h2, h3⟩
                        obtain ⟨A', n', c', rfl⟩ := own_slice h1
                        have hP := put_field (j := 8) HL.out.1 HL.out.2.1 HL.out.2.2.2 h1 h2 h3
                        have c8' : w1.cell? ⟨F, 8, none⟩ = some ev := (by rw [Lib.cell_of_heap hP.1]; exact HL.out.2.2.1)
                        have f8' : w1.frozen? ⟨F, 8, none⟩ = false := (by rw [Lib.frozen_of_heap hP.1])
                        have HP := Aside0.mk hP
                        clear hP h1 h2 h3 c28))
  go_end0
  exact ⟨rfl, _, HP.out.2.1, HP.out.2.2.1, HP.out.2.2.2⟩
end Go.Proofs.Ytokdamfalhcnnaa.Pc
end

section
/- Each over the literal that puts pairs into the facts: the walk. -/
namespace Go.Proofs.Ytokdamfalhcnnaa.Pd
open Go Go.Maps Go.ChangeMaps Go.MapKept Go.RowKit Go.Proofs.YtokdamfalhcnnaaW.PrintWords Go.Proofs.YtokdamfalhcnnaaW.PrintLast Go.Proofs.YtokdamfalhcnnaaW.PrintMore Mp Mq Mr Ms Mt Mu Small Mv Mo Mw Mx Pa Pb Pc

set_option linter.all false
set_option maxRecDepth 1000000
set_option maxHeartbeats 4000000
theorem fresh_of {ds rem ps r1 r2 : List Pr} {x y : Int} (pm : (ds ++ rem).Perm ps) (nk : (keys ps).Nodup) (hrem : rem = r1 ++ (x, y) :: r2) : ∀ e ∈ ds, e.1 ≠ x := by
  subst hrem
  have h2 : (keys (ds ++ (r1 ++ (x, y) :: r2))).Nodup := (pm.map Prod.fst).nodup_iff.2 nk
  unfold keys at h2
  rw [List.map_append] at h2
  intro e he hx
  exact (List.nodup_append.1 h2).2.2 e.1 (List.mem_map.2 ⟨e, he, rfl⟩) x (List.mem_map.2 ⟨(x, y), by simp, rfl⟩) hx
theorem ins_snoc {es ds : List Pr} {p : Pr} (hs : Srt es) (hp : es.Perm ds) (hx : ∀ e ∈ ds, e.1 ≠ p.1) : (ins es p).Perm (ds ++ [p]) := by
  refine (put_ins p hs).symm.trans ?_
  unfold put
  rw [del_none (fun e he => hx e (hp.mem_iff.1 he))]
  exact (List.Perm.cons p hp).trans (List.perm_append_singleton p ds).symm
theorem srt_eq {a c : List Pr} (h : a.Perm c) (ha : Srt a) (hc : Srt c) : a = c :=
  List.Perm.eq_of_pairwise (le := fun x y : Pr => x.1 < y.1) (fun x y _ _ h1 h2 => by omega) ha hc h
structure Ea (b r F : Nat) (w0 w : World) (ps ds rem : List Pr) (arr : Array Value) (es : List Pr) (v : Value) : Prop where
  rg : Rg b r w ps rem
  pm : (ds ++ rem).Perm ps
  gr : w0.grownBy w (some F)
  fb : w.heap[F]? = some (.cells (arr.setIfInBounds 8 v) 36 (0, 0))
  row : w.ownsRow w0.heap.size 29 2 v es.length (pcs es)
  srt : Srt es
  pe : es.Perm ds
theorem eachT {b F : Nat} {w : World} {ps : List Pr} {arr : Array Value} (h : Mq b w ps) (hs : Srt ps) (hl : ps.length ≤ 90000) (hf : w.heap[F]? = some (.cells arr 36 (0, 0))) (hz : arr.size = 10) (h8 : arr[8]? = some (.slice none 0 0)) :
    Calls Try.prog 29 #[.map (some b), .func (.func 30) #[] #[.pointer (some ⟨F, 0, none⟩)]] w fun r w' => r = .returned (.tuple #[]) ∧ ∃ v, w'.heap[F]? = some (.cells (arr.setIfInBounds 8 v) 36 (0, 0)) ∧ w'.ownsRow w.heap.size 29 2 v ps.length (pcs ps) ∧ w.grownBy w' (some F) := by
  have hb := h.lt
  have hbF := h.ne_cells hf
  have hF : F < w.heap.size := (Array.getElem?_eq_some_iff.1 hf).1
  have e8 : arr.setIfInBounds 8 (.slice none 0 0) = arr := by
    apply Array.ext_getElem?
    intro i
    rw [Array.getElem?_setIfInBounds]
    split
    · rename_i hi; subst hi
      rw [if_pos (by omega), h8]
    · rfl
  have HL := Aside0.mk (And.intro hs (And.intro hl (And.intro hf (And.intro hz (And.intro e8 (And.intro hb (And.intro hbF hF)))))))
  clear hs hl hf hz h8 e8 hb hbF hF
  go_enter Try.func29, Try.ntmps29
  go_wp2_with (first | (refine range_ _ rfl _ rfl rfl h ?_; intro w0 hr0 hg1 hs1; have H0 := Aside0.mk (And.intro hr0 (And.intro hg1 hs1)); clear hr0 hg1 hs1 h))
  go_frame
  have hS0 : Ea b w.heap.size F w w0 ps [] ps arr [] (.slice none 0 0) := by
    refine ⟨H0.out.1, List.Perm.refl _, H0.out.2.1.but _, ?_, ⟨rfl, .inl ⟨rfl, rfl⟩⟩, List.Pairwise.nil, List.Perm.refl _⟩
    rw [HL.out.2.2.2.2.1]
    exact (H0.out.2.1.block F HL.out.2.2.2.2.2.2.2 (by simp)).trans HL.out.2.2.1
  have HS := Aside0.mk hS0
  clear hS0
  go_loopg [4, 5] ps.length (fun gk v4 v5 wx => ∃ ds rem es v, Ea b w.heap.size F w wx ps ds rem arr es v ∧ rem.length ≤ gk)
  case atStart => exact ⟨[], ps, [], _, HS.out, Nat.le_refl _⟩
  case round =>
    obtain ⟨ds, rem, es, v, hP, hlen⟩ := hrel
    have HP := Aside0.mk (And.intro hP hlen)
    have hrg := hP.rg
    clear hP hlen
    go_wp2_with (first | (refine next_ _ rfl _ rfl rfl hrg ?_ ?_))
    · intro hrem
      subst hrem
      clear hrg
      go_wp2_with (fail)
      go_end0
      have hpm : ds.Perm ps := by have := HP.out.1.pm; simpa using this
      have he : es = ps := srt_eq (HP.out.1.pe.trans hpm) HP.out.1.srt HL.out.1
      have hrow := HP.out.1.row
      rw [he] at hrow
      exact ⟨rfl, v, HP.out.1.fb, hrow, HP.out.1.gr⟩
    · intro x y r1 r2 w1 hrem hrg1 hg1 hs1 hen
      have hFr : F ≠ w.heap.size := by have := HL.out.2.2.2.2.2.2.2; omega
      have hFl : F < wr.heap.size := (Array.getElem?_eq_some_iff.1 HP.out.1.fb).1
      have hvr : v.ownBlock ≠ some w.heap.size := fun e2 => by
        obtain ⟨cs, hcs⟩ := own_typed HP.out.1.row _ e2
        obtain ⟨a1, a2, a3, a4, hi⟩ := HP.out.1.rg.iter
        rw [hcs] at hi; cases hi
      have hrow1 := HP.out.1.row.kept hg1 (.inr hvr)
      have hf1 := (hg1.block F hFl (fun e2 => hFr (Option.some.inj e2))).trans HP.out.1.fb
      have hxd := fresh_of HP.out.1.pm HP.out.1.rg.nk hrem
      have hzz : (arr.setIfInBounds 8 v).size = 10 := by rw [Array.size_setIfInBounds]; exact HL.out.2.2.2.1
      have h88 : (arr.setIfInBounds 8 v)[8]? = some v := by rw [Array.getElem?_setIfInBounds, if_pos rfl, if_pos (by have := HL.out.2.2.2.1; omega)]
      have hle : es.length ≤ 100000 := by
        have h1 := HP.out.1.pm.length_eq
        have h2 := HP.out.1.pe.length_eq
        rw [List.length_append] at h1
        have := HL.out.2.1
        omega
      have c30 := lit30 hf1 hzz h88 hrow1 (by rw [hs1]; exact HP.out.1.gr.size) HP.out.1.srt x y (fun e he => hxd e (HP.out.1.pe.mem_iff.1 he)) hle
      have hlr : rem.length = (r1 ++ r2).length + 1 := by rw [hrem]; simp; omega
      have hg01 := HP.out.1.gr.andThen hg1 (fun j hj => by injection hj with hj; left; omega)
      have HQ := Aside0.mk (And.intro hrg1 (And.intro hrem (And.intro hlr (And.intro hxd (And.intro hg01 (And.intro hvr (And.intro hFr hs1)))))))
      obtain ⟨g', rfl⟩ : ∃ g', gk = g' + 1 := ⟨gk - 1, by have := HP.out.2; omega⟩
      clear hrem hrg1 hg1 hs1 hFr hFl hvr hrow1 hf1 hxd hzz h88 hle hlr hrg hg01
      go_wp2_with (first | (go_at_call 30; refine c30.mono ?_; rintro e w2 ⟨rfl, v', hf2, hrow2, hk2⟩; have H2 := Aside0.mk (And.intro hf2 (And.intro hrow2 hk2)); clear hf2 hrow2 hk2 c30))
      go_roundg g'
      case measure => exact Nat.lt_succ_self _
      case rel =>
        have hvb : ∀ k, k < w.heap.size → v.ownBlock ≠ some k := fun k hk e2 => by have := (HP.out.1.row.lt k e2).1; omega
        have hlt := HQ.out.1.lt
        have hk := H2.out.2.2
        have hb := HL.out.2.2.2.2.2.1
        refine ⟨ds ++ [(x, y)], r1 ++ r2, _, v', ⟨HQ.out.1.of_heap (hk.block b hlt.2.1 (fun e => HL.out.2.2.2.2.2.2.1 e.symm) (hvb b hb)) (hk.block _ hlt.1 (fun e => HQ.out.2.2.2.2.2.2.1 e.symm) HQ.out.2.2.2.2.2.1), ?_, ?_, ?_, H2.out.2.1, srt_ins _ HP.out.1.srt, ins_snoc HP.out.1.srt HP.out.1.pe HQ.out.2.2.2.1⟩, by have := HP.out.2; have := HQ.out.2.2.1; omega⟩
        · exact perm_step (HQ.out.2.1 ▸ HP.out.1.pm)
        · have hg := HQ.out.2.2.2.2.1
          exact ⟨hk.os.trans hg.os, hk.tape.trans hg.tape, hk.output.trans hg.output, Nat.le_trans hg.size hk.size, fun k hkl hkF => (hk.block k (Nat.lt_of_lt_of_le hkl hg.size) (fun e => hkF (by rw [e])) (hvb k hkl)).trans (hg.block k hkl hkF)⟩
        · have := H2.out.1
          rw [Array.setIfInBounds_setIfInBounds] at this
          exact this
theorem each_nil {F : Nat} (w : World) : Calls Try.prog 29 #[.map none, .func (.func 30) #[] #[.pointer (some ⟨F, 0, none⟩)]] w fun r w' => r = .returned (.tuple #[]) ∧ Below w.heap.size w w' := by
  have hrg := run_range_nilMap (P := Try.prog) w 47 3 3 u47
  have hnx : ∀ ty, (Instr.next (.pointer (some ⟨w.heap.size, 0, none⟩)) false ty).run Try.prog (w.alloc (.mapIter none 0 #[] 0)) = _ := fun ty => run_next_nilMap w ty 0 0 #[]
  go_enter Try.func29, Try.ntmps29
  go_wp2
  refine wp_loop_rounds 1 ?_
  rw [rounds_succ]
  go_wp2
  go_end0
  exact ⟨rfl, (Below.refl _ w).alloc (Nat.le_refl _) _⟩
end Go.Proofs.Ytokdamfalhcnnaa.Pd
end
