/- The walks of strings.Map over toUpper's literal, and of text.toUpper, on ASCII. -/
import Derived.Test.YtmphemnmbofpaaaDoorRRRMpw
namespace Go.Proofs.YtmphemnmbofpaaaDoorRRR.Mpx
open Go Go.RowKit Go.Lib Go.Shelf Go.Proofs.YtmphemnmbofpaaaDoorRRR.Small Go.Proofs.YtmphemnmbofpaaaDoorRRR.Dec Go.Proofs.YtmphemnmbofpaaaDoorRRRW.PrintWords Go.Proofs.YtmphemnmbofpaaaDoorRRR.Mpw

theorem dec_ascii (s : ByteArray) (p : Nat) (hp : p < s.size) (h : (s.data.toList.getD p 0).toNat < 128) : Utf8.decode s p = ((s.data.toList.getD p 0).toNat, 1) := by
  obtain ⟨_, _, ⟨_, e⟩ | ⟨h1, _⟩⟩ := dec s p hp
  · exact e
  · exact absurd h (by unfold at_ at h1; omega)
theorem drop_cons (l : List UInt8) (p : Nat) (hp : p < l.length) : l.drop p = l.getD p 0 :: l.drop (p + 1) := by
  rw [Small.getD_at 0 l p hp]; exact List.drop_eq_getElem_cons hp
theorem take_snoc (l : List UInt8) (p : Nat) (hp : p < l.length) : l.take (p + 1) = l.take p ++ [l.getD p 0] := by
  rw [Small.getD_at 0 l p hp, take_succ_at l p hp]
theorem runeLen_ascii (x : UInt8) (h : x.toNat < 128) : Lib.runeLen (x.toNat : Int) = 1 := by
  unfold Lib.runeLen
  repeat' split
  all_goals omega
theorem runeCells_ascii (x : UInt8) (h : x.toNat < 128) : runeCells (x.toNat : Int) = byteCells [x] := by
  unfold runeCells
  rw [Lib.encodeRuneZ_one (by omega) (by omega)]
  rfl

theorem ws (B b : Nat) (bs : List Value) (s : ByteArray) (w : World) (h : IsBuilderF 44 5 B b bs w) (hlen : bs.length + s.size ≤ 140737488355328) (hBw : B ≤ w.heap.size) :
    Calls Tryd.prog 25 #[.pointer (some ⟨b, 0, none⟩), .string s] w fun e w' => e = .returned (.tuple #[.int .i64 s.size, .nilIface]) ∧ IsBuilderF 44 5 B b (bs ++ strCells s) w' ∧ Below B w w' :=
  (Any.Builder_WriteString_k Tryd.bl166 Tryd.bx166 B b bs s w h hlen hBw).mono fun _ _ h => ⟨h.1, .inr h.2.1, h.2.2.1⟩
theorem wrn (B b : Nat) (bs : List Value) (x : UInt8) (hx : x.toNat < 128) (w : World) (h : IsBuilderF 44 5 B b bs w) (hlen : bs.length + 4 ≤ 140737488355328) (hBw : B ≤ w.heap.size) :
    Calls Tryd.prog 39 #[.pointer (some ⟨b, 0, none⟩), .int .i32 x.toNat] w fun e w' => (∃ v, e = .returned v) ∧ IsBuilderF 44 5 B b (bs ++ byteCells [x]) w' ∧ Below B w w' :=
  (Any.Builder_WriteRune_k Tryd.bl168 Tryd.bx168 B b bs (x.toNat : Int) (by omega) (by omega) w h hlen hBw).mono fun _ _ h => ⟨⟨_, h.1⟩, .inr (by rw [← runeCells_ascii x hx]; exact h.2.1), h.2.2.1⟩
theorem wb (B b : Nat) (bs : List Value) (x : UInt8) (w : World) (h : IsBuilderF 44 5 B b bs w) (hlen : bs.length < 140737488355328) (hBw : B ≤ w.heap.size) :
    Calls Tryd.prog 26 #[.pointer (some ⟨b, 0, none⟩), .int .u8 x.toNat] w fun e w' => (∃ v, e = .returned v) ∧ IsBuilderF 44 5 B b (bs ++ byteCells [x]) w' ∧ Below B w w' ∧ OthersKept 5 (some b) w w' :=
  (Any.Builder_WriteByte_k Tryd.bl167 Tryd.bx167 B b bs (x.toNat : Int) w h hlen hBw).mono fun _ _ h => ⟨⟨_, h.1⟩, .inr h.2.1, h.2.2.1, h.2.2.2⟩

theorem bld_lt {T e : TypeId} {B b : Nat} {bs : List Value} {w : World} (h : IsBuilderF T e B b bs w) : b < w.heap.size :=
  h.elim (fun ⟨_, _, hv, _⟩ => (Array.getElem?_eq_some_iff.1 hv).1) (fun ⟨_, _, hv, _⟩ => (Array.getElem?_eq_some_iff.1 hv).1)
theorem iter_sz (w : World) (s : ByteArray) : (w.iter s 0).heap.size = w.heap.size + 1 := by
  show (w.heap.push _).size = _
  simp only [Array.size_push]
theorem cap_pos {B b : Nat} {bs : List Value} {w : World} (h : IsBuilderF 44 5 B b bs w) (h0 : 1 ≤ bs.length) : ∃ g cap, w.cell? ⟨b, 1, none⟩ = some (.slice (some ⟨g, 0, none⟩) bs.length cap) ∧ ((cap : Int) == 0) = false := by
  have hx : ∀ p, BuilderAtF 44 5 B b p bs w → ∃ g cap, w.cell? ⟨b, 1, none⟩ = some (.slice (some ⟨g, 0, none⟩) bs.length cap) ∧ ((cap : Int) == 0) = false := fun p ⟨_, v, hv, hown, _⟩ => by
    rcases hown.2 with ⟨_, hz⟩ | ⟨g6, cap6, _, _, rfl, _, _, _, hnc, _⟩
    · omega
    · exact ⟨g6, cap6, by rw [Lib.cell_of_heap hv]; rfl, by rw [beq_eq_false_iff_ne]; omega⟩
  exact h.elim (hx _) (hx _)

set_option linter.all false in
set_option maxRecDepth 1000000 in
set_option maxHeartbeats 4000000 in
theorem map (c : Nat) (b0 : Bool) (s : ByteArray) (w : World) (hc : w.heap[c]? = some (.cells #[.bool b0] 4 (0, 0))) (hs : s.size ≤ 1000000) (has : ∀ i, i < s.size → (s.data.toList.getD i 0).toNat < 128) :
    Calls Tryd.prog 28 #[.func (.func 33) #[] #[.pointer (some ⟨c, 0, none⟩)], .string s] w fun e w' => e = .returned (.string (str (out b0 s.data.toList))) ∧ Below c w w' := by
  have HAS := Aside0.mk has
  obtain ⟨ANS, hANS⟩ : ∃ ANS, out b0 s.data.toList = ANS := ⟨_, rfl⟩
  rw [hANS]
  have hlen : s.data.toList.length = s.size := size_data s
  have hcw : c < w.heap.size := (Array.getElem?_eq_some_iff.1 hc).1
  have e33 : ∀ args w, (callFunc 33 args).run Tryd.prog w = .ok (.enter 33 args) w := enters_of Tryd.func33 (by kernel_rfl) rfl
  have HC := Aside0.mk hc
  have HANS := Aside0.mk hANS
  clear has hc hANS
  go_enter Tryd.func28, Tryd.ntmps28
  go_wp2_with (fail)
  go_loopg [1] s.size (fun gk s1 wx => s1 = .string s ∧ ∃ (pos : Nat) (b : Bool), wx.heap[w.heap.size]? = some (.cells #[.pointer none, .slice none 0 0] 44 (0, 0)) ∧ wx.heap[w.heap.size + 1]? = some (.stringIter s pos) ∧ wx.heap[c]? = some (.cells #[.bool b] 4 (0, 0)) ∧ Below c w wx ∧
    Aside0 (s.data.toList.take pos ++ out b (s.data.toList.drop pos) = ANS) ∧ s.size ≤ pos + gk ∧ pos ≤ s.size)
  case atStart =>
    refine ⟨rfl, 0, b0, ?_, ?_, ?_, ((Below.refl _ w).alloc (by omega) _).alloc (by simp; omega) _, ⟨by simpa using HANS.out⟩, by omega, by omega⟩
    · have h1 := heap_alloc_new w (.cells #[.pointer none, .slice none 0 0] 44)
      exact (Below.heap_alloc _ _ _ (by simp)).trans h1
    · have := World.iter_heap (w.alloc (.cells #[.pointer none, .slice none 0 0] 44)) s 0
      simpa using this
    · refine (Below.heap_alloc _ _ _ (by simp; omega)).trans ?_
      exact (Below.heap_alloc _ _ _ hcw).trans HC.out
  case round =>
    obtain ⟨rfl, pos, b, hfr, hit, hcc, hbw, hsp, hfu, hps⟩ := hrel
    by_cases hlt : pos < s.size
    · obtain ⟨g', rfl⟩ : ∃ g', gk = g' + 1 := ⟨gk - 1, by omega⟩
      have hnx : ∀ ty, (Instr.next (.pointer (some ⟨w.heap.size + 1, 0, none⟩)) true ty).run Tryd.prog wr = _ := fun ty => Lib.run_next_any_at wr (w.heap.size + 1) s pos ty hit hlt
      have hx := HAS.out pos hlt
      rw [dec_ascii s pos hlt hx] at hnx
      have hd := drop_cons s.data.toList pos (by omega)
      have htk := take_snoc s.data.toList pos (by omega)
      obtain ⟨x, hxe⟩ : ∃ x, x = s.data.toList.getD pos 0 := ⟨_, rfl⟩
      rw [← hxe] at hnx hx hd htk
      have hit2 := Lib.iterAt_heap wr (w.heap.size + 1) s pos (pos + 1) hit
      have hbw2 := Lib.below_iterAt hbw (k := w.heap.size + 1) (by omega) s (pos + 1)
      have hfr2 := (Lib.iterAt_other wr (w.heap.size + 1) w.heap.size s (pos + 1) (by omega)).trans hfr
      have hcc2 := (Lib.iterAt_other wr (w.heap.size + 1) c s (pos + 1) (by omega)).trans hcc
      obtain ⟨W, hWd⟩ : ∃ W, wr.iterAt (w.heap.size + 1) s (pos + 1) = W := ⟨_, rfl⟩
      rw [hWd] at hnx hit2 hbw2 hfr2 hcc2
      have cS : Calls Tryd.prog 33 (#[.int .i32 (x.toNat : Int)] ++ #[.pointer (some ⟨c, 0, none⟩)]) W _ := lit c b x hx W hcc2
      have hM := st_lt b x hx
      have hout : out b (s.data.toList.drop pos) = (st b x).1 :: out (st b x).2 (s.data.toList.drop (pos + 1)) := by rw [hd]; rfl
      have h65 : ((x.toNat : Int) != 65533) = true := by rw [bne_iff_ne]; omega
      have h65' : ((x.toNat : Int) == 65533) = false := by rw [beq_eq_false_iff_ne]; omega
      obtain ⟨M, hMe⟩ : ∃ M, M = (st b x).1 := ⟨_, rfl⟩
      obtain ⟨b1, hbe⟩ : ∃ b1, b1 = (st b x).2 := ⟨_, rfl⟩
      rw [← hMe, ← hbe] at cS hout
      rw [← hMe] at hM
      have HSP : Aside0 (s.data.toList.take pos ++ (M :: out b1 (s.data.toList.drop (pos + 1))) = ANS) := ⟨by rw [← hsp.out, hout]⟩
      have HTK := Aside0.mk htk
      clear hit hfr hWd hd hxe hMe hbe hout hsp hcc hbw hcc2 htk
      by_cases hMx : M = x
      · subst hMx
        clear h65'
        go_wp2_with (go_at_fn 33; go_must (refine cS.mono ?_; rintro e W' ⟨rfl, hc', hbut⟩))
        go_roundg g'
        case measure => omega
        case rel => exact ⟨rfl, pos + 1, b1, (hbut.1.block _ (Array.getElem?_eq_some_iff.1 hfr2).1 (fun e => by injection e with e; omega)).trans hfr2, (hbut.1.block _ (Array.getElem?_eq_some_iff.1 hit2).1 (fun e => by injection e with e; omega)).trans hit2, hc', hbut.below hbw2 (Nat.le_refl _) (by omega), ⟨by rw [HTK.out, List.append_assoc]; exact HSP.out⟩, by omega, hlt⟩
      · have hMx' : ((M.toNat : Int) == (x.toNat : Int)) = false := by rw [beq_eq_false_iff_ne]; intro h; exact hMx (UInt8.toNat_inj.1 (by omega))
        have hRL := runeLen_ascii x hx
        have cR : ∀ W', Calls Tryd.prog 38 #[.int .i32 (x.toNat : Int)] W' _ := fun W' => Tryd.utf8_RuneLen (x.toNat : Int) W'
        rw [hRL] at cR
        have hMge : decide ((M.toNat : Int) ≥ 0) = true := by simp
        have hMge' : decide ((M.toNat : Int) < 0) = false := by simp
        clear hMx hRL h65
        have hx0 : (s.extract 0 pos).size = pos := by rw [← size_data, Small.extract_data, List.length_take, List.length_drop, hlen]; omega
        have hxd : (s.extract 0 pos).data.toList = s.data.toList.take pos := by rw [Small.extract_data]; simp
        have hpk : ((pos : Int) + 1).toNat = pos + 1 := by omega
        obtain ⟨s2, hs2⟩ : ∃ s2, s.extract (pos + 1) s.size = s2 := ⟨_, rfl⟩
        have hl2 : s2.data.toList = s.data.toList.drop (pos + 1) := by
          rw [← hs2, Small.extract_data, List.take_of_length_le (by rw [List.length_drop, hlen]; omega)]
        have hz2 : s2.size = s.size - (pos + 1) := by rw [← size_data, hl2, List.length_drop, hlen]
        have HX := Aside0.mk (And.intro hx0 hxd)
        have HS2 := Aside0.mk (And.intro hl2 hz2)
        clear hl2
        go_wp2_with (first
          | (go_at_fn 33; go_must (refine cS.mono ?_; rintro e W' ⟨rfl, hc', hbut⟩; have hfrC := (hbut.1.block _ (Array.getElem?_eq_some_iff.1 hfr2).1 (fun e => by injection e with e; omega)).trans hfr2; have hbC := hbut.below hbw2 (Nat.le_refl _) (by omega); have hszC := hbut.2))
          | (go_at_call 38; go_must (refine (cR _).mono ?_; rintro e W3 ⟨rfl, rfl⟩))
          | (go_at_call 24; go_must (rw [show ((s.size : Int) + 4) = ((s.size + 4 : Nat) : Int) from by omega]; refine (Tryd.Builder_Grow_fresh w.heap.size w.heap.size (s.size + 4) _ (Nat.le_refl _) hfrC hbC.size (by omega)).mono ?_; rintro e W4 ⟨rfl, h4, b4⟩))
          | (go_at_call 25; go_must (refine (ws w.heap.size w.heap.size [] (s.extract 0 pos) W4 (Lib.IsBuilderF.of (Or.inr h4)) (by rw [HX.out.1]; simp; omega) (Nat.le_trans hbC.size b4.size)).mono ?_; rintro e W5 ⟨rfl, h5, b5⟩))
          | (go_at_call 39; go_must (refine (wrn w.heap.size w.heap.size _ M hM W5 h5 (by simp [strCells_length, HX.out.1]; omega) (Nat.le_trans hbC.size (Nat.le_trans b4.size b5.size))).mono ?_; rintro e W6 ⟨⟨v6, rfl⟩, h6, b6⟩; obtain ⟨g6, cap6, hc6, hcap6⟩ := cap_pos h6 (by simp [byteCells])))
          | (go_at_call 40; go_must (refine (Tryd.Builder_Cap_cell w.heap.size _ _ cap6 _ hc6).mono ?_; rintro e W7 ⟨rfl, rfl⟩)))
        have hB7 : w.heap.size ≤ W7.heap.size := Nat.le_trans hbC.size (Nat.le_trans b4.size (Nat.le_trans b5.size b6.size))
        have hbl : Below w.heap.size W3 W7 := (b4.trans b5).trans b6
        have hb7 : Below c w W7 := hbC.trans ⟨hbl.os, hbl.tape, hbl.output, hbl.size, fun i hi => hbl.block i (by omega)⟩
        have hc7 : W7.heap[c]? = some (.cells #[.bool b1] 4 (0, 0)) := (hbl.block c hcw).trans hc'
        have hcells : [] ++ strCells (s.extract 0 pos) ++ byteCells [M] = byteCells (s.data.toList.take pos ++ [M]) := by
          rw [List.nil_append, strCells_eq, HX.out.2, byteCells_append]
        rw [hcells] at h6
        have hlt7 : w.heap.size < W7.heap.size := bld_lt h6
        have H6 := Aside0.mk h6
        clear h6 hc6 hcap6 hcells h4 h5 b4 b5 b6 hbl hc' hbut hfrC hbC hszC cS hnx hit2 hfr2 hbw2 hMx' h65' cR hMge hMge' hx0 hxd hpk hs2 HX
        go_loopg [] s2.size (fun gk wx => ∃ (p2 : Nat) (acc : List UInt8) (b : Bool), IsBuilderF 44 5 w.heap.size w.heap.size (byteCells acc) wx ∧ wx.heap[W7.heap.size]? = some (.stringIter s2 p2) ∧ wx.heap[c]? = some (.cells #[.bool b] 4 (0, 0)) ∧ Below c w wx ∧ w.heap.size ≤ wx.heap.size ∧
          Aside0 (acc ++ out b (s2.data.toList.drop p2) = ANS) ∧ s2.size ≤ p2 + gk ∧ p2 ≤ s2.size ∧ acc.length = pos + 1 + p2)
        case atStart =>
          refine ⟨0, s.data.toList.take pos ++ [M], b1, IsBuilderF.alloc H6.out _, World.iter_heap W7 s2 0, (Below.heap_alloc _ _ _ (by omega)).trans hc7, hb7.alloc (by omega) _, by rw [iter_sz]; omega, ⟨?_⟩, by omega, by omega, ?_⟩
          · rw [List.drop_zero, HS2.out.1, List.append_assoc]; exact HSP.out
          · rw [List.length_append, List.length_take, hlen, List.length_singleton]; omega
        case round =>
          obtain ⟨p2, acc, bb, hI, hit, hcc, hbw, hsz, hacc, hfu2, hp2, hal⟩ := hrel
          clear H6
          by_cases hlt2 : p2 < s2.size
          · obtain ⟨g2, rfl⟩ : ∃ g2, gk = g2 + 1 := ⟨gk - 1, by omega⟩
            have hnx : ∀ ty, (Instr.next (.pointer (some ⟨W7.heap.size, 0, none⟩)) true ty).run Tryd.prog wr = _ := fun ty => Lib.run_next_any_at wr W7.heap.size s2 p2 ty hit hlt2
            have hy : (s2.data.toList.getD p2 0).toNat < 128 := by
              have h := HAS.out (pos + 1 + p2) (by have := HS2.out.2; omega)
              rw [HS2.out.1]
              simp only [List.getD_eq_getElem?_getD, List.getElem?_drop] at h ⊢
              exact h
            rw [dec_ascii s2 p2 hlt2 hy] at hnx
            have hd := drop_cons s2.data.toList p2 (by rw [size_data]; omega)
            obtain ⟨y, hye⟩ : ∃ y, y = s2.data.toList.getD p2 0 := ⟨_, rfl⟩
            rw [← hye] at hnx hy hd
            have hI2 := hI.iterAt hit (p2 + 1)
            have hit2 := Lib.iterAt_heap wr W7.heap.size s2 p2 (p2 + 1) hit
            have hbw2 := Lib.below_iterAt hbw (k := W7.heap.size) (by omega) s2 (p2 + 1)
            have hcc2 := (Lib.iterAt_other wr W7.heap.size c s2 (p2 + 1) (by omega)).trans hcc
            have hsz2 : w.heap.size ≤ (wr.iterAt W7.heap.size s2 (p2 + 1)).heap.size := by rw [Lib.iterAt_size]; omega
            obtain ⟨Wa, hWa⟩ : ∃ Wa, wr.iterAt W7.heap.size s2 (p2 + 1) = Wa := ⟨_, rfl⟩
            rw [hWa] at hnx hI2 hit2 hbw2 hsz2 hcc2
            have cS2 : Calls Tryd.prog 33 (#[.int .i32 (y.toNat : Int)] ++ #[.pointer (some ⟨c, 0, none⟩)]) Wa _ := lit c bb y hy Wa hcc2
            have hN := st_lt bb y hy
            have hout : out bb (s2.data.toList.drop p2) = (st bb y).1 :: out (st bb y).2 (s2.data.toList.drop (p2 + 1)) := by rw [hd]; rfl
            obtain ⟨N, hNe⟩ : ∃ N, N = (st bb y).1 := ⟨_, rfl⟩
            obtain ⟨b2, hbe⟩ : ∃ b2, b2 = (st bb y).2 := ⟨_, rfl⟩
            rw [← hNe, ← hbe] at cS2 hout
            rw [← hNe] at hN
            have HAC : Aside0 (acc ++ (N :: out b2 (s2.data.toList.drop (p2 + 1))) = ANS) := ⟨by rw [← hacc.out, hout]⟩
            have hge : decide ((N.toNat : Int) ≥ 0) = true := by simp
            have hl128 : decide ((N.toNat : Int) < 128) = true := by simp; omega
            have hI3 := Aside0.mk hI2
            clear hit hWa hd hye hNe hbe hout hacc hcc hbw hI hI2 hsz hcc2
            have hwrap : IntKind.u8.wrap (N.toNat : Int) = (N.toNat : Int) := by
              unfold IntKind.wrap
              simp [IntKind.bits, IntKind.signed]
              omega
            go_wp2_with (first
              | (go_at_fn 33; go_must (refine cS2.mono ?_; rintro e W8 ⟨rfl, hc8, hbut⟩))
              | (go_at_call 26; go_must (refine (wb w.heap.size w.heap.size _ N W8 (bld_but hI3.out hcw hbut) (by rw [byteCells_length]; omega) (by rw [hbut.2]; exact hsz2)).mono ?_; rintro e W9 ⟨⟨v9, rfl⟩, h9, b9, k9⟩)))
            go_roundg g2
            case measure => omega
            case rel =>
              have hit8 := (hbut.1.block _ (Array.getElem?_eq_some_iff.1 hit2).1 (fun e => by injection e with e; omega)).trans hit2
              have hb8 := hbut.below hbw2 (Nat.le_refl _) (by omega)
              refine ⟨p2 + 1, acc ++ [N], b2, ?_, k9.iter hit8 (by omega), (b9.block c hcw).trans hc8, hb8.trans ⟨b9.os, b9.tape, b9.output, b9.size, fun i hi => b9.block i (by omega)⟩, Nat.le_trans (by rw [hbut.2]; exact hsz2) b9.size, ⟨by rw [List.append_assoc]; exact HAC.out⟩, by omega, hlt2, by rw [List.length_append, List.length_singleton]; omega⟩
              rw [byteCells_append]; exact h9
          · obtain rfl : p2 = s2.size := by omega
            have hnx : ∀ ty, (Instr.next (.pointer (some ⟨W7.heap.size, 0, none⟩)) true ty).run Tryd.prog wr = _ := fun ty => Lib.run_next_end_at wr W7.heap.size s2 s2.size ty hit hlt2
            go_wp2_with (go_at_call 27; go_must (refine (Any.Builder_String_any_f Tryd.bl169 Tryd.bx169 w.heap.size w.heap.size acc wr hI hsz).mono ?_; rintro e W8 ⟨rfl, _, b8⟩))
            go_ret
            refine ⟨?_, hbw.trans ⟨b8.os, b8.tape, b8.output, b8.size, fun i hi => b8.block i (by omega)⟩⟩
            have h := hacc.out
            rw [← size_data, List.drop_length] at h
            simp only [out, List.append_nil] at h
            rw [h]
            rfl
    · obtain rfl : pos = s.size := by omega
      have hnx : ∀ ty, (Instr.next (.pointer (some ⟨w.heap.size + 1, 0, none⟩)) true ty).run Tryd.prog wr = _ := fun ty => Lib.run_next_end_at wr (w.heap.size + 1) s s.size ty hit hlt
      have cC := Tryd.Builder_Cap_cell w.heap.size none 0 0 wr (by rw [Lib.cell_of_heap hfr]; rfl)
      go_wp2_with (go_at_call 40; go_must (refine cC.mono ?_; rintro e W' ⟨rfl, rfl⟩))
      go_ret
      refine ⟨?_, hbw⟩
      have h := hsp.out
      rw [← hlen, List.drop_length, List.take_length] at h
      simp only [out, List.append_nil] at h
      rw [← h, str_of]
      rfl

set_option linter.all false in
set_option maxRecDepth 1000000 in
set_option maxHeartbeats 1000000 in
theorem upper (s : ByteArray) (w : World) (hs : s.size ≤ 1000000) (has : ∀ i, i < s.size → (s.data.toList.getD i 0).toNat < 128) :
    Calls Tryd.prog 20 #[.string s] w fun e w' => e = .returned (.string (str (out false s.data.toList))) ∧ Below w.heap.size w w' := by
  have HM : ∀ W, W.heap[w.heap.size]? = some (.cells #[.bool false] 4 (0, 0)) → Calls Tryd.prog 28 #[.func (.func 33) #[] #[.pointer (some ⟨w.heap.size, 0, none⟩)], .string s] W fun e w' => e = .returned (.string (str (out false s.data.toList))) ∧ Below w.heap.size W w' := fun W h => map w.heap.size false s W h hs has
  have h1 := heap_alloc_new w (.cells #[.bool false] 4)
  have h2 : ((w.alloc (.cells #[.bool false] 4)).setCell ⟨w.heap.size, 0, none⟩ (.bool false)).heap[w.heap.size]? = some (.cells #[.bool false] 4 (0, 0)) := set_get h1 _
  have hb : Below w.heap.size w ((w.alloc (.cells #[.bool false] 4)).setCell ⟨w.heap.size, 0, none⟩ (.bool false)) := (set_but _ _ _).below ((Below.refl _ w).alloc (Nat.le_refl _) _) (Nat.le_refl _) (Nat.le_refl _)
  generalize str (out false s.data.toList) = O at HM ⊢
  clear has hs
  go_enter Tryd.func20, Tryd.ntmps20
  go_wp2_with (first
    | (go_at_call 28; go_must (refine (HM _ (by first | exact h2 | exact h1)).mono ?_; rintro e w1 ⟨rfl, hb1⟩)))
  go_ret
  exact ⟨rfl, by first | exact hb.trans hb1 | exact ((Below.refl _ w).alloc (Nat.le_refl _) _).trans hb1⟩
end Go.Proofs.YtmphemnmbofpaaaDoorRRR.Mpx
