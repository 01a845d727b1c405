/- The walk of SplitCamelCase on letters of ASCII. -/
import Derived.Test.YtjaebonfojnmdaaDoorCmd
import Derived.Test.YtjaebonfojnmdaaDoorCme
import Derived.Test.YtjaebonfojnmdaaDoorSmall
import Derived.Test.YtjaebonfojnmdaaDoorDec
import Derived.Test.YtjaebonfojnmdaaDoorWTab
import Derived.Test.YtjaebonfojnmdaaDoorWMore
import Derived.Test.YtjaebonfojnmdaaDoorWLast
import Derived.WalkKit
import Derived.OwnWalk
import Derived.Deep.LoopGhost
namespace Go.Proofs.YtjaebonfojnmdaaDoor.Cmw
open Go Go.RowKit Go.Lib Go.Proofs.YtjaebonfojnmdaaDoorW.PrintWords Go.Proofs.YtjaebonfojnmdaaDoorW.PrintLast Go.Proofs.YtjaebonfojnmdaaDoorW.PrintMore Cma Cmb Cmp Cmc Cmd Cme

def runes (s : ByteArray) : List Int := s.data.toList.map fun b => (b.toNat : Int)
theorem valid (s : ByteArray) (h : ∀ b ∈ s.data.toList, Let b) : Lib.validD s.data.toList = true := by
  rw [Lib.validD_ascii s.data.toList.length s.data.toList (fun b hb => by have := h b (List.mem_of_mem_take hb); unfold Let at this; omega), List.drop_length]
  exact Lib.validD_nil
theorem low (x : UInt8) (h : Let x) : Lib.isLowerL (x.toNat : Int) = decide (97 ≤ (x.toNat : Int)) := by
  unfold Lib.isLowerL Let at *
  exact decide_eq_decide.2 (by omega)
theorem upp (x : UInt8) (h : Let x) : Lib.isUpperL (x.toNat : Int) = decide ((x.toNat : Int) < 97) := by
  unfold Lib.isUpperL Let at *
  exact decide_eq_decide.2 (by omega)
theorem letLt (x : UInt8) (h : Let x) : Lt (x.toNat : Int) := by unfold Let at h; unfold Lt; omega

theorem size_data (s : ByteArray) : s.data.toList.length = s.size := rfl
theorem at_mem (l : List UInt8) (j : Nat) (h : j < l.length) : l.getD j 0 ∈ l := by
  rw [List.getD_eq_getElem?_getD, List.getElem?_eq_getElem h]; exact List.getElem_mem _
theorem dec_ascii (s : ByteArray) (p : Nat) (hp : p < s.size) (h : (s.data.toList.getD p 0).toNat < 128) : Utf8.decode s p = ((s.data.toList.getD p 0).toNat, 1) := by
  obtain ⟨_, _, ⟨_, e⟩ | ⟨h1, _⟩⟩ := Dec.dec s p hp
  · exact e
  · exact absurd h (by unfold Dec.at_ at h1; omega)
theorem grp_snoc (s : ByteArray) (j : Nat) (hj : j < s.size) : grp ((runes s).take (j + 1)) = Cmp.step (grp ((runes s).take j)) ((s.data.toList.getD j 0).toNat : Int) := by
  have hl := size_data s
  have h : (runes s).take (j + 1) = (runes s).take j ++ [((s.data.toList.getD j 0).toNat : Int)] := by
    unfold runes
    rw [← List.map_take, ← List.map_take, List.take_add_one, List.getElem?_eq_getElem (by omega), List.getD_eq_getElem?_getD, List.getElem?_eq_getElem (by omega)]
    simp
  rw [h]
  unfold grp
  rw [List.foldl_append]
  rfl
/-- the first loop, behind j characters -/
structure L1 (w0 : World) (s : ByteArray) (E I j : Nat) (v3 v4 : Value) (wx : World) : Prop where
  gi : Gi j (grp ((runes s).take j))
  four : v4 = .int .i64 (grp ((runes s).take j)).2
  rows : ∃ vs, Rr w0.heap.size v3 vs (grp ((runes s).take j)).1 wx
  below : Below w0.heap.size w0 wx
  ent : wx.heap[E]? = some (.cells #[] 9 (0, 0))
  it : wx.heap[I]? = some (.stringIter s j)
  le : j ≤ s.size

theorem stays {w w' : World} {k : Nat} {o : Obj} {B e n : Nat} {u : Value} {xs : List Value} (hk : w.heap[k]? = some o) (hg : w.grownBy w' u.ownBlock) (ho : w.ownsRow B e 1 u n xs) (hne : ∀ c, o ≠ .cells c e (0, 0)) : w'.heap[k]? = some o := by
  refine (hg.block k (Array.getElem?_eq_some_iff.1 hk).1 (fun e2 => ?_)).trans hk
  obtain ⟨c, hc⟩ := own_typed ho e2.symm
  rw [hk] at hc
  exact hne c (Option.some.inj hc)
theorem L1.same {w0 W w1 : World} {s : ByteArray} {E I j g c k a n d : Nat} {vs : List Value} {st : List (List Int) × Int} {u : Value} {x : Int} (hR : Rr w0.heap.size (.slice (some ⟨g, 0, none⟩) vs.length c) vs st.1 W) (hb : Below w0.heap.size w0 W)
    (hent : W.heap[E]? = some (.cells #[] 9 (0, 0))) (hit : W.heap[I]? = some (.stringIter s (j + 1))) (hk : k + 1 = vs.length) (hu : vs[k]? = some u) (hn : n = (st.1.getD k []).length + 1)
    (ho : w1.ownsRow w0.heap.size 21 1 (.slice (some ⟨a, 0, none⟩) n d) n ((st.1.getD k []).map (Value.int .i32) ++ [.int .i32 x])) (hg : (W.alloc (.cells #[.int .i32 x] 21)).grownBy w1 u.ownBlock) (hat : some a = u.ownBlock ∨ a = (W.alloc (.cells #[.int .i32 x] 21)).heap.size)
    (he : cls x = st.2) (hgi : Gi (j + 1) (Cmp.step st x)) (hst : grp ((runes s).take (j + 1)) = Cmp.step st x) (hle : j + 1 ≤ s.size) :
    L1 w0 s E I (j + 1) (.slice (some ⟨g, 0, none⟩) vs.length c) (.int .i64 (cls x)) (w1.setCell ⟨g, k, none⟩ (.slice (some ⟨a, 0, none⟩) n d)) := by
  obtain ⟨vs', hl', hR'⟩ := hR.snoc k u hu x a n d hn ho hg hat
  have hkr : k = st.1.length - 1 := by have := hR.len; omega
  have hb1 : Below W.heap.size W (W.alloc (.cells #[.int .i32 x] 21)) := (Below.refl _ W).alloc (Nat.le_refl _) _
  have hlt : k < st.1.length := by have := hR.len; omega
  have hur := (hR.kept hb1).inn k u _ hu (getD_at [] st.1 k hlt)
  have hout := (hR.kept hb1).out
  have hout1 := hout.kept hg (by rcases own_ne hout hur (by decide) with h | h; exact .inl h; exact .inr h)
  have hp : w1.grownBy (w1.setCell ⟨g, k, none⟩ (.slice (some ⟨a, 0, none⟩) n d)) (Value.slice (some ⟨g, 0, none⟩) vs.length c).ownBlock := put_grown w1 g k _
  have st8 : ∀ (q : Nat) (o : Obj), W.heap[q]? = some o → (∀ c, o ≠ .cells c 21 (0, 0)) → (∀ c, o ≠ .cells c 29 (0, 0)) → (w1.setCell ⟨g, k, none⟩ (.slice (some ⟨a, 0, none⟩) n d)).heap[q]? = some o := fun q o hq h1 h2 =>
    stays (stays ((hb1.block q (Array.getElem?_eq_some_iff.1 hq).1).trans hq) hg hur h1) hp hout1 h2
  refine ⟨by rw [hst]; exact hgi, by rw [hst]; rfl, ⟨vs', ?_⟩, ?_, st8 _ _ hent (by simp) (by simp), st8 _ _ hit (by simp) (by simp), hle⟩
  · rw [hst]
    unfold Cmp.step
    rw [if_pos he]
    rw [hkr] at hR' ⊢
    exact hR'
  · refine bel_grown (bel_grown (hb.alloc hb.size _) hg (own_ge hur)) hp (own_ge hout1)
theorem L1.more {w0 W w1 : World} {s : ByteArray} {E I j : Nat} {vs : List Value} {v v' : Value} {st : List (List Int) × Int} {x : Int} (hR : Rr w0.heap.size v vs st.1 W) (hb : Below w0.heap.size w0 W)
    (hent : W.heap[E]? = some (.cells #[] 9 (0, 0))) (hit : W.heap[I]? = some (.stringIter s (j + 1)))
    (hout : w1.ownsRow w0.heap.size 29 1 v' (vs.length + 1) (vs ++ [.slice (some ⟨W.heap.size, 0, none⟩) 1 1])) (hg : ((W.alloc (.cells #[.int .i32 x] 21)).alloc (.cells #[.slice (some ⟨W.heap.size, 0, none⟩) 1 1] 29)).grownBy w1 v.ownBlock)
    (he : cls x ≠ st.2) (hgi : Gi (j + 1) (Cmp.step st x)) (hst : grp ((runes s).take (j + 1)) = Cmp.step st x) (hle : j + 1 ≤ s.size) :
    L1 w0 s E I (j + 1) v' (.int .i64 (cls x)) w1 := by
  have hb1 : Below W.heap.size W ((W.alloc (.cells #[.int .i32 x] 21)).alloc (.cells #[.slice (some ⟨W.heap.size, 0, none⟩) 1 1] 29)) := ((Below.refl _ W).alloc (Nat.le_refl _) _).alloc (by simp) _
  have hout0 := (hR.kept hb1).out
  have st8 : ∀ (q : Nat) (o : Obj), W.heap[q]? = some o → (∀ c, o ≠ .cells c 29 (0, 0)) → w1.heap[q]? = some o := fun q o hq h2 =>
    stays ((hb1.block q (Array.getElem?_eq_some_iff.1 hq).1).trans hq) hg hout0 h2
  refine ⟨by rw [hst]; exact hgi, by rw [hst]; rfl, ⟨vs ++ [.slice (some ⟨W.heap.size, 0, none⟩) 1 1], ?_⟩, bel_grown ((hb.alloc hb.size _).alloc (by have := hb.size; simp; omega) _) hg (own_ge hout0), st8 _ _ hent (by simp), st8 _ _ hit (by simp), hle⟩
  rw [hst]
  unfold Cmp.step
  rw [if_neg he]
  exact hR.more x v' hout hg

theorem own_below {w w' : World} {B e n : Nat} {v : Value} {xs : List Value} (h : w.ownsRow B e 1 v n xs) (hb : Below w.heap.size w w') : w'.ownsRow B e 1 v n xs :=
  h.kept (row := none) ⟨hb.os, hb.tape, hb.output, hb.size, fun k hk _ => hb.block k hk⟩ (by cases v.ownBlock with | none => exact .inl rfl | some x => exact .inr (by simp))
theorem L1.end_ {w0 : World} {s : ByteArray} {E I : Nat} {v3 v4 : Value} {wx : World} (h : L1 w0 s E I s.size v3 v4 wx) (hpos : 0 < s.size) :
    ∃ g c N, v3 = .slice (some ⟨g, 0, none⟩) N c ∧ 0 < N ∧ N ≤ s.size ∧ (grp (runes s)).1.length = N ∧ L2 w0 E s.size 0 g c N (grp (runes s)).1 wx := by
  have hl : (runes s).length = s.size := by unfold runes; rw [List.length_map]; rfl
  have ht : (runes s).take s.size = runes s := List.take_of_length_le (by omega)
  have h2 : (grp (runes s)).2 ≠ 0 := by
    have := grp_snoc s (s.size - 1) (by omega)
    rw [show s.size - 1 + 1 = s.size by omega, ht] at this
    rw [this]
    show cls _ ≠ 0
    rcases cls_cases (((s.data.toList.getD (s.size - 1) 0).toNat : Nat) : Int) with e | e <;> omega
  have hgi := h.gi
  obtain ⟨vs, hR⟩ := h.rows
  rw [ht] at hgi hR
  have hN : 0 < (grp (runes s)).1.length := by rcases hgi.was with e | e; exact absurd e h2; exact e
  obtain ⟨g, c, rfl⟩ := hR.form (by rw [hR.len]; exact hN)
  exact ⟨g, c, vs.length, rfl, by rw [hR.len]; exact hN, by rw [hR.len]; exact hgi.few, hR.len.symm, Mi.of hgi, ⟨vs, rfl, hR⟩, h.below, h.ent⟩
theorem app_ {P : Program} {oi : Oper} {a : Act} {w w' : World} {v v' x : Value} {s y : Operand} {t : TypeId} (hop : oi.op = .call { callee := .builtin .append, args := #[s, y], argTypes := #[t, t] }) (hs : a.eval s = v) (hx : a.eval y = x)
    (hr : (Builtin.append_ #[t, t] oi.type #[v, x]).run P w = .ok v' w') : (execOp a.eval oi).run P w = .ok (.value v') w' := by
  unfold execOp
  simp only [hop, resolve, invoke, builtin, Sem.run_bind, Sem.run_pure, Result.andThen_ok, List.map_toArray, List.map_cons, List.map_nil, hs, hx, hr]
-- TABLES
def T25 : Bool × List (List Nat × List Nat) := (true, [([], []), ([], []), ([1], [1]), ([], []), ([], []), ([3, 4], [3, 4]), ([5], [5]), ([], []), ([], []), ([7, 8], [7, 8]), ([9], [9]), ([10], [10]), ([11], [11]), ([6, 12], [6, 12]), ([13], [13]), ([14], [14]), ([], []), ([], []), ([17], [17]), ([16, 18], [16, 18]), ([19], [19]), ([15, 20], [15, 20]), ([0, 2, 0, 1, 2, 3, 4, 5, 6, 7, 8, 9, 10, 11, 12, 13, 14, 15, 16, 17, 18, 19, 20, 21], [0, 2]), ([22, 21, 21, 0, 1, 2, 3, 4, 5, 6, 7, 8, 9, 10, 11, 12, 13, 14, 15, 16, 17, 18, 19, 20, 21], [21, 22])])
def B25 : List Nat := [0, 0, 2, 0, 0, 24, 56, 0, 0, 384, 896, 1920, 3968, 8184, 16376, 32760, 0, 0, 131072, 458752, 983040, 2097144, 4194303, 8388607]
theorem tab25 : rtab .any (opsOf Tryd.f7 25) = T25 := by kernel_rfl
theorem bits25 : waitsOk T25.2 B25 = true := by kernel_rfl
def T26 : Bool × List (List Nat × List Nat) := (true, [([], []), ([], []), ([], []), ([], []), ([2, 3], [2, 3]), ([4], [4]), ([], []), ([], []), ([6, 7], [6, 7]), ([8], [8]), ([9], [9]), ([10], [10]), ([5, 11], [5, 11]), ([0, 1, 0, 1, 2, 3, 4, 5, 6, 7, 8, 9, 10, 11, 12], [0, 1]), ([13, 12, 0, 1, 2, 3, 4, 5, 6, 7, 8, 9, 10, 11, 12], [12, 13])])
def B26 : List Nat := [0, 0, 0, 0, 12, 28, 0, 0, 192, 448, 960, 1984, 4092, 8191, 16383]
theorem tab26 : rtab .any (opsOf Tryd.f7 26) = T26 := by kernel_rfl
theorem bits26 : waitsOk T26.2 B26 = true := by kernel_rfl
-- END TABLES
/-- an append whose run is known, as an arm of a walk -/
theorem appL_ {P : Program} {ops : Array Oper} {Q : Exit → Act → World → Prop} {rest : List Oper} {oi : Oper} {a : Act} {w w' : World} {v v' x : Value} {s y : Operand} {t : TypeId} (N : Option Tmp) (hd : oi.dst = N) (hgd : oi.guard = none) (hop : oi.op = .call { callee := .builtin .append, args := #[s, y], argTypes := #[t, t] })
    (hs : a.eval s = v) (hx : a.eval y = x) (hr : (Builtin.append_ #[t, t] oi.type #[v, x]).run P w = .ok v' w') (h : wpList P ops Q rest (a.put N v') w') : wpList P ops Q (oi :: rest) a w := by
  subst hd
  refine wpList_plain hgd fun K hK => ?_
  unfold Oper.wp execOp
  simp only [hop, resolve, invoke, builtin, Sem.run_bind, Sem.run_pure, Result.andThen_ok, List.map_toArray, List.map_cons, List.map_nil, hs, hx, hr]
  exact hK _ _ h

set_option linter.all false in
set_option maxRecDepth 1000000 in
set_option maxHeartbeats 4000000 in
theorem walk (s : ByteArray) (w : World) (hT : Tp w) (hl : ∀ b ∈ s.data.toList, Let b) (hs : s.size ≤ 200) (hpos : 0 < s.size) :
    Calls Tryd.prog 7 #[.string s] w fun e w' => ∃ v : Value, e = .returned v ∧ w'.ownsRow w.heap.size 9 1 v (camel (runes s)).length ((camel (runes s)).map Value.string) ∧ Below w.heap.size w w' := by
  have hlen : s.data.toList.length = s.size := size_data s
  have cV : Calls Tryd.prog 8 #[.string s] w _ := Any.utf8_ValidString Tryd.bl196 s w (by omega) hT.u
  rw [valid s hl] at cV
  have HL := Aside0.mk hl
  have HT := Aside0.mk hT
  clear hl hT
  go_enter Tryd.func7, Tryd.ntmps7
  go_wp2_with (go_at_call 8; refine cV.mono ?_; rintro e wv ⟨rfl, hbv⟩)
  have HBV := Aside0.mk hbv
  obtain ⟨E, hE⟩ : ∃ E, E = wv.heap.size := ⟨_, rfl⟩
  have HE := Aside0.mk hE
  rw [← hE]
  clear hbv cV hE
  go_loopg [3, 4] s.size (fun gk v3 v4 wx => ∃ j, L1 w s E (E + 1) j v3 v4 wx ∧ s.size ≤ j + gk)
  case atStart =>
    have hw0 : w.heap.size ≤ wv.heap.size := HBV.out.size
    have hE := HE.out
    rw [hE]
    refine ⟨0, ⟨Gi.nil, rfl, ⟨[], Rr.nil _ _ ?_⟩, ?_, ?_, ?_, Nat.zero_le _⟩, by omega⟩
    · exact Nat.le_trans hw0 (((Below.refl 0 wv).alloc (by omega) _).alloc (by simp) _).size
    · exact (HBV.out.alloc (by omega) _).alloc (by simp; omega) _
    · exact (Below.heap_alloc _ _ _ (by simp)).trans (heap_alloc_new wv _)
    · have := World.iter_heap (wv.alloc (.cells #[] 9)) s 0
      simpa using this
  case round =>
    obtain ⟨v3, hv3⟩ : ∃ v3, u3 = v3 := ⟨_, rfl⟩
    rw [hv3] at hrel ⊢
    obtain ⟨j, hL, hfu⟩ := hrel
    have L := Aside0.mk hL
    have it := hL.it
    obtain rfl := hL.four
    have hle := hL.le
    clear hL
    by_cases hlt : j < s.size
    · obtain ⟨g', rfl⟩ : ∃ g', gk = g' + 1 := ⟨gk - 1, by omega⟩
      have hnx : ∀ ty, (Instr.next (.pointer (some ⟨E + 1, 0, none⟩)) true ty).run Tryd.prog wr = _ := fun ty => Lib.run_next_any_at wr (E + 1) s j ty it hlt
      have hxl := HL.out _ (at_mem s.data.toList j (by omega))
      rw [dec_ascii s j hlt (by unfold Let at hxl; omega)] at hnx
      have HS := Aside0.mk (grp_snoc s j hlt)
      obtain ⟨x, hxe⟩ : ∃ x, x = s.data.toList.getD j 0 := ⟨_, rfl⟩
      rw [← hxe] at hnx hxl HS
      obtain ⟨W, hWd⟩ : ∃ W, wr.iterAt (E + 1) s (j + 1) = W := ⟨_, rfl⟩
      rw [hWd] at hnx
      have hgi := (L.out.gi.step _ (letLt x hxl))
      obtain ⟨vs, hR0⟩ := L.out.rows
      have hgi0 := L.out.gi
      have hst := HS.out
      obtain ⟨st, hste⟩ : ∃ st, grp ((runes s).take j) = st := ⟨_, rfl⟩
      rw [hste] at hgi hR0 hgi0 hst
      rw [hste]
      have hRW : Rr w.heap.size v3 vs st.1 W := by
        rw [← hWd]
        refine hR0.grown (iter_grown wr (E + 1) s (j + 1)) (fun k c e hk hc => ?_)
        obtain rfl := Option.some.inj hk
        rw [it] at hc; cases hc
      have hEw : w.heap.size ≤ E := by rw [HE.out]; exact HBV.out.size
      have hbW : Below w.heap.size w W := by rw [← hWd]; exact Lib.below_iterAt L.out.below (by omega) s (j + 1)
      have hitW : W.heap[E + 1]? = some (.stringIter s (j + 1)) := by rw [← hWd]; exact Lib.iterAt_heap wr (E + 1) s j (j + 1) it
      have hentW : W.heap[E]? = some (.cells #[] 9 (0, 0)) := by rw [← hWd]; exact (Lib.iterAt_other wr (E + 1) E s (j + 1) (by omega)).trans L.out.ent
      have HP := (HT.out.below hbW).p
      have hx256 : x.toNat < 256 := by unfold Let at hxl; omega
      have cL : Calls Tryd.prog 9 #[.int .i32 (x.toNat : Int)] W _ := Tryd.unicode_IsLower_laid x.toNat W hx256 HP
      have cU : Calls Tryd.prog 10 #[.int .i32 (x.toNat : Int)] W _ := Tryd.unicode_IsUpper_laid x.toNat W hx256 HP
      rw [low x hxl] at cL
      rw [upp x hxl] at cU
      obtain ⟨y, hy⟩ : ∃ y, (x.toNat : Int) = y := ⟨_, rfl⟩
      rw [hy] at hnx cL cU hgi hst
      have A1 := Aside0.mk (And.intro hgi (And.intro hst (And.intro hbW (And.intro hitW hentW))))
      have A2 := Aside0.mk hRW
      have A3 := Aside0.mk hgi0
      clear hgi hst hbW hitW hentW HP hx256 hR0 hgi0 HS hWd hxe it L hxl hy hste
      by_cases hsame : cls y = st.2
      · have h0 : 0 < vs.length := by
          rw [A2.out.len]
          rcases A3.out.was with h | h
          · rcases cls_cases y with e | e <;> omega
          · exact h
        obtain ⟨g, c, rfl⟩ := A2.out.form h0
        obtain ⟨m, hm⟩ : ∃ m, vs.length = m + 1 := ⟨vs.length - 1, by omega⟩
        obtain ⟨a, n, d, hcell, hu, hr, hn, hown⟩ := A2.out.at_ m (by omega)
        have hnb : n ≤ 300 := by rw [hn]; have := A3.out.le _ (List.mem_of_getElem? hr); omega
        have hb1 : Below W.heap.size W (W.alloc (.cells #[.int .i32 y] 21)) := (Below.refl _ W).alloc (Nat.le_refl _) _
        obtain ⟨a', cap', w', hrun, hown', hgr, hat⟩ := app Tryd.underlying29 info21 rfl (by decide) 29 w.heap.size (W.alloc (.cells #[.int .i32 y] 21)) (W.alloc (.cells #[.int .i32 y] 21)) _ _ n _ ⟨W.heap.size, 0, none⟩ 1 1 [.int .i32 y] (by omega) (hown.alloc _) (Nat.le_trans A2.out.base hb1.size) rfl rfl (one_new W _ 21) (by intro u hu; rw [List.mem_singleton.1 hu]; rfl) rfl (by decide)
        have hfz : w'.frozen? ⟨g, m, none⟩ = false := by
          have hr1 := (A2.out.kept hb1)
          have h2 := hr1.out.kept hgr (by
            rcases own_ne hr1.out (hown.alloc _) (by decide) with h | h
            · exact .inl h
            · exact .inr h)
          exact h2.frozenAt m
        have hcel2 : w'.cell? ⟨g, m, none⟩ = some (.slice (some ⟨a, 0, none⟩) n d) := by
          have hr1 := (A2.out.kept hb1)
          have h2 := hr1.out.kept hgr (by
            rcases own_ne hr1.out (hown.alloc _) (by decide) with h | h
            · exact .inl h
            · exact .inr h)
          rw [h2.cellAt m (by omega)]; exact hu
        have FIN := Aside0.mk (L1.same A2.out A1.out.2.2.1 A1.out.2.2.2.2 A1.out.2.2.2.1 hm.symm hu (by rw [hn]) hown' hgr hat hsame A1.out.1 A1.out.2.1 hlt)
        have HM := Aside0.mk hm
        have hwm : wrap64 (m : Int) = (m : Int) := by
          have h1 := A3.out.few
          have h2 := A2.out.len
          unfold wrap64; omega
        clear hown hown' hgr hat hu hr hn hnb hb1 h0
        by_cases hlo : 97 ≤ y
        · rw [decide_eq_true hlo] at cL
          have hc1 : cls y = 1 := by unfold cls; rw [if_pos hlo]
          rw [← hsame, hc1]
          rw [hm]
          clear hm hsame hlo
          go_wp2_with (first | (refine appL_ (some 47) rfl rfl rfl rfl rfl hrun ?_) | (go_at_call 9; refine cL.mono ?_; rintro e w1 ⟨rfl, rfl⟩))
          go_roundg g'
          case measure => omega
          case rel => have F := FIN.out; rw [hc1, HM.out] at F; exact ⟨j + 1, F, by omega⟩
        · rw [decide_eq_false hlo] at cL
          rw [decide_eq_true (by omega)] at cU
          have hc1 : cls y = 2 := by unfold cls; rw [if_neg hlo]
          rw [← hsame, hc1]
          rw [hm]
          clear hm hsame hlo
          go_wp2_with (first | (refine appL_ (some 47) rfl rfl rfl rfl rfl hrun ?_) | (go_at_call 9; refine cL.mono ?_; rintro e w1 ⟨rfl, rfl⟩) | (go_at_call 10; refine cU.mono ?_; rintro e w1 ⟨rfl, rfl⟩))
          go_roundg g'
          case measure => omega
          case rel => have F := FIN.out; rw [hc1, HM.out] at F; exact ⟨j + 1, F, by omega⟩
      · have hb1 : Below W.heap.size W ((W.alloc (.cells #[.int .i32 y] 21)).alloc (.cells #[.slice (some ⟨W.heap.size, 0, none⟩) 1 1] 29)) := ((Below.refl _ W).alloc (Nat.le_refl _) _).alloc (by simp) _
        have hout := (A2.out.kept hb1).out
        have hvl : vs.length ≤ 300 := by
          have h1 := A3.out.few
          have h2 := A2.out.len
          omega
        obtain ⟨g2, cap', w', hrun, hown', hgr, hat⟩ := app Tryd.underlying27 info29 rfl (by decide) 27 w.heap.size ((W.alloc (.cells #[.int .i32 y] 21)).alloc (.cells #[.slice (some ⟨W.heap.size, 0, none⟩) 1 1] 29)) ((W.alloc (.cells #[.int .i32 y] 21)).alloc (.cells #[.slice (some ⟨W.heap.size, 0, none⟩) 1 1] 29)) v3 _ vs.length vs ⟨W.heap.size + 1, 0, none⟩ 1 1 [.slice (some ⟨W.heap.size, 0, none⟩) 1 1] (by omega) hout (Nat.le_trans A2.out.base hb1.size) rfl rfl
          (by have := one_new (W.alloc (.cells #[.int .i32 y] 21)) (.slice (some ⟨W.heap.size, 0, none⟩) 1 1) 29; simpa using this) (by intro u hu; rw [List.mem_singleton.1 hu]; rfl) rfl (by decide)
        have FIN := Aside0.mk (L1.more A2.out A1.out.2.2.1 A1.out.2.2.2.2 A1.out.2.2.2.1 hown' hgr hsame A1.out.1 A1.out.2.1 hlt)
        clear hown' hgr hat hb1 hout hvl
        by_cases hlo : 97 ≤ y
        · rw [decide_eq_true hlo] at cL
          have hc1 : cls y = 1 := by unfold cls; rw [if_pos hlo]
          have hne : ((1 : Int) == st.2) = false := by rw [beq_eq_false_iff_ne, ← hc1]; exact hsame
          clear hsame hlo
          go_wp2_with (first | (refine appL_ (some 53) rfl rfl rfl rfl rfl hrun ?_) | (go_at_call 9; refine cL.mono ?_; rintro e w1 ⟨rfl, rfl⟩))
          go_roundg g'
          case measure => omega
          case rel => have F := FIN.out; rw [hc1] at F; exact ⟨j + 1, F, by omega⟩
        · rw [decide_eq_false hlo] at cL
          rw [decide_eq_true (by omega)] at cU
          have hc1 : cls y = 2 := by unfold cls; rw [if_neg hlo]
          have hne : ((2 : Int) == st.2) = false := by rw [beq_eq_false_iff_ne, ← hc1]; exact hsame
          clear hsame hlo
          go_wp2_with (first | (refine appL_ (some 53) rfl rfl rfl rfl rfl hrun ?_) | (go_at_call 9; refine cL.mono ?_; rintro e w1 ⟨rfl, rfl⟩) | (go_at_call 10; refine cU.mono ?_; rintro e w1 ⟨rfl, rfl⟩))
          go_roundg g'
          case measure => omega
          case rel => have F := FIN.out; rw [hc1] at F; exact ⟨j + 1, F, by omega⟩
    · -- LOOP 2
      obtain rfl : j = s.size := by omega
      have hnx : ∀ ty, (Instr.next (.pointer (some ⟨E + 1, 0, none⟩)) true ty).run Tryd.prog wr = _ := fun ty => Lib.run_next_end_at wr (E + 1) s s.size ty it hlt
      obtain ⟨g, c, N, hv, hN0, hN, hlen0, hL2⟩ := L.out.end_ hpos
      obtain ⟨M, rfl⟩ : ∃ M, N = M + 1 := ⟨N - 1, by omega⟩
      subst hv
      have HL2 := Aside0.mk hL2
      have HLN := Aside0.mk hlen0
      have hwM : wrap64 (M : Int) = (M : Int) := by unfold wrap64; omega
      clear it hlt hL2 L hle hfu hlen0
      go_wp2_with (fail)
      go_loopg [8] M (fun gk v8 wx => ∃ i : Nat, v8 = .int .i64 i ∧ i ≤ M ∧ M ≤ i + gk ∧ L2 w E s.size i g c (M + 1) (mvs (grp (runes s)).1 i) wx)
      case atStart => exact ⟨0, rfl, Nat.zero_le _, by omega, HL2.out⟩
      case round =>
        clear hnx
        obtain ⟨i, hv8, hiM, hfu, hL⟩ := hrel
        subst hv8
        obtain ⟨rs, hrs⟩ : ∃ rs, mvs (grp (runes s)).1 i = rs := ⟨_, rfl⟩
        have hrl : rs.length = M + 1 := by rw [← hrs, mvs_len, HLN.out]
        have hnext : mvs (grp (runes s)).1 (i + 1) = mv rs i := by rw [← hrs]; rfl
        rw [hrs] at hL
        have L := Aside0.mk hL
        have HN := Aside0.mk (And.intro hrl hnext)
        have HRS := Aside0.mk hrs
        clear hrs hL hrl hnext
        by_cases hlt : i < M
        · obtain ⟨g', rfl⟩ : ∃ g', gk = g' + 1 := ⟨gk - 1, by omega⟩
          have hi1 : decide ((i : Int) < (M : Int)) = true := decide_eq_true (by omega)
          have hwi : wrap64 ((i : Int) + 1) = ((i + 1 : Nat) : Int) := by unfold wrap64; omega
          obtain ⟨vs, hvl, hR⟩ := L.out.rows
          have hR' : Rr w.heap.size (.slice (some ⟨g, 0, none⟩) vs.length c) vs rs wr := by rw [hvl]; exact hR
          obtain ⟨a, l, d, hcell, hu, hr, hl, hown⟩ := hR'.at_ i (by omega)
          obtain ⟨b, l2, d2, hcell2, hu2, hr2, hl2, hown2⟩ := hR'.at_ (i + 1) (by omega)
          have hl0 : 0 < l := by rw [hl]; exact List.length_pos_iff.2 (L.out.mi.ne i _ (Nat.le_refl _) hr)
          have hl20 : 0 < l2 := by rw [hl2]; exact List.length_pos_iff.2 (L.out.mi.ne (i + 1) _ (by omega) hr2)
          have hy := L.out.mi.let_ _ (List.mem_of_getElem? hr) ((rs.getD i []).getD 0 0) (List.mem_of_getElem? (getD_at 0 _ 0 (by omega)))
          have hy2 := L.out.mi.let_ _ (List.mem_of_getElem? hr2) ((rs.getD (i + 1) []).getD 0 0) (List.mem_of_getElem? (getD_at 0 _ 0 (by omega)))
          have hc0 : wr.cell? ⟨a, 0, none⟩ = some (.int .i32 ((rs.getD i []).getD 0 0)) := by
            rw [hown.cellAt 0 (by omega), List.getElem?_map, getD_at 0 (rs.getD i []) 0 (by omega)]; rfl
          have hc20 : wr.cell? ⟨b, 0, none⟩ = some (.int .i32 ((rs.getD (i + 1) []).getD 0 0)) := by
            rw [hown2.cellAt 0 (by omega), List.getElem?_map, getD_at 0 (rs.getD (i + 1) []) 0 (by omega)]; rfl
          have hclast : wr.cell? ⟨a, l - 1, none⟩ = some (.int .i32 ((rs.getD i []).getD (l - 1) 0)) := by
            rw [hown.cellAt (l - 1) (by omega), List.getElem?_map, getD_at 0 (rs.getD i []) (l - 1) (by omega)]; rfl
          have HX := Aside0.mk (And.intro hR (And.intro hvl (And.intro hu (And.intro hl (And.intro hl2 (And.intro hown hown2))))))
          have HP := (HT.out.below L.out.below).p
          obtain ⟨y, hye⟩ : ∃ y, (rs.getD i []).getD 0 0 = y := ⟨_, rfl⟩
          obtain ⟨y2, hy2e⟩ : ∃ y, (rs.getD (i + 1) []).getD 0 0 = y := ⟨_, rfl⟩
          rw [hye] at hy hc0
          rw [hy2e] at hy2 hc20
          have cU : Calls Tryd.prog 10 #[.int .i32 y] wr fun e w' => e = .returned (.bool (decide (y < 97))) ∧ w' = wr := by
            have h1 := Tryd.unicode_IsUpper_laid y.toNat wr (by unfold Lt at hy; omega) HP
            rw [show ((y.toNat : Nat) : Int) = y by unfold Lt at hy; omega, show Lib.isUpperL y = decide (y < 97) by unfold Lib.isUpperL; unfold Lt at hy; exact decide_eq_decide.2 (by omega)] at h1
            exact h1
          have cL : Calls Tryd.prog 9 #[.int .i32 y2] wr fun e w' => e = .returned (.bool (decide (97 ≤ y2))) ∧ w' = wr := by
            have h1 := Tryd.unicode_IsLower_laid y2.toNat wr (by unfold Lt at hy2; omega) HP
            rw [show ((y2.toNat : Nat) : Int) = y2 by unfold Lt at hy2; omega, show Lib.isLowerL y2 = decide (97 ≤ y2) by unfold Lib.isLowerL; unfold Lt at hy2; exact decide_eq_decide.2 (by omega)] at h1
            exact h1
          have HY := Aside0.mk (And.intro hye hy2e)
          clear hR hR' hu hl hl2 hown hown2 HP hr hr2 hvl hy hy2 hye hy2e
          by_cases hup : y < 97
          · rw [decide_eq_true hup] at cU
            by_cases hlo : 97 ≤ y2
            · rw [decide_eq_true hlo] at cL
              have HC := Aside0.mk (And.intro hup hlo)
              clear hup hlo
              obtain ⟨k, rfl⟩ : ∃ k, l = k + 1 := ⟨l - 1, by omega⟩
              rw [show k + 1 - 1 = k from rfl] at hclast
              obtain ⟨hR, hvl, hu, hl, hl2, hown, hown2⟩ := HX.out
              have hls := L.out.mi.le _ (List.mem_of_getElem? (getD_at [] rs i (by rw [HN.out.1]; omega)))
              have hl2s := L.out.mi.le _ (List.mem_of_getElem? (getD_at [] rs (i + 1) (by rw [HN.out.1]; omega)))
              have hwk : wrap64 (k : Int) = (k : Int) := by unfold wrap64; omega
              have hdk := (own_cut hown (Nat.le_refl _)).2
              have hRD : Rr w.heap.size (.slice (some ⟨g, 0, none⟩) (M + 1) c) vs rs wr.drew := hR.kept ⟨rfl, rfl, rfl, Nat.le_refl _, fun _ _ => rfl⟩
              have hb1 : Below wr.drew.heap.size wr.drew (wr.drew.alloc (.cells #[.int .i32 ((rs.getD i []).getD k 0)] 21)) := (Below.refl _ _).alloc (Nat.le_refl _) _
              obtain ⟨a2, cap2, w2, hrun, ho2, hgr, hat⟩ := app Tryd.underlying29 info21 rfl (by decide) 29 w.heap.size (wr.drew.alloc (.cells #[.int .i32 ((rs.getD i []).getD k 0)] 21)) (wr.drew.alloc (.cells #[.int .i32 ((rs.getD i []).getD k 0)] 21)) (.slice (some ⟨wr.heap.size, 0, none⟩) 1 1) (.slice (some ⟨b, 0, none⟩) l2 d2) 1 [.int .i32 ((rs.getD i []).getD k 0)] ⟨b, 0, none⟩ l2 d2 ((rs.getD (i + 1) []).map (Value.int .i32)) (by omega)
                (World.ownsRow_lit wr.drew #[.int .i32 ((rs.getD i []).getD k 0)] 1 hRD.base (by decide) rfl) (Nat.le_trans hRD.base hb1.size) (by rw [List.length_map]; exact hl2.symm) rfl ((hown2.drew.alloc _).cells (g := b) rfl) (by intro u hu; obtain ⟨_, _, rfl⟩ := List.mem_map.1 hu; rfl) rfl hl20
              have hgn : wr.drew.grownBy w2 none := grown_none hb1 hgr (fun q hq => by obtain rfl := Option.some.inj hq; exact Nat.le_refl _)
              have ha2 : wr.drew.heap.size ≤ a2 := by
                rcases hat with h | h
                · obtain rfl := Option.some.inj h; exact Nat.le_refl _
                · rw [h]; exact hb1.size
              have hRv : Rr w.heap.size (.slice (some ⟨g, 0, none⟩) vs.length c) vs rs wr.drew := by rw [hvl]; exact hRD
              have R2 := hRv.grown hgn (fun q _ _ hq => by cases hq)
              have R3 := moved1 hRv (by omega) (by omega) ho2 hgn ha2
              have R3o := R3.out
              rw [List.length_set] at R3o
              obtain ⟨w3, hw3⟩ : ∃ w3, w3 = w2.setCell ⟨g, i + 1, none⟩ (.slice (some ⟨a2, 0, none⟩) (1 + l2) cap2) := ⟨_, rfl⟩
              obtain ⟨w4, hw4⟩ : ∃ w4, w4 = w3.drew.setCell ⟨g, i, none⟩ (.slice (some ⟨a, 0, none⟩) k d) := ⟨_, rfl⟩
              have FIN := Aside0.mk (L2.moved (g := g) (c := c) (N := M + 1) L.out.mi (D := wr.drew) (E := E) ⟨L.out.below.os, L.out.below.tape, L.out.below.output, L.out.below.size, L.out.below.block⟩ L.out.ent hvl hRD (by omega) (by rw [HY.out.1, HY.out.2]; exact HC.out) hu hl (by omega) ho2 hgn ha2)
              have c3 : w3.cell? ⟨g, i, none⟩ = some (.slice (some ⟨a, 0, none⟩) (k + 1) d) := by
                rw [hw3, R3o.cellAt i (by rw [hvl]; omega), List.getElem?_set_ne (by omega)]; exact hu
              have f3 : w3.frozen? ⟨g, i, none⟩ = false := by rw [hw3]; exact R3o.frozenAt i
              have f2 : w2.frozen? ⟨g, i + 1, none⟩ = false := R2.out.frozenAt (i + 1)
              have c2 : w2.cell? ⟨g, i + 1, none⟩ = some (.slice (some ⟨b, 0, none⟩) l2 d2) := (hgn.cell hcell2 (by simp))
              have S0 := Aside0.mk (And.intro hcell (And.intro hclast hcell2))
              have SA : Aside0 ((wr.drew.alloc (.cells #[.int .i32 ((rs.getD i []).getD k 0)] 21)).cell? ⟨g, i, none⟩ = some (.slice (some ⟨a, 0, none⟩) (k + 1) d) ∧ (wr.drew.alloc (.cells #[.int .i32 ((rs.getD i []).getD k 0)] 21)).cell? ⟨a, k, none⟩ = some (.int .i32 ((rs.getD i []).getD k 0)) ∧ (wr.drew.alloc (.cells #[.int .i32 ((rs.getD i []).getD k 0)] 21)).cell? ⟨g, i + 1, none⟩ = some (.slice (some ⟨b, 0, none⟩) l2 d2)) :=
                ⟨(World.grownBy_alloc _ _ none).cell hcell (by simp), (World.grownBy_alloc _ _ none).cell hclast (by simp), (World.grownBy_alloc _ _ none).cell hcell2 (by simp)⟩
              have SB := Aside0.mk (And.intro (hgn.cell hcell (by simp)) (And.intro (hgn.cell hclast (by simp)) c2))
              have SC := Aside0.mk c3
              have HW3 := Aside0.mk hw3
              have HW4 := Aside0.mk hw4
              clear hR hvl hu hl hl2 hown hown2 hls hl2s hRD hb1 ho2 hgr hat hgn ha2 hRv R2 R3 R3o hw3 hw4
              go_wp2_with (first | (go_at_call 10; refine cU.mono ?_; rintro e w1 ⟨rfl, hw1⟩; rw [hw1]; clear hw1 w1) | (go_at_call 9; refine cL.mono ?_; rintro e w1 ⟨rfl, hw1⟩; rw [hw1]; clear hw1 w1))
              clear cU cL hc0 hc20 hcell hcell2 hclast
              have hiM1 : (i : Int) < (M : Int) + 1 := by omega
              have hi01 : (0 : Int) ≤ (i : Int) + 1 := by omega
              have hk1 : (k : Int) < (k : Int) + 1 := by omega
              have hkd : k ≤ d := by omega
              -- REGIONS
              refine start_ (n := 24) (S := fun w' => w'.cell? ⟨g, i, none⟩ = some (.slice (some ⟨a, 0, none⟩) (k + 1) d) ∧ w'.cell? ⟨a, k, none⟩ = some (.int .i32 ((rs.getD i []).getD k 0)) ∧ w'.cell? ⟨g, i + 1, none⟩ = some (.slice (some ⟨b, 0, none⟩) l2 d2)) (ds := [23]) #[false, false, false, false, false, false, false, false, false, false, false, false, false, false, false, false, false, false, false, false, false, false, false, false] (by kernel_rfl) rfl rfl S0.out (fun hHeld => ?_); refine with_tabW tab25 bits25 (fun HT_ HW_ => ?_)
              refine pure_ (i := 0) (N := some 79) (v := ?_) (a' := ?_) #[true, false, false, false, false, false, false, false, false, false, false, false, false, false, false, false, false, false, false, false, false, false, false, false] rfl rfl (any_of HT_.out (by kernel_rfl)) (fun _ _ _ h => h) (Or.inl ⟨by rfl, ?_⟩) ?_ ?_
              rotate_left
              · intro w'
                go_simp
                with_reducible rfl
              rotate_left
              · simp only [Act.put, List.setIfInBounds_toArray, List.set_cons_zero, List.set_cons_succ, i64_w, i32_w]
                rfl
              refine pure_ (i := 1) (N := some 80) (v := ?_) (a' := ?_) #[true, true, false, false, false, false, false, false, false, false, false, false, false, false, false, false, false, false, false, false, false, false, false, false] rfl rfl (any_of HT_.out (by kernel_rfl)) (fun _ _ _ h => h) (Or.inl ⟨by rfl, ?_⟩) ?_ ?_
              rotate_left
              · intro w'
                go_simp
                with_reducible rfl
              rotate_left
              · simp only [Act.put, List.setIfInBounds_toArray, List.set_cons_zero, List.set_cons_succ, i64_w, i32_w]
                rfl
              refine pure_ (i := 2) (N := some 81) (v := ?_) (a' := ?_) #[true, true, true, false, false, false, false, false, false, false, false, false, false, false, false, false, false, false, false, false, false, false, false, false] rfl rfl (any_of HT_.out (by kernel_rfl)) (fun _ _ _ h => h) (Or.inl ⟨by rfl, ?_⟩) ?_ ?_
              rotate_left
              · intro w'
                go_simp
                with_reducible rfl
              rotate_left
              · simp only [Act.put, List.setIfInBounds_toArray, List.set_cons_zero, List.set_cons_succ, i64_w, i32_w]
                rfl
              refine pure_ (i := 3) (N := some 82) (v := ?_) (a' := ?_) #[true, true, true, true, false, false, false, false, false, false, false, false, false, false, false, false, false, false, false, false, false, false, false, false] rfl rfl (any_of HT_.out (by kernel_rfl)) (fun _ _ _ h => h) (Or.inl ⟨by rfl, ?_⟩) ?_ ?_
              rotate_left
              · intro w'
                go_simp
                with_reducible rfl
              rotate_left
              · simp only [Act.put, List.setIfInBounds_toArray, List.set_cons_zero, List.set_cons_succ, i64_w, i32_w]
                rfl
              refine pure_ (i := 4) (N := some 83) (v := ?_) (a' := ?_) #[true, true, true, true, true, false, false, false, false, false, false, false, false, false, false, false, false, false, false, false, false, false, false, false] rfl rfl (any_of HT_.out (by kernel_rfl)) (fun _ _ _ h => h) (Or.inl ⟨by rfl, ?_⟩) ?_ ?_
              rotate_left
              · intro w'
                go_simp
                with_reducible rfl
              rotate_left
              · simp only [Act.put, List.setIfInBounds_toArray, List.set_cons_zero, List.set_cons_succ, i64_w, i32_w]
                rfl
              refine pure_ (i := 5) (N := some 84) (v := ?_) (a' := ?_) #[true, true, true, true, true, true, false, false, false, false, false, false, false, false, false, false, false, false, false, false, false, false, false, false] rfl rfl (any_of HT_.out (by kernel_rfl)) (fun _ _ _ h => h) (Or.inl ⟨by rfl, ?_⟩) ?_ ?_
              rotate_left
              · intro w'
                go_simp
                with_reducible rfl
              rotate_left
              · simp only [Act.put, List.setIfInBounds_toArray, List.set_cons_zero, List.set_cons_succ, i64_w, i32_w]
                rfl
              refine take_ (i := 6) (N := some 85) (v := ?_) (a' := ?_) #[true, true, true, true, true, true, true, false, false, false, false, false, false, false, false, false, false, false, false, false, false, false, false, false] rfl rfl (take_ofW HT_.out HW_.out (by kernel_rfl)) (fun _ _ _ h => h) (Or.inl ⟨by rfl, ?_⟩) hHeld ?_ ?_
              rotate_left
              · rintro w' ⟨s0, s1, s2⟩
                go_simp
                with_reducible rfl
              rotate_left
              · simp only [Act.put, List.setIfInBounds_toArray, List.set_cons_zero, List.set_cons_succ, i64_w, i32_w]
                rfl
              refine pure_ (i := 7) (N := some 86) (v := ?_) (a' := ?_) #[true, true, true, true, true, true, true, true, false, false, false, false, false, false, false, false, false, false, false, false, false, false, false, false] rfl rfl (any_of HT_.out (by kernel_rfl)) (fun _ _ _ h => h) (Or.inl ⟨by rfl, ?_⟩) ?_ ?_
              rotate_left
              · intro w'
                go_simp
                with_reducible rfl
              rotate_left
              · simp only [Act.put, List.setIfInBounds_toArray, List.set_cons_zero, List.set_cons_succ, i64_w, i32_w]
                rfl
              refine pure_ (i := 8) (N := some 87) (v := ?_) (a' := ?_) #[true, true, true, true, true, true, true, true, true, false, false, false, false, false, false, false, false, false, false, false, false, false, false, false] rfl rfl (any_of HT_.out (by kernel_rfl)) (fun _ _ _ h => h) (Or.inl ⟨by rfl, ?_⟩) ?_ ?_
              rotate_left
              · intro w'
                go_simp
                with_reducible rfl
              rotate_left
              · simp only [Act.put, List.setIfInBounds_toArray, List.set_cons_zero, List.set_cons_succ, i64_w, i32_w]
                rfl
              refine pure_ (i := 9) (N := some 88) (v := ?_) (a' := ?_) #[true, true, true, true, true, true, true, true, true, true, false, false, false, false, false, false, false, false, false, false, false, false, false, false] rfl rfl (any_of HT_.out (by kernel_rfl)) (fun _ _ _ h => h) (Or.inl ⟨by rfl, ?_⟩) ?_ ?_
              rotate_left
              · intro w'
                go_simp
                with_reducible rfl
              rotate_left
              · simp only [Act.put, List.setIfInBounds_toArray, List.set_cons_zero, List.set_cons_succ, i64_w, i32_w]
                rfl
              refine take_ (i := 10) (N := some 89) (v := ?_) (a' := ?_) #[true, true, true, true, true, true, true, true, true, true, true, false, false, false, false, false, false, false, false, false, false, false, false, false] rfl rfl (take_ofW HT_.out HW_.out (by kernel_rfl)) (fun _ _ _ h => h) (Or.inl ⟨by rfl, ?_⟩) hHeld ?_ ?_
              rotate_left
              · rintro w' ⟨s0, s1, s2⟩
                go_simp
                with_reducible rfl
              rotate_left
              · simp only [Act.put, List.setIfInBounds_toArray, List.set_cons_zero, List.set_cons_succ, i64_w, i32_w]
                rfl
              refine pure_ (i := 11) (N := some 90) (v := ?_) (a' := ?_) #[true, true, true, true, true, true, true, true, true, true, true, true, false, false, false, false, false, false, false, false, false, false, false, false] rfl rfl (any_of HT_.out (by kernel_rfl)) (fun _ _ _ h => h) (Or.inl ⟨by rfl, ?_⟩) ?_ ?_
              rotate_left
              · intro w'
                go_simp
                with_reducible rfl
              rotate_left
              · simp only [Act.put, List.setIfInBounds_toArray, List.set_cons_zero, List.set_cons_succ, i64_w, i32_w]
                rfl
              refine pure_ (i := 12) (N := some 91) (v := ?_) (a' := ?_) #[true, true, true, true, true, true, true, true, true, true, true, true, true, false, false, false, false, false, false, false, false, false, false, false] rfl rfl (any_of HT_.out (by kernel_rfl)) (fun _ _ _ h => h) (Or.inl ⟨by rfl, ?_⟩) ?_ ?_
              rotate_left
              · intro w'
                go_simp
                with_reducible rfl
              rotate_left
              · simp only [Act.put, List.setIfInBounds_toArray, List.set_cons_zero, List.set_cons_succ, i64_w, i32_w]
                rfl
              refine pure_ (i := 13) (N := some 92) (v := ?_) (a' := ?_) #[true, true, true, true, true, true, true, true, true, true, true, true, true, true, false, false, false, false, false, false, false, false, false, false] rfl rfl (any_of HT_.out (by kernel_rfl)) (fun _ _ _ h => h) (Or.inl ⟨by rfl, ?_⟩) ?_ ?_
              rotate_left
              · intro w'
                go_simp
                with_reducible rfl
              rotate_left
              · simp only [Act.put, List.setIfInBounds_toArray, List.set_cons_zero, List.set_cons_succ, i64_w, i32_w]
                rfl
              refine take_ (i := 14) (N := some 93) (v := ?_) (a' := ?_) #[true, true, true, true, true, true, true, true, true, true, true, true, true, true, true, false, false, false, false, false, false, false, false, false] rfl rfl (take_ofW HT_.out HW_.out (by kernel_rfl)) (fun _ _ _ h => h) (Or.inl ⟨by rfl, ?_⟩) hHeld ?_ ?_
              rotate_left
              · rintro w' ⟨s0, s1, s2⟩
                go_simp
                with_reducible rfl
              rotate_left
              · simp only [Act.put, List.setIfInBounds_toArray, List.set_cons_zero, List.set_cons_succ, i64_w, i32_w]
                rfl
              refine pure_ (i := 16) (N := some 95) (v := ?_) (a' := ?_) #[true, true, true, true, true, true, true, true, true, true, true, true, true, true, true, false, true, false, false, false, false, false, false, false] rfl rfl (any_of HT_.out (by kernel_rfl)) (fun _ _ _ h => h) (Or.inl ⟨by rfl, ?_⟩) ?_ ?_
              rotate_left
              · intro w'
                go_simp
                with_reducible rfl
              rotate_left
              · simp only [Act.put, List.setIfInBounds_toArray, List.set_cons_zero, List.set_cons_succ, i64_w, i32_w]
                rfl
              refine pure_ (i := 17) (N := some 96) (v := ?_) (a' := ?_) #[true, true, true, true, true, true, true, true, true, true, true, true, true, true, true, false, true, true, false, false, false, false, false, false] rfl rfl (any_of HT_.out (by kernel_rfl)) (fun _ _ _ h => h) (Or.inl ⟨by rfl, ?_⟩) ?_ ?_
              rotate_left
              · intro w'
                go_simp
                with_reducible rfl
              rotate_left
              · simp only [Act.put, List.setIfInBounds_toArray, List.set_cons_zero, List.set_cons_succ, i64_w, i32_w]
                rfl
              refine pure_ (i := 18) (N := some 97) (v := ?_) (a' := ?_) #[true, true, true, true, true, true, true, true, true, true, true, true, true, true, true, false, true, true, true, false, false, false, false, false] rfl rfl (any_of HT_.out (by kernel_rfl)) (fun _ _ _ h => h) (Or.inl ⟨by rfl, ?_⟩) ?_ ?_
              rotate_left
              · intro w'
                go_simp
                with_reducible rfl
              rotate_left
              · simp only [Act.put, List.setIfInBounds_toArray, List.set_cons_zero, List.set_cons_succ, i64_w, i32_w]
                rfl
              refine pure_ (i := 19) (N := some 98) (v := ?_) (a' := ?_) #[true, true, true, true, true, true, true, true, true, true, true, true, true, true, true, false, true, true, true, true, false, false, false, false] rfl rfl (any_of HT_.out (by kernel_rfl)) (fun _ _ _ h => h) (Or.inl ⟨by rfl, ?_⟩) ?_ ?_
              rotate_left
              · intro w'
                go_simp
                with_reducible rfl
              rotate_left
              · simp only [Act.put, List.setIfInBounds_toArray, List.set_cons_zero, List.set_cons_succ, i64_w, i32_w]
                rfl
              refine take_ (i := 20) (N := some 99) (v := ?_) (a' := ?_) #[true, true, true, true, true, true, true, true, true, true, true, true, true, true, true, false, true, true, true, true, true, false, false, false] rfl rfl (take_ofW HT_.out HW_.out (by kernel_rfl)) (fun _ _ _ h => h) (Or.inl ⟨by rfl, ?_⟩) hHeld ?_ ?_
              rotate_left
              · rintro w' ⟨s0, s1, s2⟩
                go_simp
                with_reducible rfl
              rotate_left
              · simp only [Act.put, List.setIfInBounds_toArray, List.set_cons_zero, List.set_cons_succ, i64_w, i32_w]
                rfl
              refine one_ (i := 15) (N := some 94) #[true, true, true, true, true, true, true, true, true, true, true, true, true, true, true, true, true, true, true, true, true, false, false, false] rfl rfl (one_of HT_.out (by kernel_rfl)) (by decide) (fun Kc hKc => ?_)
              refine value_ (w1 := wr.drew.alloc (.cells #[.int .i32 ((rs.getD i []).getD k 0)] 21)) (v := .slice (some ⟨wr.heap.size, 0, none⟩) 1 1) (by rfl) rfl ?_ ?_
              · go_simp
                try rfl
              refine hKc.out _ _ SA.out (fun hHeld => ?_)
              clear hKc Kc
              refine norm_ (a' := ?_) ?_ ?_
              rotate_left
              · show Act.put _ (some 94) _ = _
                simp only [Act.put, List.setIfInBounds_toArray, List.set_cons_zero, List.set_cons_succ, i64_w, i32_w]
                rfl
              refine one_ (i := 21) (N := some 100) #[true, true, true, true, true, true, true, true, true, true, true, true, true, true, true, true, true, true, true, true, true, true, false, false] rfl rfl (one_of HT_.out (by kernel_rfl)) (by decide) (fun Kc hKc => ?_)
              refine value_ (w1 := w2) (v := .slice (some ⟨a2, 0, none⟩) (1 + l2) cap2) (by rfl) rfl ?_ ?_
              · exact app_ (s := .tmp 94) (y := .tmp 99) rfl rfl rfl hrun
              refine hKc.out _ _ SB.out (fun hHeld => ?_)
              clear hKc Kc
              refine norm_ (a' := ?_) ?_ ?_
              rotate_left
              · show Act.put _ (some 100) _ = _
                simp only [Act.put, List.setIfInBounds_toArray, List.set_cons_zero, List.set_cons_succ, i64_w, i32_w]
                rfl
              refine pure_ (i := 22) (N := some 101) (v := ?_) (a' := ?_) #[true, true, true, true, true, true, true, true, true, true, true, true, true, true, true, true, true, true, true, true, true, true, true, false] rfl rfl (any_of HT_.out (by kernel_rfl)) (fun _ _ _ h => h) (Or.inl ⟨by rfl, ?_⟩) ?_ ?_
              rotate_left
              · intro w'
                go_simp
                with_reducible rfl
              rotate_left
              · simp only [Act.put, List.setIfInBounds_toArray, List.set_cons_zero, List.set_cons_succ, i64_w, i32_w]
                rfl
              refine last_ (i := 23) (N := none) #[true, true, true, true, true, true, true, true, true, true, true, true, true, true, true, true, true, true, true, true, true, true, true, true] rfl rfl (one_of HT_.out (by kernel_rfl)) (by decide) (fun Kc hKc => ?_)
              refine skip_ (w1 := w3) (by rfl) rfl ?_ ?_
              · rw [HW3.out]; go_simp
                try rfl
              refine hKc.out _ _ ?_
              clear hKc Kc
              refine done_ (done_of HT_.out (by kernel_rfl)) ?_
              clear hHeld
              go_wp2_with (fail)
              refine start_ (n := 15) (S := fun w' => w'.cell? ⟨g, i, none⟩ = some (.slice (some ⟨a, 0, none⟩) (k + 1) d)) (ds := [14]) #[false, false, false, false, false, false, false, false, false, false, false, false, false, false, false] (by kernel_rfl) rfl rfl SC.out (fun hHeld => ?_); refine with_tabW tab26 bits26 (fun HT_ HW_ => ?_)
              refine pure_ (i := 0) (N := some 102) (v := ?_) (a' := ?_) #[true, false, false, false, false, false, false, false, false, false, false, false, false, false, false] rfl rfl (any_of HT_.out (by kernel_rfl)) (fun _ _ _ h => h) (Or.inl ⟨by rfl, ?_⟩) ?_ ?_
              rotate_left
              · intro w'
                go_simp
                with_reducible rfl
              rotate_left
              · simp only [Act.put, List.setIfInBounds_toArray, List.set_cons_zero, List.set_cons_succ, i64_w, i32_w]
                rfl
              refine pure_ (i := 1) (N := some 103) (v := ?_) (a' := ?_) #[true, true, false, false, false, false, false, false, false, false, false, false, false, false, false] rfl rfl (any_of HT_.out (by kernel_rfl)) (fun _ _ _ h => h) (Or.inl ⟨by rfl, ?_⟩) ?_ ?_
              rotate_left
              · intro w'
                go_simp
                with_reducible rfl
              rotate_left
              · simp only [Act.put, List.setIfInBounds_toArray, List.set_cons_zero, List.set_cons_succ, i64_w, i32_w]
                rfl
              refine pure_ (i := 2) (N := some 104) (v := ?_) (a' := ?_) #[true, true, true, false, false, false, false, false, false, false, false, false, false, false, false] rfl rfl (any_of HT_.out (by kernel_rfl)) (fun _ _ _ h => h) (Or.inl ⟨by rfl, ?_⟩) ?_ ?_
              rotate_left
              · intro w'
                go_simp
                with_reducible rfl
              rotate_left
              · simp only [Act.put, List.setIfInBounds_toArray, List.set_cons_zero, List.set_cons_succ, i64_w, i32_w]
                rfl
              refine pure_ (i := 3) (N := some 105) (v := ?_) (a' := ?_) #[true, true, true, true, false, false, false, false, false, false, false, false, false, false, false] rfl rfl (any_of HT_.out (by kernel_rfl)) (fun _ _ _ h => h) (Or.inl ⟨by rfl, ?_⟩) ?_ ?_
              rotate_left
              · intro w'
                go_simp
                with_reducible rfl
              rotate_left
              · simp only [Act.put, List.setIfInBounds_toArray, List.set_cons_zero, List.set_cons_succ, i64_w, i32_w]
                rfl
              refine pure_ (i := 4) (N := some 106) (v := ?_) (a' := ?_) #[true, true, true, true, true, false, false, false, false, false, false, false, false, false, false] rfl rfl (any_of HT_.out (by kernel_rfl)) (fun _ _ _ h => h) (Or.inl ⟨by rfl, ?_⟩) ?_ ?_
              rotate_left
              · intro w'
                go_simp
                with_reducible rfl
              rotate_left
              · simp only [Act.put, List.setIfInBounds_toArray, List.set_cons_zero, List.set_cons_succ, i64_w, i32_w]
                rfl
              refine take_ (i := 5) (N := some 107) (v := ?_) (a' := ?_) #[true, true, true, true, true, true, false, false, false, false, false, false, false, false, false] rfl rfl (take_ofW HT_.out HW_.out (by kernel_rfl)) (fun _ _ _ h => h) (Or.inl ⟨by rfl, ?_⟩) hHeld ?_ ?_
              rotate_left
              · rintro w' s0
                go_simp
                with_reducible rfl
              rotate_left
              · simp only [Act.put, List.setIfInBounds_toArray, List.set_cons_zero, List.set_cons_succ, i64_w, i32_w]
                rfl
              refine pure_ (i := 6) (N := some 108) (v := ?_) (a' := ?_) #[true, true, true, true, true, true, true, false, false, false, false, false, false, false, false] rfl rfl (any_of HT_.out (by kernel_rfl)) (fun _ _ _ h => h) (Or.inl ⟨by rfl, ?_⟩) ?_ ?_
              rotate_left
              · intro w'
                go_simp
                with_reducible rfl
              rotate_left
              · simp only [Act.put, List.setIfInBounds_toArray, List.set_cons_zero, List.set_cons_succ, i64_w, i32_w]
                rfl
              refine pure_ (i := 7) (N := some 109) (v := ?_) (a' := ?_) #[true, true, true, true, true, true, true, true, false, false, false, false, false, false, false] rfl rfl (any_of HT_.out (by kernel_rfl)) (fun _ _ _ h => h) (Or.inl ⟨by rfl, ?_⟩) ?_ ?_
              rotate_left
              · intro w'
                go_simp
                with_reducible rfl
              rotate_left
              · simp only [Act.put, List.setIfInBounds_toArray, List.set_cons_zero, List.set_cons_succ, i64_w, i32_w]
                rfl
              refine pure_ (i := 8) (N := some 110) (v := ?_) (a' := ?_) #[true, true, true, true, true, true, true, true, true, false, false, false, false, false, false] rfl rfl (any_of HT_.out (by kernel_rfl)) (fun _ _ _ h => h) (Or.inl ⟨by rfl, ?_⟩) ?_ ?_
              rotate_left
              · intro w'
                go_simp
                with_reducible rfl
              rotate_left
              · simp only [Act.put, List.setIfInBounds_toArray, List.set_cons_zero, List.set_cons_succ, i64_w, i32_w]
                rfl
              refine take_ (i := 9) (N := some 111) (v := ?_) (a' := ?_) #[true, true, true, true, true, true, true, true, true, true, false, false, false, false, false] rfl rfl (take_ofW HT_.out HW_.out (by kernel_rfl)) (fun _ _ _ h => h) (Or.inl ⟨by rfl, ?_⟩) hHeld ?_ ?_
              rotate_left
              · rintro w' s0
                go_simp
                with_reducible rfl
              rotate_left
              · simp only [Act.put, List.setIfInBounds_toArray, List.set_cons_zero, List.set_cons_succ, i64_w, i32_w]
                rfl
              refine pure_ (i := 10) (N := some 112) (v := ?_) (a' := ?_) #[true, true, true, true, true, true, true, true, true, true, true, false, false, false, false] rfl rfl (any_of HT_.out (by kernel_rfl)) (fun _ _ _ h => h) (Or.inl ⟨by rfl, ?_⟩) ?_ ?_
              rotate_left
              · intro w'
                go_simp
                with_reducible rfl
              rotate_left
              · simp only [Act.put, List.setIfInBounds_toArray, List.set_cons_zero, List.set_cons_succ, i64_w, i32_w]
                rfl
              refine pure_ (i := 11) (N := some 113) (v := ?_) (a' := ?_) #[true, true, true, true, true, true, true, true, true, true, true, true, false, false, false] rfl rfl (any_of HT_.out (by kernel_rfl)) (fun _ _ _ h => h) (Or.inl ⟨by rfl, ?_⟩) ?_ ?_
              rotate_left
              · intro w'
                go_simp
                with_reducible rfl
              rotate_left
              · simp only [Act.put, List.setIfInBounds_toArray, List.set_cons_zero, List.set_cons_succ, i64_w, i32_w]
                rfl
              refine pure_ (i := 12) (N := some 114) (v := ?_) (a' := ?_) #[true, true, true, true, true, true, true, true, true, true, true, true, true, false, false] rfl rfl (any_of HT_.out (by kernel_rfl)) (fun _ _ _ h => h) (Or.inl ⟨by rfl, ?_⟩) ?_ ?_
              rotate_left
              · intro w'
                go_simp
                with_reducible rfl
              rotate_left
              · simp only [Act.put, List.setIfInBounds_toArray, List.set_cons_zero, List.set_cons_succ, i64_w, i32_w]
                rfl
              refine pure_ (i := 13) (N := some 115) (v := ?_) (a' := ?_) #[true, true, true, true, true, true, true, true, true, true, true, true, true, true, false] rfl rfl (any_of HT_.out (by kernel_rfl)) (fun _ _ _ h => h) (Or.inl ⟨by rfl, ?_⟩) ?_ ?_
              rotate_left
              · intro w'
                go_simp
                with_reducible rfl
              rotate_left
              · simp only [Act.put, List.setIfInBounds_toArray, List.set_cons_zero, List.set_cons_succ, i64_w, i32_w]
                rfl
              refine last_ (i := 14) (N := none) #[true, true, true, true, true, true, true, true, true, true, true, true, true, true, true] rfl rfl (one_of HT_.out (by kernel_rfl)) (by decide) (fun Kc hKc => ?_)
              refine skip_ (w1 := w4) (by rfl) rfl ?_ ?_
              · rw [HW4.out]; go_simp
                try rfl
              refine hKc.out _ _ ?_
              clear hKc Kc
              refine done_ (done_of HT_.out (by kernel_rfl)) ?_
              -- END REGIONS
              go_wp2_with (fail)
              go_roundg g'
              case measure => omega
              case rel => exact ⟨i + 1, rfl, hlt, by omega, by rw [HN.out.2, HW4.out, HW3.out]; exact FIN.out⟩
            · rw [decide_eq_false hlo] at cL
              have HC := Aside0.mk hlo
              clear hup hlo
              go_wp2_with (first | (go_at_call 10; refine cU.mono ?_; rintro e w1 ⟨rfl, rfl⟩) | (go_at_call 9; refine cL.mono ?_; rintro e w1 ⟨rfl, rfl⟩))
              go_roundg g'
              case measure => omega
              case rel => exact ⟨i + 1, rfl, hlt, by omega, by rw [HN.out.2]; exact L.out.same (by rw [HN.out.1]; omega) (fun h => by have h1 := h; rw [HY.out.1, HY.out.2] at h1; have := HC.out; omega)⟩
          · rw [decide_eq_false hup] at cU
            have HC := Aside0.mk hup
            clear hup
            go_wp2_with (first | (go_at_call 10; refine cU.mono ?_; rintro e w1 ⟨rfl, rfl⟩))
            go_roundg g'
            case measure => omega
            case rel => exact ⟨i + 1, rfl, hlt, by omega, by rw [HN.out.2]; exact L.out.same (by rw [HN.out.1]; omega) (fun h => by have h1 := h; rw [HY.out.1, HY.out.2] at h1; have := HC.out; omega)⟩
        · -- LOOP 3
          obtain rfl : i = M := by omega
          obtain ⟨vs0, hvl0, hR0⟩ := L.out.rows
          have hlet := L.out.mi.let_
          have hlast : keep (rs.take (i + 1)) = camel (runes s) := by
            rw [List.take_of_length_le (by rw [HN.out.1]; exact Nat.le_refl _)]
            unfold camel
            rw [HLN.out]
            exact congrArg keep HRS.out.symm
          have HZ := Aside0.mk (And.intro hlet hlast)
          have L0 := Aside0.mk (And.intro hR0 (And.intro hvl0 (And.intro L.out.below L.out.ent)))
          clear hR0 hvl0 hlet hlast
          go_wp2_with (fail)
          go_loopg [2, 118] (i + 1) (fun gk v2 v118 wx => ∃ q : Nat, v118 = .int .i64 q ∧ q ≤ i + 1 ∧ i + 1 ≤ q + gk ∧ wx.ownsRow w.heap.size 9 1 v2 (keep (rs.take q)).length ((keep (rs.take q)).map Value.string) ∧ Rr w.heap.size (.slice (some ⟨g, 0, none⟩) (i + 1) c) vs0 rs wx ∧ Below w.heap.size w wx)
          case atStart =>
            exact ⟨0, rfl, Nat.zero_le _, by omega, ⟨rfl, .inr ⟨E, 0, #[], rfl, by rw [HE.out]; exact HBV.out.size, L0.out.2.2.2, Nat.le_refl _, by decide, rfl, rfl⟩⟩, L0.out.1, L0.out.2.2.1⟩
          case round =>
            obtain ⟨q, hv118, hq, hfu, hent, hR, hb⟩ := hrel
            subst hv118
            obtain ⟨v2, hv2⟩ : ∃ v2, u2 = v2 := ⟨_, rfl⟩
            rw [hv2] at hent ⊢
            by_cases hlt : q < i + 1
            · obtain ⟨g', rfl⟩ : ∃ g', gk = g' + 1 := ⟨gk - 1, by omega⟩
              have hR' : Rr w.heap.size (.slice (some ⟨g, 0, none⟩) vs0.length c) vs0 rs wr := by rw [L0.out.2.1]; exact hR
              obtain ⟨a, l, d, hcell, hu, hr, hl, hown⟩ := hR'.at_ q (by rw [L0.out.2.1]; exact hlt)
              have hrl := HZ.out.1 _ (List.mem_of_getElem? hr)
              have hls := L.out.mi.le _ (List.mem_of_getElem? hr)
              have hconv := run_convert_runes (P := Tryd.prog) wr 29 9 21 ⟨a, 0, none⟩ l d (rs.getD q []) (by omega) Tryd.underlying29 Tryd.underlying21 Tryd.underlying9 (fun j hj => by
                refine hown.cells (g := a) rfl j _ ?_
                rw [List.getElem?_map, getD_at 0 _ j hj]; rfl)
              rw [List.take_of_length_le (by omega)] at hconv
              have hkt := keep_take rs q (by rw [HN.out.1]; omega)
              obtain ⟨str, hstr⟩ : ∃ str, runesBytes (rs.getD q []) = str := ⟨_, rfl⟩
              rw [hstr] at hconv hkt
              have hi1 : decide ((q : Int) < (i : Int) + 1) = true := decide_eq_true (by omega)
              have hq1 : (q : Int) < (i : Int) + 1 := by omega
              have hwq : wrap64 ((q : Int) + 1) = ((q + 1 : Nat) : Int) := by unfold wrap64; omega
              have KT := Aside0.mk hkt
              have KE := Aside0.mk hent
              have KR := Aside0.mk hR
              have KB := Aside0.mk hb
              have KL := Aside0.mk (And.intro hl (And.intro hstr hrl))
              clear hR hb hent hR' hu hr hl hown hkt hrl
              by_cases hz : l = 0
              · subst hz
                go_wp2_with (fail)
                go_roundg g'
                case measure => omega
                case rel =>
                  have e := KT.out
                  rw [if_neg (by rw [← KL.out.1]; omega)] at e
                  exact ⟨q + 1, rfl, hlt, by omega, by rw [e]; exact KE.out, KR.out, KB.out⟩
              · obtain ⟨k, rfl⟩ : ∃ k, l = k + 1 := ⟨l - 1, by omega⟩
                have hsl : str.data.toList = (rs.getD q []).map fun c => UInt8.ofNat c.toNat := by rw [← KL.out.2.1]; exact text _ KL.out.2.2
                have htr : Lib.trimSpace str.data.toList = str.data.toList := by rw [← KL.out.2.1]; exact trim _ KL.out.2.2
                have hsz : str.size = k + 1 := by rw [← size_data, hsl, List.length_map]; exact KL.out.1.symm
                have cT : Calls Tryd.prog 12 #[.string str] wr _ := Tryd.strings_TrimSpace str wr (by have := KL.out.1; omega) (fun j b hb => by
                  have hm := List.mem_of_getElem? hb
                  rw [hsl] at hm
                  obtain ⟨z, hz, rfl⟩ := List.mem_map.1 hm
                  have := KL.out.2.2 z hz
                  unfold Lt at this
                  rw [UInt8.toNat_ofNat_of_lt' (by show z.toNat < 256; omega)]; omega) (HT.out.below KB.out).s
                rw [htr, show (⟨str.data.toList.toArray⟩ : ByteArray) = str from rfl] at cT
                obtain ⟨W5, hW5⟩ : ∃ W5, Lib.bytesWorld wr 5 str = W5 := ⟨_, rfl⟩
                have hB5 : Below wr.heap.size wr W5 := by rw [← hW5]; exact Lib.bytesWorld_below _ _ _
                rw [hW5] at cT
                have hb6 : Below W5.heap.size W5 (W5.alloc (.cells #[.string str] 9)) := (Below.refl _ _).alloc (Nat.le_refl _) _
                have hent5 := own_below KE.out hB5
                have hkf : (keep (rs.take q)).length ≤ 300 := by
                  have h1 := keep_few (rs.take q)
                  rw [List.length_take, HN.out.1] at h1
                  omega
                obtain ⟨a2, cap2, w6, hrun, ho6, hgr, hat⟩ := app Tryd.underlying23 info9 rfl (by decide) 23 w.heap.size (W5.alloc (.cells #[.string str] 9)) (W5.alloc (.cells #[.string str] 9)) v2 (.slice (some ⟨W5.heap.size, 0, none⟩) 1 1) (keep (rs.take q)).length ((keep (rs.take q)).map Value.string) ⟨W5.heap.size, 0, none⟩ 1 1 [.string str] (by omega)
                  (hent5.alloc _) (Nat.le_trans (Nat.le_trans KR.out.base hB5.size) hb6.size) rfl rfl (one_new W5 _ 9) (by intro u hu; rw [List.mem_singleton.1 hu]; rfl) rfl (by decide)
                have KG := Aside0.mk (And.intro ho6 hgr)
                have hE1 : str.toList.isEmpty = false := by
                  rw [Small.toList_data, List.isEmpty_eq_false_iff]; intro e0; rw [← size_data, e0] at hsz; simp at hsz
                have hE2 : (str.toList == [95]) = false := by
                  rw [beq_eq_false_iff_ne, Small.toList_data, hsl]
                  intro e0
                  obtain ⟨z, zs, hzz⟩ : ∃ z zs, rs.getD q [] = z :: zs := by
                    cases hq : rs.getD q [] with
                    | nil => have := KL.out.1; rw [hq] at this; simp at this
                    | cons z zs => exact ⟨z, zs, rfl⟩
                  have hz2 := KL.out.2.2 z (by rw [hzz]; simp)
                  rw [hzz] at e0
                  have e1 : UInt8.ofNat z.toNat = 95 := by injection e0
                  have e2 := congrArg UInt8.toNat e1
                  unfold Lt at hz2
                  rw [UInt8.toNat_ofNat_of_lt' (by show z.toNat < 256; omega)] at e2
                  have : z.toNat = 95 := e2
                  omega
                have K5 := Aside0.mk (And.intro hB5 (And.intro hb6 hent5))
                clear ho6 hgr hat hb6 hent5 hkf htr hsl hW5 hB5
                go_wp2_with (first | (refine appL_ (some 139) rfl rfl rfl rfl rfl hrun ?_) | (go_at_call 12; refine cT.mono ?_; rintro e w1 ⟨rfl, hw1⟩; rw [hw1]; clear hw1 w1))
                go_roundg g'
                case measure => omega
                case rel =>
                  have e := KT.out
                  rw [if_pos (by rw [← KL.out.1]; omega)] at e
                  have R6 := (KR.out.kept K5.out.1)
                  have R7 := R6.kept K5.out.2.1
                  refine ⟨q + 1, rfl, hlt, by omega, ?_, R7.grown KG.out.2 (fun k' c' e' hk hc => ?_), ?_⟩
                  · rw [e, List.length_append, List.map_append]
                    exact KG.out.1
                  · obtain ⟨cc, hcc⟩ := own_typed (K5.out.2.2.alloc (.cells #[.string str] 9)) hk
                    rw [hcc] at hc
                    injection hc with hc
                    injection hc with _ hc
                    subst hc
                    exact ⟨by decide, by decide⟩
                  · have hge : w.heap.size ≤ wr.heap.size := KB.out.size
                    have b1 : Below w.heap.size w W5 := ⟨K5.out.1.os.trans KB.out.os, K5.out.1.tape.trans KB.out.tape, K5.out.1.output.trans KB.out.output, Nat.le_trans KB.out.size K5.out.1.size, fun k hk => (K5.out.1.block k (by omega)).trans (KB.out.block k hk)⟩
                    exact bel_grown (b1.alloc b1.size _) KG.out.2 (own_ge (K5.out.2.2.alloc (.cells #[.string str] 9)))
            · obtain rfl : q = i + 1 := by omega
              rw [HZ.out.2] at hent
              have KE := Aside0.mk hent
              have KB := Aside0.mk hb
              clear hent hb hR
              go_wp2_with (fail)
              go_ret
              exact ⟨_, rfl, KE.out, KB.out⟩
end Go.Proofs.YtjaebonfojnmdaaDoor.Cmw
