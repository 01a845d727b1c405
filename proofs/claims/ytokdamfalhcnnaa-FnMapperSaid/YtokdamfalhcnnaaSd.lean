/- spec.Done: what its loops make, in memory. -/
import Derived.Test.YtokdamfalhcnnaaPf
namespace Go.Proofs.Ytokdamfalhcnnaa.Sd
open Go Go.Maps Go.ChangeMaps Go.MapKept Go.RowKit Go.Proofs.YtokdamfalhcnnaaW.PrintWords Go.Proofs.YtokdamfalhcnnaaW.PrintLast Go.Proofs.YtokdamfalhcnnaaW.PrintMore GMpBody Mp Mq Mr Ms Mt Mu Small Mv Mo Mw Mx Pa Pb Pc Pe Pf

set_option linter.all false
set_option maxRecDepth 1000000
set_option maxHeartbeats 4000000
/-- the struct 'out' under way -/
structure Dn (Wp wx : World) (O : Nat) (nn : Bool) (v : Value) (qs : List Pr) : Prop where
  gr : Wp.grownBy wx (some O)
  ob : wx.heap[O]? = some (.cells #[.bool nn, v] 27 (0, 0))
  row : wx.ownsRow Wp.heap.size 29 2 v qs.length (pcs qs)
  oW : O < Wp.heap.size
variable {Wp w w' : World} {O : Nat} {nn : Bool} {v : Value} {qs : List Pr}
theorem Dn.alloc (h : Dn Wp w O nn v qs) (o : Obj) : Dn Wp (w.alloc o) O nn v qs := by
  have hg := World.grownBy_alloc w o none
  exact ⟨h.gr.andThen hg (fun j hj => by cases hj), (hg.block O (Array.getElem?_eq_some_iff.1 h.ob).1 (by simp)).trans h.ob, h.row.kept hg (by cases v.ownBlock <;> simp), h.oW⟩
theorem Dn.below (h : Dn Wp w O nn v qs) (hb : Below w.heap.size w w') : Dn Wp w' O nn v qs := by
  have hg := grown_of_below hb none
  exact ⟨h.gr.andThen hg (fun j hj => by cases hj), (hg.block O (Array.getElem?_eq_some_iff.1 h.ob).1 (by simp)).trans h.ob, h.row.kept hg (by cases v.ownBlock <;> simp), h.oW⟩
theorem Dn.push (h : Dn Wp w O nn v qs) (hl : qs.length ≤ 100000) (x : Pr) : ∃ A2 n2 c2 w6, (Builtin.append_ #[25, 25] 25 #[v, .slice (some ⟨w.heap.size, 0, none⟩) 1 1]).run Try.prog (w.alloc (.cells #[.int .i64 x.1, .int .i64 x.2] 29)) = .ok (.slice A2 n2 c2) w6 ∧ w6.cell? ⟨O, 1, none⟩ = some v ∧ w6.frozen? ⟨O, 1, none⟩ = false ∧ Dn Wp (w6.setCell ⟨O, 1, none⟩ (.slice A2 n2 c2)) O nn (.slice A2 n2 c2) (qs ++ [x]) := by
  have hO : O < w.heap.size := (Array.getElem?_eq_some_iff.1 h.ob).1
  obtain ⟨A2, n2, c2, w6, hrun, ho6, hg6, hat6⟩ := Mr.push Try.underlying25 Mr.info29 rfl (by omega) Wp.heap.size w v qs.length _ h.row h.gr.size [.int .i64 x.1, .int .i64 x.2] rfl (by intro u hu; simp at hu; rcases hu with rfl | rfl <;> rfl) (by omega)
  have hvO : v.ownBlock ≠ some O := fun e => by have := (h.row.lt O e).1; have := h.oW; omega
  have ho : w6.heap[O]? = some (.cells #[.bool nn, v] 27 (0, 0)) := (hg6.block O hO (fun e => hvO e.symm)).trans h.ob
  have hvO' : (Value.slice A2 n2 c2).ownBlock ≠ some O := fun e => by have := (ho6.lt O e).1; have := h.oW; omega
  have hk : w6.grownBy (w6.setCell ⟨O, 1, none⟩ (.slice A2 n2 c2)) (some O) := ⟨rfl, rfl, rfl, by simp [World.setCell], fun k _ hk => Below.heap_setCell _ _ _ k (fun e => hk (by rw [e]))⟩
  have e6 : pcs qs ++ [.int .i64 x.1, .int .i64 x.2] = pcs (qs ++ [x]) := (pcs_snoc qs x).symm
  have hl6 : (qs ++ [x]).length = qs.length + 1 := by simp
  rw [e6, ← hl6] at ho6
  refine ⟨A2, n2, c2, w6, hrun, by rw [Lib.cell_of_heap ho]; rfl, by rw [Lib.frozen_of_heap ho], ⟨?_, (heap_setCell_same w6 O 1 _ 27 _ ho).trans rfl, ho6.kept hk (.inr hvO'), h.oW⟩⟩
  have h1 : Wp.grownBy w6 (some O) := ⟨hg6.os.trans h.gr.os, hg6.tape.trans h.gr.tape, hg6.output.trans h.gr.output, Nat.le_trans h.gr.size hg6.size, fun k hk hne => (hg6.block k (Nat.lt_of_lt_of_le hk h.gr.size) (fun e => by have := (h.row.lt k e.symm).1; omega)).trans (h.gr.block k hk hne)⟩
  exact h1.andThen hk (fun j hj => .inr hj)
theorem rd_sps (ps : List Pr) (j : Nat) (h : j < ps.length) : rd_T29 (sps ps) (j : Int) = sp ps[j] := by
  unfold rd_T29 sps
  rw [Int.toNat_natCast, List.getD_eq_getElem?_getD, List.getElem?_map, List.getElem?_eq_getElem h]
  rfl
theorem among_l0 (a : Int) (l : List Int) (hl : l.length < 9223372036854775807) : ∀ (n j : Nat), n + j = l.length → Ev (fun k => spec_TwAmong.l0 k l a (j : Int)) (decide (a ∈ l.drop j))
  | 0, j, h => by
    apply Ev.shift
    simp only [spec_TwAmong.l0]
    simp only [if_neg (show ¬ (j : Int) < (l.length : Int) by omega)]
    rw [List.drop_eq_nil_of_le (by omega)]
    exact Ev.now _
  | n + 1, j, h => by
    have hj : j < l.length := by omega
    apply Ev.shift
    simp only [spec_TwAmong.l0]
    simp only [if_pos (show (j : Int) < (l.length : Int) by omega), if_pos (show 0 ≤ (j : Int) by omega), rd_nat, getD_at _ _ _ hj]
    rw [List.drop_eq_getElem_cons hj]
    by_cases hx : l[j] = a
    · simp only [if_pos hx]
      have : decide (a ∈ l[j] :: l.drop (j + 1)) = true := decide_eq_true (by rw [hx]; exact List.mem_cons_self)
      rw [this]
      exact Ev.now _
    · simp only [if_neg hx, wrap_succ j (by omega)]
      have : decide (a ∈ l[j] :: l.drop (j + 1)) = decide (a ∈ l.drop (j + 1)) := by
        have hx' : ¬ a = l[j] := fun e => hx e.symm
        exact decide_eq_decide.2 (by rw [List.mem_cons]; exact ⟨fun h => h.resolve_left hx', .inr⟩)
      rw [this]
      exact among_l0 a l hl n (j + 1) (by omega)
theorem among_f (l : List Int) (a : Int) (hl : l.length < 9223372036854775807) : ∃ k, spec_TwAmong.f k l a = some (decide (a ∈ l)) := by
  obtain ⟨k, hk⟩ := among_l0 a l hl l.length 0 (by omega)
  exact ⟨k, by simpa [spec_TwAmong.f] using hk k (Nat.le_refl _)⟩
end Go.Proofs.Ytokdamfalhcnnaa.Sd
