/- spec.Facts: what its loop makes, in memory. -/
import Derived.Test.YtokdamfalhcnnaaSe
import Derived.ArgAppend
import Derived.Laws.Slices
namespace Go.Proofs.Ytokdamfalhcnnaa.Fa
open Go Go.Maps Go.ChangeMaps Go.MapKept Go.RowKit Go.Proofs.YtokdamfalhcnnaaW.PrintWords Go.Proofs.YtokdamfalhcnnaaW.PrintLast Go.Proofs.YtokdamfalhcnnaaW.PrintMore GMpBody Mp Mq Ms Mt Mu Small Mv Mo Mw Mx Pa Pb Pc Pe Pf Sd Sw Se Ri Sl

set_option linter.all false
set_option maxRecDepth 1000000
set_option maxHeartbeats 4000000
/-- the struct 'f' under way -/
def fc (n : Nat) (mp kv vv : Value) : Array Value := #[.int .i64 n, kv, .slice none 0 0, .int .i64 0, .int .i64 0, .bool false, .bool false, mp, mp, vv]
structure Fk (Wp wx : World) (F n : Nat) (mp kv vv : Value) (ks vs : List Int) : Prop where
  gr : Wp.grownBy wx (some F)
  fb : wx.heap[F]? = some (.cells (fc n mp kv vv) 36 (0, 0))
  rk : wx.ownsRow Wp.heap.size 3 1 kv ks.length (ints ks)
  rv : wx.ownsRow Wp.heap.size 3 1 vv vs.length (ints vs)
  ap : ∀ k, kv.ownBlock = some k → vv.ownBlock ≠ some k
  fW : F < Wp.heap.size
variable {Wp w w' : World} {F n : Nat} {mp kv vv : Value} {ks vs : List Int}
theorem Fk.below (h : Fk Wp w F n mp kv vv ks vs) (hb : Below w.heap.size w w') : Fk Wp w' F n mp kv vv ks vs := by
  have hg := grown_of_below hb none
  exact ⟨h.gr.andThen hg (fun j hj => by cases hj), (hg.block F (Array.getElem?_eq_some_iff.1 h.fb).1 (by simp)).trans h.fb, h.rk.kept hg (by cases kv.ownBlock <;> simp), h.rv.kept hg (by cases vv.ownBlock <;> simp), h.ap, h.fW⟩
theorem setF (W : World) (F j : Nat) (u : Value) : W.grownBy (W.setCell ⟨F, j, none⟩ u) (some F) := ⟨rfl, rfl, rfl, by simp [World.setCell], fun k _ hk => Below.heap_setCell _ _ _ k (fun e => hk (by rw [e]))⟩
/-- a key is added -/
theorem Fk.key (h : Fk Wp w F n mp kv vv ks vs) (hl : ks.length ≤ 100000) (x : Int) : ∃ A2 n2 c2 w2, (Builtin.append_ #[22, 22] 22 #[kv, .slice (some ⟨w.heap.size, 0, none⟩) 1 1]).run Try.prog (w.alloc (.cells #[.int .i64 x] 3)) = .ok (.slice A2 n2 c2) w2 ∧ w2.cell? ⟨F, 1, none⟩ = some kv ∧ w2.frozen? ⟨F, 1, none⟩ = false ∧
    Fk Wp (w2.setCell ⟨F, 1, none⟩ (.slice A2 n2 c2)) F n mp (.slice A2 n2 c2) vv (ks ++ [x]) vs ∧ w.heap.size ≤ w2.heap.size ∧ ∀ k, k < w.heap.size → k ≠ F → kv.ownBlock ≠ some k → (w2.setCell ⟨F, 1, none⟩ (.slice A2 n2 c2)).heap[k]? = w.heap[k]? := by
  have hF : F < w.heap.size := (Array.getElem?_eq_some_iff.1 h.fb).1
  obtain ⟨A2, n2, c2, w2, hrun, ho, hg, hat⟩ := Mr.push Try.underlying22 Mr.info3 rfl (by omega) Wp.heap.size w kv ks.length _ h.rk h.gr.size [.int .i64 x] rfl (by intro u hu; simp at hu; subst hu; rfl) (by omega)
  have hkF : kv.ownBlock ≠ some F := fun e => by have := (h.rk.lt F e).1; have := h.fW; omega
  have hf : w2.heap[F]? = some (.cells (fc n mp kv vv) 36 (0, 0)) := (hg.block F hF (fun e => hkF e.symm)).trans h.fb
  have hk := setF w2 F 1 (.slice A2 n2 c2)
  have hF' : (Value.slice A2 n2 c2).ownBlock ≠ some F := fun e => by have := (ho.lt F e).1; have := h.fW; omega
  have hvF : vv.ownBlock ≠ some F := fun e => by have := (h.rv.lt F e).1; have := h.fW; omega
  have hl2 : (ks ++ [x]).length = ks.length + 1 := by simp
  have hne : vv.ownBlock = none ∨ vv.ownBlock ≠ kv.ownBlock := by
    cases hv : vv.ownBlock with
    | none => exact .inl rfl
    | some k => exact .inr (fun e => h.ap k (e ▸ rfl) hv)
  have hrv2 := h.rv.kept hg hne
  refine ⟨A2, n2, c2, w2, hrun, by rw [Lib.cell_of_heap hf]; rfl, by rw [Lib.frozen_of_heap hf], ⟨?_, (heap_setCell_same w2 F 1 _ 36 _ hf).trans rfl, by rw [ints_snoc, hl2]; exact ho.kept hk (.inr hF'), hrv2.kept hk (.inr hvF), fun k e1 e2 => ?_, h.fW⟩, hg.size, fun k hkl hkF2 hkv => (hk.block k (Nat.lt_of_lt_of_le hkl hg.size) (fun e => hkF2 (Option.some.inj e))).trans (hg.block k hkl (fun e => hkv e.symm))⟩
  · have h1 : Wp.grownBy w2 (some F) := ⟨hg.os.trans h.gr.os, hg.tape.trans h.gr.tape, hg.output.trans h.gr.output, Nat.le_trans h.gr.size hg.size, fun k hk hne => (hg.block k (Nat.lt_of_lt_of_le hk h.gr.size) (fun e => by have := (h.rk.lt k e.symm).1; omega)).trans (h.gr.block k hk hne)⟩
    exact h1.andThen hk (fun j hj => .inr hj)
  · rcases hat with e | ⟨g, e, hge⟩
    · exact h.ap k (e ▸ e1) e2
    · rw [e] at e1
      injection e1 with e1
      have := (h.rv.lt k e2).2
      omega
theorem size22 (w : World) : (sizeOf (Try.prog.elem 22)).run Try.prog w = .ok 1 w := by kernel_rfl
theorem elem22 : Try.prog.underlying 22 = some (.slice (Try.prog.elem 22)) := by kernel_rfl
theorem slice_cut (a : Option Addr) (len cap i : Nat) (hi : i ≤ cap) (w : World) : (Instr.slice 22 (.slice a len cap) none (some (.int .i64 i)) (some (.int .i64 i))).run Try.prog w = .ok (.slice a i i) w := by
  rw [run_slice_hm w 22 a len cap elem22 .i64 .i64 (i : Int) (i : Int) (by omega) (by omega) (by omega), size22]
  have hm : a.map (fun x => x.add 0) = a := by cases a <;> simp [Addr.add]
  simp [Result.andThen, sliced, hm]
def tl (a : Option Addr) (len cap i : Nat) : Value := .slice (if cap = i then a else a.map (fun x => x.add i)) (len - i) (cap - i)
theorem slice_tail (a : Option Addr) (len cap i : Nat) (hi : i ≤ len) (w : World) : (Instr.slice 22 (.slice a len cap) (some (.int .i64 i)) none none).run Try.prog w = .ok (tl a len cap i) w := by
  rw [run_slice_l w 22 a len cap elem22 .i64 (i : Int) (by omega) (by omega), size22]
  simp [Result.andThen, sliced, tl]
theorem ints_take (l : List Int) (i : Nat) : ints (l.take i) = (ints l).take i := by unfold ints; rw [List.map_take]
theorem ints_drop (l : List Int) (i : Nat) : ints (l.drop i) = (ints l).drop i := by unfold ints; rw [List.map_drop]
theorem ints_len (l : List Int) : (ints l).length = l.length := by unfold ints; simp
/-- a value is put in at a place: the appends, in memory -/
theorem Fk.val (h : Fk Wp w F n mp kv vv ks vs) (hl : vs.length ≤ 100000) (i : Nat) (hi : i ≤ vs.length) (y : Int) : ∃ a cap A6 n6 c6 wb A9 n9 c9 wc, vv = .slice a vs.length cap ∧ vs.length ≤ cap ∧
    (Builtin.append_ #[22, 22] 22 #[.slice (some ⟨w.heap.size, 0, none⟩) 1 1, tl a vs.length cap i]).run Try.prog (w.alloc (.cells #[.int .i64 y] 3)) = .ok (.slice A6 n6 c6) wb ∧
    (Builtin.append_ #[22, 22] 22 #[.slice a i i, .slice A6 n6 c6]).run Try.prog wb = .ok (.slice A9 n9 c9) wc ∧ Below w.heap.size w wb ∧ Below w.heap.size w wc ∧
    Fk Wp (wc.setCell ⟨F, 9, none⟩ (.slice A9 n9 c9)) F n mp kv (.slice A9 n9 c9) ks (vs.take i ++ y :: vs.drop i) := by
  obtain ⟨ii, hii, hz0, hsz, hbb⟩ := Mr.info_parts Mr.info3
  have hg0 : w.grownBy (w.alloc (.cells #[.int .i64 y] 3)) none := World.grownBy_alloc w _ none
  have hown1 : (w.alloc (.cells #[.int .i64 y] 3)).ownsRow w.heap.size 3 1 (.slice (some ⟨w.heap.size, 0, none⟩) 1 1) 1 [.int .i64 y] :=
    ⟨rfl, .inr ⟨w.heap.size, 1, #[.int .i64 y], rfl, Nat.le_refl _, heap_alloc_new w _, Nat.le_refl _, by unfold maxLen; omega, rfl, rfl⟩⟩
  have hrv := h.rv.kept hg0 (by cases vv.ownBlock <;> simp)
  have hln := ints_len vs
  -- the first append
  obtain ⟨a, cap, A6, n6, c6, wb, hvv, hcap, hr6, ho6, hg6, hacell⟩ : ∃ a cap A6 n6 c6 wb, vv = .slice a vs.length cap ∧ vs.length ≤ cap ∧
      (Builtin.append_ #[22, 22] 22 #[.slice (some ⟨w.heap.size, 0, none⟩) 1 1, tl a vs.length cap i]).run Try.prog (w.alloc (.cells #[.int .i64 y] 3)) = .ok (.slice A6 n6 c6) wb ∧ wb.ownsRow w.heap.size 3 1 (.slice A6 n6 c6) (1 + (vs.length - i)) ([.int .i64 y] ++ (ints vs).drop i) ∧ (w.alloc (.cells #[.int .i64 y] 3)).grownBy wb (some w.heap.size) ∧
      (a = none ∧ vs.length = 0 ∨ ∃ g, a = some ⟨g, 0, none⟩ ∧ g < w.heap.size ∧ ∀ (j : Nat) (u : Value), (ints vs)[j]? = some u → wb.cell? ⟨g, j, none⟩ = some u) := by
    rcases row_form h.rv with ⟨rfl, h0⟩ | ⟨g, cap, rfl, hc, hm⟩
    · have hr := run_append_owned_none (P := Try.prog) (w := w.alloc (.cells #[.int .i64 y] 3)) w.heap.size 22 22 3 ii 1 Try.underlying22 hii _ 1 _ hown1
      have e0 : (ints vs).drop i = [] := List.drop_eq_nil_of_le (by rw [hln]; omega)
      refine ⟨none, 0, some ⟨w.heap.size, 0, none⟩, 1, 1, w.alloc (.cells #[.int .i64 y] 3), by rw [h0], by omega, ?_, ?_, ⟨rfl, rfl, rfl, Nat.le_refl _, fun _ _ _ => rfl⟩, .inl ⟨rfl, h0⟩⟩
      · have e1 : tl none vs.length 0 i = .slice none 0 0 := by unfold tl; rw [h0]; simp
        rw [e1]; exact hr
      · rw [e0, h0, Nat.zero_sub, List.append_nil]; exact hown1
    · have hgl := (h.rv.lt g rfl).2
      have hcl : ∀ (W : World), W.heap[g]? = w.heap[g]? → ∀ (j : Nat) (u : Value), (ints vs)[j]? = some u → W.cell? ⟨g, j, none⟩ = some u := fun W hW j u hj => by
        have := row_cell h.rv j u hj
        unfold World.cell? at this ⊢
        rw [hW]; exact this
      obtain ⟨b, hb, hbc⟩ : ∃ b, tl (some ⟨g, 0, none⟩) vs.length cap i = .slice (some b) (vs.length - i) (cap - i) ∧ ∀ (j : Nat) (u : Value), ((ints vs).drop i)[j]? = some u → (w.alloc (.cells #[.int .i64 y] 3)).cell? (b.add j) = some u := by
        have hga : (w.alloc (.cells #[.int .i64 y] 3)).heap[g]? = w.heap[g]? := Below.heap_alloc w _ g hgl
        have e : ∀ q, ((⟨g, 0, none⟩ : Addr).add q) = ⟨g, q, none⟩ := fun q => by simp [Addr.add]; exact Eq.symm
        have e2 : ∀ p q, ((⟨g, p, none⟩ : Addr).add q) = ⟨g, p + q, none⟩ := fun p q => by simp [Addr.add]
        unfold tl
        by_cases hci : cap = i
        · refine ⟨⟨g, 0, none⟩, by rw [if_pos hci], fun j u hj => ?_⟩
          have : (ints vs).drop i = [] := List.drop_eq_nil_of_le (by rw [hln]; omega)
          rw [this] at hj; simp at hj
        · refine ⟨⟨g, i, none⟩, by rw [if_neg hci, Option.map_some, e], fun j u hj => ?_⟩
          rw [e2]
          rw [List.getElem?_drop] at hj
          exact hcl _ hga _ u hj
      obtain ⟨v6, wb, hr, ho, hg, _, hat⟩ := run_append_own_at (P := Try.prog) (w.alloc (.cells #[.int .i64 y] 3)) w.heap.size 22 22 3 ii _ 1 8 Try.underlying22 hii hz0 hsz hbb rfl (by decide) _ 1 _ hown1 b (vs.length - i) (cap - i) ((ints vs).drop i) (by rw [List.length_drop, hln]; omega) hbc (fun u hu => by
        have := List.mem_of_mem_drop hu
        unfold ints at this
        obtain ⟨z, _, rfl⟩ := List.mem_map.1 this
        rfl) (by unfold maxLen; omega) (by omega) (by simp)
      obtain ⟨A6, n6, c6, rfl⟩ := Pc.own_slice ho
      refine ⟨_, cap, A6, n6, c6, wb, rfl, hc, by rw [hb]; exact hr, ho, hg, .inr ⟨g, rfl, hgl, hcl wb ((hg.block g (by simp; omega) (by simp [Value.ownBlock]; omega)).trans (Below.heap_alloc w _ g hgl))⟩⟩
  have hbw : Below w.heap.size w wb := by
    have h1 : Below w.heap.size w (w.alloc (.cells #[.int .i64 y] 3)) := (Below.refl _ w).alloc (Nat.le_refl _) _
    exact h1.trans (below_grown hg6 (by simp) (fun k hk => by injection hk with hk; omega))
  -- the second append
  obtain ⟨v9, wc, hr9, ho9, hg9⟩ : ∃ v9 wc, (Builtin.append_ #[22, 22] 22 #[.slice a i i, .slice A6 n6 c6]).run Try.prog wb = .ok v9 wc ∧ wc.ownsRow wb.heap.size 3 1 v9 (i + (1 + (vs.length - i))) ((ints vs).take i ++ ([.int .i64 y] ++ (ints vs).drop i)) ∧ wb.grownBy wc none := by
    rcases row_form ho6 with ⟨_, h0⟩ | ⟨g6, cap6, hv6, hc6, hm6⟩
    · omega
    injection hv6 with e1 e2 e3
    subst e1
    subst e2
    subst e3
    have hnews : ∀ (j : Nat) (u : Value), ([Value.int .i64 y] ++ (ints vs).drop i)[j]? = some u → wb.cell? ((⟨g6, 0, none⟩ : Addr).add j) = some u := fun j u hj => by
      have e : ((⟨g6, 0, none⟩ : Addr).add j) = ⟨g6, j, none⟩ := by simp [Addr.add]; exact Eq.symm
      rw [e]
      exact row_cell ho6 j u hj
    have hl6 : ([Value.int .i64 y] ++ (ints vs).drop i).length = (1 + (vs.length - i)) * 1 := by simp [hln]; omega
    rcases hacell with ⟨rfl, h0⟩ | ⟨g, rfl, hgl, hcl⟩
    · obtain rfl : i = 0 := by omega
      have hnil : wb.ownsRow wb.heap.size 3 1 (.slice none 0 0) 0 [] := ⟨rfl, .inl ⟨rfl, rfl⟩⟩
      obtain ⟨v9, wc, hr, ho, hg, _⟩ := run_append_own (P := Try.prog) wb wb.heap.size 22 22 3 ii _ 1 8 Try.underlying22 hii hz0 hsz hbb rfl (by decide) _ 0 _ hnil ⟨g6, 0, none⟩ (1 + (vs.length - 0)) c6 _ hl6 hnews (fun u hu => by
        rcases List.mem_append.1 hu with hu | hu
        · simp at hu; subst hu; rfl
        · have := List.mem_of_mem_drop hu
          unfold ints at this
          obtain ⟨z, _, rfl⟩ := List.mem_map.1 this
          rfl) (by unfold maxLen; omega) (by omega) (Nat.le_refl _)
      exact ⟨v9, wc, hr, by simpa using ho, hg⟩
    · obtain ⟨v9, wc, hr, ho, hg⟩ := run_append_arg_grows (P := Try.prog) wb 22 22 3 ii _ 1 8 Try.underlying22 hii hz0 hsz hbb rfl (by decide) ⟨g, 0, none⟩ i i ((ints vs).take i) (by simp [hln]; omega) (fun j u hj => by
        have e : ((⟨g, 0, none⟩ : Addr).add j) = ⟨g, j, none⟩ := by simp [Addr.add]; exact Eq.symm
        rw [e]
        rw [List.getElem?_take] at hj
        split at hj
        · exact hcl j u hj
        · cases hj) ⟨g6, 0, none⟩ (1 + (vs.length - i)) c6 _ hl6 hnews (by omega) (by unfold maxLen; omega) (by omega)
      exact ⟨v9, wc, hr, ho, hg⟩
  obtain ⟨A9, n9, c9, rfl⟩ := Pc.own_slice ho9
  have hbc : Below w.heap.size w wc := hbw.trans (below_grown hg9 hbw.size (fun k hk => by cases hk))
  have hF : F < w.heap.size := (Array.getElem?_eq_some_iff.1 h.fb).1
  have hfc : wc.heap[F]? = some (.cells (fc n mp kv vv) 36 (0, 0)) := (hbc.block F hF).trans h.fb
  have hk := setF wc F 9 (.slice A9 n9 c9)
  have hKF : kv.ownBlock ≠ some F := fun e => by have := (h.rk.lt F e).1; have := h.fW; omega
  have hz := h.gr.size
  have hzb := hbw.size
  have h9F : (Value.slice A9 n9 c9).ownBlock ≠ some F := fun e => by have := (ho9.lt F e).1; omega
  refine ⟨a, cap, A6, n6, c6, wb, A9, n9, c9, wc, hvv, hcap, hr6, hr9, hbw, hbc, ⟨?_, (heap_setCell_same wc F 9 _ 36 _ hfc).trans rfl, ?_, ?_, fun k e1 e2 => ?_, h.fW⟩⟩
  · have h1 := h.gr.andThen (grown_of_below hbc none) (fun j hj => by cases hj)
    exact h1.andThen hk (fun j hj => .inr hj)
  · exact (h.rk.kept (grown_of_below hbc none) (by cases kv.ownBlock <;> simp)).kept hk (.inr hKF)
  · have e1 : ints (vs.take i ++ y :: vs.drop i) = (ints vs).take i ++ ([.int .i64 y] ++ (ints vs).drop i) := by
      unfold ints; rw [List.map_append, List.map_cons, List.map_take, List.map_drop]; rfl
    have e2 : (vs.take i ++ y :: vs.drop i).length = i + (1 + (vs.length - i)) := by simp; omega
    rw [e1, e2]
    have h2 := ho9.kept hk (.inr h9F)
    refine ⟨h2.1, ?_⟩
    rcases h2.2 with h3 | ⟨g, cap', cur, hv, hB, rest⟩
    · exact .inl h3
    · exact .inr ⟨g, cap', cur, hv, by omega, rest⟩
  · have h1 := (ho9.lt k e2).1
    have h2 := (h.rk.lt k e1).2
    omega
end Go.Proofs.Ytokdamfalhcnnaa.Fa
