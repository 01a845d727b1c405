/- The walk of tw's Alignment.Copy: what is handed back is a row of its own with the same texts. -/
import Derived.Test.YtcjnoadamfdgeaaWWords
import Derived.Test.YtcjnoadamfdgeaaProg
import Derived.Laws.CopyOwn
namespace Go.Proofs.Ytcjnoadamfdgeaa.Cp
open Go.RowKit Go.Proofs.YtcjnoadamfdgeaaW.PrintWords

section
variable {P : Program} {ops : Array Oper} {rest : List Oper} {o : Oper} {a : Act} {Q : Exit → Act → World → Prop} {α : Type} {enc : α → Value} {h1 : ∀ x, (enc x).oneCell' = true}

/-- 'copy(dst, src)' over the whole of a row of the call's own, src just as long. -/
theorem copy_whole (hgd : o.guard = none) (d s : Operand) (dT sT : TypeId) (ho : o.op = .call { callee := .builtin .copy, args := #[d, s], argTypes := #[dT, sT] }) (elem : TypeId)
    (hu : P.underlying dT = some (.slice elem)) (hsz : (P.info? elem).map (·.size) = some 1) {w0 w : World} {base : Nat} {ok : Nat → Prop} (v : Value) (ys xs : List α) (z : α) (A : Option Addr) (c : Nat)
    (hd : a.eval d = v) (hs : a.eval s = .slice A xs.length c) (hR : (Kd.scalar enc h1).R elem w base ok v ys) (hl : ys.length = xs.length) (hC : (Kd.scalar enc h1).C w A xs.length xs) (hb : Below base w0 w)
    (h : ∀ w', (Kd.scalar enc h1).R elem w' base ok v xs → Below base w0 w' → wpList P ops Q rest (a.put o.dst (goInt xs.length)) w') : wpList P ops Q (o :: rest) a w := by
  have hown := Kd.own_of_R hR
  have hok := hR.1
  have hrd := Kd.reads_of_C (d := z) hC
  rcases hown.2 with ⟨rfl, h0⟩ | ⟨g, cap, cur, rfl, hg, hh, hnc, hcm, hcs, htake⟩
  · have hx : xs = [] := List.eq_nil_of_length_eq_zero (by omega)
    subst hx
    refine wpList_copy_nothing hgd d s dT sT ho elem hu hsz none A 0 0 0 c hd hs rfl ?_
    exact h w (Kd.R_nil _ _ _ _ _) hb
  · refine wpList_copy_splice hgd d s dT sT ho elem hu hsz (some ⟨g, 0, none⟩) A ys.length cap xs.length c hd hs g 0 cur.toList elem (by simpa using hh) (encs enc xs) (by rw [hl]; simp [encs]) ?_ ?_ ?_ base w0 hb hg ?_
    · intro hp
      refine ⟨rfl, ?_⟩
      obtain ⟨ad, e, hc⟩ := hrd.2.2 (by simpa [encs] using hp)
      refine ⟨ad, e, fun j u hj => ?_⟩
      have hjl : j < xs.length := by have := (List.getElem?_eq_some_iff.1 hj).1; simpa [encs] using this
      rw [hc j hjl]
      simp only [encs, List.getElem?_map, List.getElem?_eq_getElem hjl, Option.map_some, Option.some.injEq] at hj
      rw [← hj, List.getD_eq_getElem?_getD, List.getElem?_eq_getElem hjl]; rfl
    · simp [encs]; omega
    · intro u hu'
      obtain ⟨x, _, rfl⟩ := List.mem_map.1 hu'
      exact h1 x
    · intro w' hh' hb'
      have hl' : (encs enc xs).length = xs.length := by simp [encs]
      rw [hl']
      refine h w' (Kd.R_of_own ⟨by simp [encs], .inr ⟨g, cap, _, by rw [hl], hg, hh'.out, by omega, hcm, ?_, ?_⟩⟩ hok) hb'
      · simp [splice, encs]
        have : cur.size = cap := by omega
        omega
      · simp [splice, encs]
end

theorem info56 : (Try.prog.info? 56).map (fun i => (i.zero, i.size, i.bytes)) = some (some (.string ⟨#[]⟩), 1, 16) := by kernel_rfl

set_option maxRecDepth 100000 in
set_option maxHeartbeats 400000 in
theorem copy_any (A0 : Option Addr) (c0 : Nat) (l0 : List ByteArray) (w : World) (hr0 : Kd.C Kd.string w A0 l0.length l0) (hl : l0.length ≤ 17592186044416) :
    Calls Try.prog 32 #[.slice A0 l0.length c0] w fun e w' => ∃ v0_ : Value, e = .returned (v0_) ∧ Kd.R Kd.string 56 w' w.heap.size (fun _ => True) v0_ l0 ∧ Below w.heap.size w w' := by
  go_enter Try.func32, Try.ntmps32
  go_wp2_with (first | ((with_reducible refine gate_dst (N := 6) rfl ?_); refine Kd.R_make Kd.string w.heap.size 56 rfl (N := 6) rfl 54 _ _ rfl (l0.length : Int) rfl rfl Try.underlying54 (.string ⟨#[]⟩) 16 info56 rfl (by decide) (by omega) (⟨#[]⟩ : ByteArray) (ok := fun _ => True) (okp := fun _ => True) rfl (fun _ hk => hk) trivial (by omega) (by simp; omega) (Below.refl _ _) (Nat.le_refl _) ?_; intro v1 w1 ho1 hb1 _ _) | ((with_reducible refine gate_dst (N := 9) rfl ?_); refine copy_whole rfl (.tmp 7) (.tmp 8) 54 54 rfl 56 Try.underlying54 (by kernel_rfl) v1 _ l0 (⟨#[]⟩ : ByteArray) A0 c0 rfl rfl ho1 (by simp) (Kd.C_below hr0 hb1) hb1 ?_; intro w2 ho2 hb2))
  go_ret
  exact ⟨v1, rfl, ho2, hb2⟩
end Go.Proofs.Ytcjnoadamfdgeaa.Cp
