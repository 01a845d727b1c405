/- An append whose run is known, as an arm of a walk; how long a run's list is. -/
import Derived.Test.YtjhmcpdnmfhodaaLcm
namespace Go.Proofs.Ytjhmcpdnmfhodaa.Lcw
open Go Go.Maps Go.ChangeMaps Go.MapKept Go.RowKit Go.Proofs.YtjhmcpdnmfhodaaW.PrintWords Ll Lra Lrc Lrw Lrx Lrz Lcn Lcp Lcm Mp

theorem put_size (w : World) (p : Addr) (u : Value) : (w.setCell p u).heap.size = w.heap.size := by simp [World.setCell]
theorem run_len (n : Int) : ∀ (l : List Op3) (s : St), (Lcp.run n s l).1.l.length ≤ s.l.length + l.length
  | [], s => Nat.le_refl _
  | x :: t, s => by
    have h := run_len n t (Lcp.step n s x).1
    have h2 : (Lcp.step n s x).1.l.length ≤ s.l.length + 1 := by
      have hb : ∀ k, (but s.l k).length ≤ s.l.length := fun k => List.length_filter_le _ _
      have hi : ∀ k v, (Lcp.ins n s.l k v).length ≤ s.l.length + 1 := fun k v => by unfold Lcp.ins; split <;> simp
      unfold Lcp.step
      repeat' split
      all_goals first | (simp only [List.length_cons]; have := hb x.k; omega) | (have := hi x.k x.v; omega) | (have := hb x.k; simp only; omega) | (simp only [List.length_dropLast]; omega) | simp
    show (Lcp.run n (Lcp.step n s x).1 t).1.l.length ≤ _
    rw [List.length_cons]
    omega
theorem run_len2 (n : Int) : ∀ (l : List Op3) (s : St), (Lcp.run n s l).2.length = l.length
  | [], _ => rfl
  | x :: t, s => by show (_ :: (Lcp.run n (Lcp.step n s x).1 t).2).length = _; rw [List.length_cons, run_len2 n t, List.length_cons]
/-- an append whose run is known, as an arm of a walk -/
theorem appL_ {P : Program} {ops : Array Oper} {Q : Exit → Act → World → Prop} {rest : List Oper} {oi : Oper} {a : Act} {w w' : World} {v v' x : Value} {s y : Operand} {t : TypeId} (N : Option Tmp) (hd : oi.dst = N) (hgd : oi.guard = none) (hop : oi.op = .call { callee := .builtin .append, args := #[s, y], argTypes := #[t, t] })
    (hs : a.eval s = v) (hx : a.eval y = x) (hr : (Builtin.append_ #[t, t] oi.type #[v, x]).run P w = .ok v' w') (h : wpList P ops Q rest (a.put N v') w') : wpList P ops Q (oi :: rest) a w := by
  subst hd
  refine wpList_plain hgd fun K hK => ?_
  unfold Oper.wp execOp
  simp only [hop, resolve, invoke, builtin, Sem.run_bind, Sem.run_pure, Result.andThen_ok, List.map_toArray, List.map_cons, List.map_nil, hs, hx, hr]
  exact hK _ _ h
end Go.Proofs.Ytjhmcpdnmfhodaa.Lcw
