/- Appends of one element; the calls that read, make, write a map. -/
import Derived.Test.YtokdamfalhcnnaaMq
import Derived.Laws.MakeOwn
import Derived.OwnWalk
import Derived.Lib.Builder
import Derived.Maps.AppendAt
namespace Go.Proofs.Ytokdamfalhcnnaa.Mr
open Go Go.Maps Go.ChangeMaps Go.MapKept Go.RowKit Go.Proofs.YtokdamfalhcnnaaW.PrintWords Go.Proofs.YtokdamfalhcnnaaW.PrintLast Go.Proofs.YtokdamfalhcnnaaW.PrintMore Mp Mq

theorem appL_ {P : Program} {ops : Array Oper} {Q : Exit → Act → World → Prop} {rest : List Oper} {oi : Oper} {a : Act} {w w' : World} {v v' x : Value} {s y : Operand} {t : TypeId} (N : Option Tmp) (hd : oi.dst = N) (hgd : oi.guard = none) (hop : oi.op = .call { callee := .builtin .append, args := #[s, y], argTypes := #[t, t] })
    (hs : a.eval s = v) (hx : a.eval y = x) (hr : (Builtin.append_ #[t, t] oi.type #[v, x]).run P w = .ok v' w') (h : wpList P ops Q rest (a.put N v') w') : wpList P ops Q (oi :: rest) a w := by
  subst hd
  refine wpList_plain hgd fun K hK => ?_
  unfold Oper.wp execOp
  simp only [hop, resolve, invoke, builtin, Sem.run_bind, Sem.run_pure, Result.andThen_ok, List.map_toArray, List.map_cons, List.map_nil, hs, hx, hr]
  exact hK _ _ h
theorem info3 : (Try.prog.info? 3).map (fun i => (i.zero, i.size, i.bytes)) = some (some (.int .i64 0), 1, 8) := by kernel_rfl
theorem info29 : (Try.prog.info? 29).map (fun i => (i.zero, i.size, i.bytes)) = some (some (.agg #[(.int .i64 0), (.int .i64 0)]), 2, 16) := by kernel_rfl
theorem info60 : (Try.prog.info? 60).map (fun i => (i.zero, i.size, i.bytes)) = some (some (.agg #[(.int .i64 0), (.int .i64 0)]), 2, 16) := by kernel_rfl
theorem u57 : Try.prog.underlying 57 = some (.slice 60) := by kernel_rfl
theorem info_parts {P : Program} {e : TypeId} {z : Value} {s m : Nat} (h : (P.info? e).map (fun i => (i.zero, i.size, i.bytes)) = some (some z, s, m)) : ∃ i, P.info? e = some i ∧ i.zero = some z ∧ i.size = s ∧ i.bytes = m := by
  cases hi : P.info? e with
  | none => rw [hi] at h; cases h
  | some i =>
    rw [hi] at h
    simp only [Option.map_some, Option.some.injEq, Prod.mk.injEq] at h
    exact ⟨i, rfl, h.1, h.2.1, h.2.2⟩
/-- an append of one element whose cells lie in a new block -/
theorem push {t e : TypeId} {z : Value} {s m : Nat} (ht : Try.prog.underlying t = some (.slice e)) (hinf : (Try.prog.info? e).map (fun i => (i.zero, i.size, i.bytes)) = some (some z, s, m)) (hz : z.cells.size = s) (hm : 0 < m ∧ m ≤ 64 ∧ 0 < s) (B : Nat) (W : World) (v : Value) (n : Nat) (xs : List Value) (hown : W.ownsRow B e s v n xs) (hB : B ≤ W.heap.size) (cs : List Value) (hc : cs.length = s) (h1 : ∀ u ∈ cs, u.oneCell' = true) (hn : n ≤ 1000000) :
    ∃ A2 n2 c2 w6, (Builtin.append_ #[t, t] t #[v, .slice (some ⟨W.heap.size, 0, none⟩) 1 1]).run Try.prog (W.alloc (.cells cs.toArray e)) = .ok (.slice A2 n2 c2) w6 ∧ w6.ownsRow B e s (.slice A2 n2 c2) (n + 1) (xs ++ cs) ∧ W.grownBy w6 v.ownBlock ∧ ((Value.slice A2 n2 c2).ownBlock = v.ownBlock ∨ ∃ g, (Value.slice A2 n2 c2).ownBlock = some g ∧ W.heap.size ≤ g) := by
  obtain ⟨i, hi, h0, hsz, hb⟩ := info_parts hinf
  have hB1 : B ≤ (W.alloc (.cells cs.toArray e)).heap.size := by simp; omega
  have hg0 : W.grownBy (W.alloc (.cells cs.toArray e)) none := World.grownBy_alloc W _ none
  have hown1 : (W.alloc (.cells cs.toArray e)).ownsRow B e s v n xs := hown.kept hg0 (by cases v.ownBlock <;> simp)
  have hnew : ∀ (j : Nat) (u : Value), cs[j]? = some u → (W.alloc (.cells cs.toArray e)).cell? ((⟨W.heap.size, 0, none⟩ : Addr).add j) = some u := fun j u hj => by
    have h := heap_alloc_new W (.cells cs.toArray e)
    have : ((⟨W.heap.size, 0, none⟩ : Addr).add j) = ⟨W.heap.size, j, none⟩ := by simp [Addr.add]; exact Eq.symm
    rw [this, Lib.cell_of_heap h]
    simpa using hj
  have hs : 0 < s := hm.2.2
  have hbs : (n + 1) * m ≤ 140737488355328 := by
    have : (n + 1) * m ≤ 1000001 * 64 := Nat.mul_le_mul (by omega) hm.2.1
    omega
  obtain ⟨v', w6, hr, ho, hg, _, hat⟩ := run_append_own_at (P := Try.prog) (W.alloc (.cells cs.toArray e)) B t t e i z s m ht hi h0 hsz hb hz hs v n xs hown1 ⟨W.heap.size, 0, none⟩ 1 1 cs (by rw [hc]; omega) hnew h1 (by unfold maxLen; omega) hbs hB1
  obtain ⟨A2, n2, c2, rfl⟩ : ∃ A2 n2 c2, v' = .slice A2 n2 c2 := by
    rcases ho.2 with ⟨h1, _⟩ | ⟨g2, c2, _, h1, _⟩
    · exact ⟨_, _, _, h1⟩
    · exact ⟨_, _, _, h1⟩
  refine ⟨A2, n2, c2, w6, hr, ho, hg0.but _ |>.andThen hg (fun j hj => .inr hj), ?_⟩
  · rcases hat with e1 | e1
    · exact .inl e1
    · exact .inr ⟨_, e1, by simp⟩
end Go.Proofs.Ytokdamfalhcnnaa.Mr
