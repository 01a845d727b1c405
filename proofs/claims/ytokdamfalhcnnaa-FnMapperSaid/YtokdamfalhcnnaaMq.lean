/- Maps of int to int, told as lists of pairs; a range over one. -/
import Derived.Test.YtokdamfalhcnnaaMp
import Derived.Test.YtokdamfalhcnnaaProg
import Derived.Test.YtokdamfalhcnnaaWLast
import Derived.Test.YtokdamfalhcnnaaWMore
import Derived.Maps.RangeWalk
import Derived.Deep.LoopGhost
import Derived.Laws.IdiomRangeMap
import Derived.WalkKit
namespace Go.Proofs.Ytokdamfalhcnnaa.Mq
open Go Go.Maps Go.ChangeMaps Go.MapKept Go.RowKit Mp

abbrev Pr := Int × Int
abbrev iv (x : Int) : Value := .int .i64 x
def look (ps : List Pr) : Lit → Option Value
  | .int .i64 k => (ps.find? fun e => decide (e.1 = k)).map fun e => .int .i64 e.2
  | _ => none
theorem look_int (ps : List Pr) (k : Int) : look ps (.int .i64 k) = (ps.find? fun e => decide (e.1 = k)).map fun e => .int .i64 e.2 := rfl
def keys (ps : List Pr) : List Int := ps.map Prod.fst
theorem find_mem {ps : List Pr} (hn : (keys ps).Nodup) : ∀ e ∈ ps, ps.find? (fun x => decide (x.1 = e.1)) = some e := by
  unfold keys at hn
  induction ps with
  | nil => intro e he; cases he
  | cons a t ih =>
    intro e he
    rw [List.map_cons, List.nodup_cons] at hn
    rcases List.mem_cons.1 he with rfl | he
    · rw [List.find?_cons, decide_eq_true rfl]
    · have : ¬ a.1 = e.1 := fun x => hn.1 (List.mem_map.2 ⟨e, he, x.symm⟩)
      rw [List.find?_cons, decide_eq_false this]
      exact ih hn.2 e he
theorem find_none {ps : List Pr} {k : Int} (h : ∀ e ∈ ps, e.1 ≠ k) : ps.find? (fun x => decide (x.1 = k)) = none :=
  List.find?_eq_none.2 (fun e he => by simp [h e he])
theorem find_perm {l m : List Pr} (hp : l.Perm m) (hn : (keys l).Nodup) (k : Int) : l.find? (fun x => decide (x.1 = k)) = m.find? (fun x => decide (x.1 = k)) := by
  have hm : (keys m).Nodup := (hp.map Prod.fst).nodup_iff.1 hn
  by_cases h : ∃ e ∈ l, e.1 = k
  · obtain ⟨e, he, rfl⟩ := h
    rw [find_mem hn e he, find_mem hm e (hp.mem_iff.1 he)]
  · rw [find_none (fun e he x => h ⟨e, he, x⟩), find_none (fun e he x => h ⟨e, hp.mem_iff.2 he, x⟩)]
theorem look_perm {l m : List Pr} (hp : l.Perm m) (hn : (keys l).Nodup) : look l = look m := by
  funext x
  unfold look
  split
  · rw [find_perm hp hn]
  · rfl
/-- without a key -/
def del (ps : List Pr) (k : Int) : List Pr := ps.filter fun e => decide (e.1 ≠ k)
/-- with a pair -/
def put (ps : List Pr) (p : Pr) : List Pr := p :: del ps p.1
theorem mem_del {ps : List Pr} {k : Int} {e : Pr} : e ∈ del ps k ↔ e ∈ ps ∧ e.1 ≠ k := by unfold del; simp
theorem nodup_del {ps : List Pr} (h : (keys ps).Nodup) (k : Int) : (keys (del ps k)).Nodup := by
  unfold keys del at *
  exact h.sublist (List.filter_sublist.map _)
theorem nodup_put {ps : List Pr} (h : (keys ps).Nodup) (p : Pr) : (keys (put ps p)).Nodup := by
  unfold put
  show ((p.1) :: keys (del ps p.1)).Nodup
  rw [List.nodup_cons]
  refine ⟨fun hm => ?_, nodup_del h _⟩
  obtain ⟨e, he, h1⟩ := List.mem_map.1 hm
  exact (mem_del.1 he).2 h1
theorem find_del_ne {ps : List Pr} {k j : Int} (h : j ≠ k) : (del ps k).find? (fun e => decide (e.1 = j)) = ps.find? (fun e => decide (e.1 = j)) := by
  unfold del
  induction ps with
  | nil => rfl
  | cons a t ih =>
    by_cases h1 : a.1 = k
    · have h2 : ¬ a.1 = j := fun e => h (e.symm.trans h1)
      rw [List.filter_cons_of_neg (by simp [h1]), ih, List.find?_cons, decide_eq_false h2]
    · rw [List.filter_cons_of_pos (by simp [h1]), List.find?_cons, List.find?_cons, ih]
theorem find_del_same (ps : List Pr) (k : Int) : (del ps k).find? (fun e => decide (e.1 = k)) = none := find_none (fun e he => (mem_del.1 he).2)
theorem look_del (ps : List Pr) (k : Int) : upd (look ps) (.int .i64 k) none = look (del ps k) := by
  funext x
  by_cases h : x = .int .i64 k
  · subst h
    rw [upd_same, look_int, find_del_same]; rfl
  · rw [upd_other _ _ h]
    unfold look
    split
    · rename_i j
      rw [find_del_ne (fun e => h (by rw [e]))]
    · rfl
theorem look_put (ps : List Pr) (p : Pr) : upd (look ps) (.int .i64 p.1) (some (.int .i64 p.2)) = look (put ps p) := by
  funext x
  by_cases h : x = .int .i64 p.1
  · subst h
    rw [upd_same, look_int]
    unfold put
    rw [List.find?_cons, decide_eq_true rfl]
    rfl
  · rw [upd_other _ _ h]
    unfold look
    split
    · rename_i j
      have hj : ¬ p.1 = j := fun e => h (by rw [e])
      unfold put
      rw [List.find?_cons, decide_eq_false hj, find_del_ne (fun e => hj e.symm)]
    · rfl
theorem len_del {ps : List Pr} (hn : (keys ps).Nodup) (k : Int) : (del ps k).length = if (look ps (.int .i64 k)).isSome then ps.length - 1 else ps.length := by
  by_cases h : ∃ e ∈ ps, e.1 = k
  · obtain ⟨e, he, rfl⟩ := h
    rw [look_int, find_mem hn e he]
    obtain ⟨a, c, rfl⟩ := List.append_of_mem he
    have h1 : ∀ x ∈ a ++ c, x.1 ≠ e.1 := by
      have h2 : (keys (e :: (a ++ c))).Nodup := ((List.perm_middle (a := e) (l₁ := a) (l₂ := c)).map Prod.fst).nodup_iff.1 hn
      have h3 := (List.nodup_cons.1 h2).1
      exact fun x hx hxe => h3 (List.mem_map.2 ⟨x, hx, hxe⟩)
    have ea : del a e.1 = a := List.filter_eq_self.2 (fun x hx => by simp [h1 x (List.mem_append.2 (.inl hx))])
    have ec : del c e.1 = c := List.filter_eq_self.2 (fun x hx => by simp [h1 x (List.mem_append.2 (.inr hx))])
    have e1 : del (a ++ e :: c) e.1 = a ++ c := by
      show List.filter _ _ = _
      rw [List.filter_append, List.filter_cons_of_neg (by simp)]
      exact congr (congrArg _ ea) ec
    rw [e1]
    simp
  · have h1 : ∀ e ∈ ps, e.1 ≠ k := fun e he x => h ⟨e, he, x⟩
    rw [look_int, find_none h1]
    have : del ps k = ps := List.filter_eq_self.2 (fun x hx => by simp [h1 x hx])
    rw [this]; rfl
theorem len_put {ps : List Pr} (hn : (keys ps).Nodup) (p : Pr) : (put ps p).length = if (look ps (.int .i64 p.1)).isSome then ps.length else ps.length + 1 := by
  have h := len_del hn p.1
  unfold put
  rw [List.length_cons, h]
  by_cases hs : (look ps (.int .i64 p.1)).isSome = true
  · rw [if_pos hs, if_pos hs]
    have : ps ≠ [] := fun e => by subst e; cases hs
    have := List.length_pos_iff.2 this
    omega
  · rw [if_neg hs, if_neg hs]

def In64 (k : Int) : Prop := -9223372036854775808 ≤ k ∧ k ≤ 9223372036854775807
theorem kEy {k : Int} (h : In64 k) : keyOf Try.prog 3 (.int .i64 k) = some (.int .i64 k) := Maps.keyOf_int_mk Try.underlying3 (WalkArith.wf_i64 (n := k) (by unfold In64 at h; omega))
theorem K3 : Keyed Try.prog 3 := Maps.int_keyed Try.underlying3
theorem u47 : Try.prog.underlying 47 = some (.map 3 3) := by kernel_rfl
theorem z3 (w : World) : (zeroValue 3).run Try.prog w = .ok (.int .i64 0) w := by kernel_rfl

/-- block b is a map of just these pairs -/
structure Mq (b : Nat) (w : World) (ps : List Pr) : Prop where
  mp : MapIs Try.prog 3 b ps.length (look ps) w
  nk : (keys ps).Nodup
  wk : ∀ e ∈ ps, In64 e.1 ∧ In64 e.2
variable {b r : Nat} {w w' : World} {ps qs : List Pr}
theorem Mq.perm (h : Mq b w ps) (hp : ps.Perm qs) : Mq b w qs := ⟨by rw [← hp.length_eq, ← look_perm hp h.nk]; exact h.mp, (hp.map Prod.fst).nodup_iff.1 h.nk, fun e he => h.wk e (hp.mem_iff.2 he)⟩
theorem Mq.lt (h : Mq b w ps) : b < w.heap.size := h.mp.lt
theorem Mq.of_heap (h : Mq b w ps) (hb : w'.heap[b]? = w.heap[b]?) : Mq b w' ps := ⟨h.mp.of_heap hb, h.nk, h.wk⟩
theorem Mq.kept {row : Option Nat} (h : Mq b w ps) (hg : w.grownBy w' row) (hne : some b ≠ row) : Mq b w' ps := ⟨h.mp.kept hg hne, h.nk, h.wk⟩
theorem look_nil : look [] = fun _ => none := by
  funext x
  unfold look
  split <;> rfl
theorem made_of {cl : Nat} (h : w.heap[b]? = some (.map #[] cl)) : Mq b w [] := ⟨by rw [look_nil]; exact Mp.made_of h, List.nodup_nil, fun _ h => by cases h⟩
theorem Mq.is_map (h : Mq b w ps) : ∃ es cl, w.heap[b]? = some (.map es cl) := by
  obtain ⟨D, ⟨es, cl, h0, _⟩, _⟩ := h.mp
  exact ⟨es, cl, h0⟩
theorem Mq.ne_cells (h : Mq b w ps) {k : Nat} {c : Array Value} {t : TypeId} {f : Nat × Nat} (hk : w.heap[k]? = some (.cells c t f)) : k ≠ b := by
  rintro rfl
  obtain ⟨es, cl, h0⟩ := h.is_map
  rw [hk] at h0; cases h0
theorem Mq.set (h : Mq b w ps) (hl : ps.length < maxLen) (k v : Int) (hk : In64 k) (hv : In64 v) :
    ∃ w', (Instr.mapUpdate 47 (.map (some b)) (.int .i64 k) (.int .i64 v)).run Try.prog w = .ok () w' ∧ Mq b w' (put ps (k, v)) ∧ w.grownBy w' (some b) ∧ w'.heap.size = w.heap.size := by
  obtain ⟨w', hr, hm, ht⟩ := h.mp.store K3 u47 hl (.int .i64 v) (kEy hk) trivial
  refine ⟨w', hr, ⟨?_, nodup_put h.nk _, fun e he => ?_⟩, ht.grown, ?_⟩
  · rw [len_put h.nk, ← look_put]; exact hm
  · rcases List.mem_cons.1 he with rfl | he
    · exact ⟨hk, hv⟩
    · exact h.wk e (mem_del.1 he).1
  · obtain ⟨_, _, _, _, _, rfl⟩ := ht
    simp [setBlock]
theorem Mq.drop (h : Mq b w ps) (k : Int) (hk : In64 k) (ty : TypeId) :
    ∃ w', (Builtin.delete_ #[47, 3] ty #[.map (some b), .int .i64 k]).run Try.prog w = .ok undef w' ∧ Mq b w' (del ps k) ∧ w.grownBy w' (some b) ∧ w'.heap.size = w.heap.size := by
  obtain ⟨w', hr, hm, ht⟩ := h.mp.drop K3 u47 (kEy hk) ty
  refine ⟨w', hr, ⟨?_, nodup_del h.nk _, fun e he => h.wk e (mem_del.1 he).1⟩, ht.grown, ?_⟩
  · rw [len_del h.nk, ← look_del]; exact hm
  · obtain ⟨_, _, _, _, _, rfl⟩ := ht
    simp [setBlock]
/-- what stands at a key, or 0 -/
def at_ (ps : List Pr) (k : Int) : Int := ((ps.find? fun e => decide (e.1 = k)).map Prod.snd).getD 0
def has_ (ps : List Pr) (k : Int) : Bool := (ps.find? fun e => decide (e.1 = k)).isSome
theorem look_getD (ps : List Pr) (k : Int) : (look ps (.int .i64 k)).getD (.int .i64 0) = .int .i64 (at_ ps k) := by
  rw [look_int]; unfold at_
  cases ps.find? fun e => decide (e.1 = k) <;> rfl
theorem Mq.get (h : Mq b w ps) (k : Int) (hk : In64 k) : (Instr.lookup 47 (.map (some b)) (.int .i64 k) false).run Try.prog w = .ok (.int .i64 (at_ ps k)) w := by
  rw [h.mp.look K3 u47 (z3 w) (kEy hk), look_getD]
theorem Mq.get_ok (h : Mq b w ps) (k : Int) (hk : In64 k) : (Instr.lookup 47 (.map (some b)) (.int .i64 k) true).run Try.prog w = .ok (.tuple #[.int .i64 (at_ ps k), .bool (has_ ps k)]) w := by
  rw [h.mp.look_ok K3 u47 (z3 w) (kEy hk), look_getD]
  have : (look ps (.int .i64 k)).isSome = has_ ps k := by rw [look_int]; unfold has_; rw [Option.isSome_map]
  rw [this]
theorem Mq.len (h : Mq b w ps) (ty : TypeId) : (Builtin.len_ #[47] ty #[.map (some b)]).run Try.prog w = .ok (.int .i64 ps.length) w := h.mp.len u47 ty

/-- a range over a map under way: what the map holds now, what is still to come -/
structure Rg (b r : Nat) (w : World) (cur rem : List Pr) : Prop where
  rg : ∃ (n : Nat) (D : DataW Value) (left : Lit → Bool) (cnt : Nat), w.ranges Try.prog 3 tokR b r n D left cnt ∧ Maps.size D = cur.length ∧ Tidy D ∧ (∀ kl : Lit, Maps.has D kl = (look cur kl).isSome ∧ ∀ z : Value, D.atKey kl (.held z) = .held ((look cur kl).getD z)) ∧
    (∀ kl, left kl = true → ∃ e ∈ rem, kl = .int .i64 e.1) ∧ ∀ e ∈ rem, left (.int .i64 e.1) = true
  nk : (keys cur).Nodup
  wk : ∀ e ∈ cur, In64 e.1 ∧ In64 e.2
  sub : ∀ e ∈ rem, e ∈ cur
  nr : (keys rem).Nodup
theorem Rg.mq {cur rem : List Pr} (h : Rg b r w cur rem) : Mq b w cur := by
  obtain ⟨n, D, left, cnt, h0, hs, hT, hd, _⟩ := h.rg
  exact ⟨⟨D, hs ▸ Mp.tight h0.owns, hs, hT, hd⟩, h.nk, h.wk⟩
theorem rangesHeap {P : Program} {k : TypeId} {R : Value → Option (DataW Value × List MemPlace)} {w w' : World} {b r n : Nat} {D : DataW Value} {left : Lit → Bool} {cnt : Nat} (h : w.ranges P k R b r n D left cnt) (hb : w'.heap[b]? = w.heap[b]?) (hr : w'.heap[r]? = w.heap[r]?) : w'.ranges P k R b r n D left cnt := by
  obtain ⟨es, clock, since, seen, c0, hb0, F, hs, hD, hr0, rest⟩ := h
  exact ⟨es, clock, since, seen, c0, hb.trans hb0, F, hs, hD, hr.trans hr0, rest⟩
theorem Rg.of_heap {cur rem : List Pr} (h : Rg b r w cur rem) (hb : w'.heap[b]? = w.heap[b]?) (hr : w'.heap[r]? = w.heap[r]?) : Rg b r w' cur rem := by
  obtain ⟨n, D, left, cnt, h0, h1⟩ := h.rg
  exact ⟨⟨n, D, left, cnt, rangesHeap h0 hb hr, h1⟩, h.nk, h.wk, h.sub, h.nr⟩
theorem Rg.lt {cur rem : List Pr} (h : Rg b r w cur rem) : r < w.heap.size ∧ b < w.heap.size ∧ r ≠ b := by
  obtain ⟨n, D, left, cnt, h0, _⟩ := h.rg
  exact ⟨h0.lt, h0.owns.lt, h0.ne⟩
theorem Rg.iter {cur rem : List Pr} (h : Rg b r w cur rem) : ∃ x y z u, w.heap[r]? = some (.mapIter x y z u) := by
  obtain ⟨n, D, left, cnt, ⟨es, clock, since, seen, c0, hb0, F, hs, hD, hr0, rest⟩, _⟩ := h.rg
  exact ⟨_, _, _, _, hr0⟩
theorem sameKey_int (a b : Int) : (Lit.int .i64 a).sameKey (.int .i64 b) = (a == b) := by
  simp only [Lit.sameKey]
  by_cases h : a = b <;> simp [h]
theorem invK3 (key : Value) (kl : Lit) (h : keyOf Try.prog 3 key = some kl) : ∃ x, key = Value.int .i64 x := by
  obtain ⟨x, rfl, _⟩ := Maps.keyOf_int_inv Try.underlying3 h
  exact ⟨x, rfl⟩
theorem left_step {rem r1 r2 : List Pr} {e : Pr} {left : Lit → Bool} (hr : rem = r1 ++ e :: r2) (nr : (keys rem).Nodup) (lf : ∀ kl, left kl = true → ∃ a ∈ rem, kl = .int .i64 a.1) (rl : ∀ a ∈ rem, left (.int .i64 a.1) = true) :
    (∀ kl, (left kl && !kl.sameKey (.int .i64 e.1)) = true → ∃ a ∈ r1 ++ r2, kl = .int .i64 a.1) ∧ (∀ a ∈ r1 ++ r2, (left (.int .i64 a.1) && !(Lit.int .i64 a.1).sameKey (.int .i64 e.1)) = true) ∧ (keys (r1 ++ r2)).Nodup ∧ ∀ a ∈ r1 ++ r2, a.1 ≠ e.1 := by
  subst hr
  have hp : (r1 ++ e :: r2).Perm (e :: (r1 ++ r2)) := List.perm_middle
  have hnd := (hp.map Prod.fst).nodup_iff.1 nr
  rw [List.map_cons, List.nodup_cons] at hnd
  have hne : ∀ a ∈ r1 ++ r2, a.1 ≠ e.1 := fun a ha e2 => hnd.1 (List.mem_map.2 ⟨a, ha, e2⟩)
  refine ⟨fun kl hkl => ?_, fun a ha => ?_, hnd.2, hne⟩
  · rw [Bool.and_eq_true] at hkl
    obtain ⟨a, ha, rfl⟩ := lf kl hkl.1
    rcases List.mem_cons.1 (hp.mem_iff.1 ha) with rfl | ha
    · rw [sameKey_int] at hkl; simp at hkl
    · exact ⟨a, ha, rfl⟩
  · rw [rl a (hp.mem_iff.2 (List.mem_cons.2 (.inr ha))), sameKey_int]
    simp [hne a ha]
section
variable {ops : Array Oper} {rest : List Oper} {o : Oper} {a : Act} {Q : Exit → Act → World → Prop} {cur rem : List Pr}
theorem range_ (w : World) (hg : o.guard = none) (m : Operand) (hop : o.op = Op.range 47 m) (hm : a.eval m = .map (some b)) (h : Mq b w ps)
    (hK : ∀ w', Rg b w.heap.size w' ps ps → w.grownBy w' none → w'.heap.size = w.heap.size + 1 → wpList Try.prog ops Q rest (a.put o.dst (.pointer (some ⟨w.heap.size, 0, none⟩))) w') : wpList Try.prog ops Q (o :: rest) a w := by
  obtain ⟨D, hown, hDs, hT, hD⟩ := h.mp
  refine wpList_range_own w hg m 47 hop 3 3 K3 u47 tokR b _ D hm hown (fun w' h1 h2 h3 => hK w' ⟨⟨_, D, _, _, h1, hDs, hT, hD, fun kl hkl => ?_, fun e he => ?_⟩, h.nk, h.wk, fun e he => he, h.nk⟩ h2 h3)
  · rw [(hD kl).1] at hkl
    unfold look at hkl
    split at hkl
    · rename_i k
      rw [Option.isSome_map] at hkl
      obtain ⟨e, he⟩ := Option.isSome_iff_exists.1 hkl
      have h1 := List.find?_some he
      exact ⟨e, List.mem_of_find?_eq_some he, by simp at h1; rw [h1]⟩
    · cases hkl
  · rw [(hD _).1, look_int, find_mem h.nk e he]; rfl
theorem next_ (w : World) (hg : o.guard = none) (it : Operand) (hop : o.op = Op.next it false) (hit : a.eval it = .pointer (some ⟨r, 0, none⟩)) (h : Rg b r w cur rem)
    (hDone : rem = [] → wpList Try.prog ops Q rest (a.put o.dst (.tuple #[.bool false])) w)
    (hMore : ∀ (x y : Int) (r1 r2 : List Pr) (w' : World), rem = r1 ++ (x, y) :: r2 → Rg b r w' cur (r1 ++ r2) → w.grownBy w' (some r) → w'.heap.size = w.heap.size → (Instr.entry (.pointer (some ⟨r, 0, none⟩))).run Try.prog w' = .ok (.tuple #[.int .i64 x, .int .i64 y]) w' → wpList Try.prog ops Q rest (a.put o.dst (.tuple #[.bool true, .int .i64 x, .int .i64 y])) w') : wpList Try.prog ops Q (o :: rest) a w := by
  obtain ⟨n, D, left, cnt, h0, hs, hT, hd, lf, rl⟩ := h.rg
  refine wpList_next_ranges w hg it hop 3 K3 tokR (Value.int .i64) (fun v => v) invK3 (fun v _ _ => ⟨v, rfl⟩) b r n D left cnt hit h0 (fun _ hl => hDone ?_) ?_
  · cases rem with
    | nil => rfl
    | cons e t => have := rl e (by simp); rw [hl] at this; cases this
  · intro x c kl y w1 cnt1 hkey hlk hv hat hrg1 hlt hg1 hs1 hen
    obtain ⟨e, he, rfl⟩ := lf kl hlk
    obtain ⟨x', hx1, hx2, _⟩ := Maps.keyOf_int_inv Try.underlying3 hkey
    obtain rfl : x = e.1 := by cases hx1; cases hx2; rfl
    obtain rfl : c = .int .i64 e.2 := by
      have h1 : y.1 = .held c := by rw [tokR_inv hv]
      have h2 := (hd (.int .i64 e.1)).2 (.int .i64 0)
      rw [hat, look_int, find_mem h.nk e (h.sub e he)] at h2
      rw [h1] at h2
      simpa using h2
    obtain ⟨r1, r2, hr⟩ := List.append_of_mem he
    obtain ⟨s1, s2, s3, _⟩ := left_step hr h.nr lf rl
    exact hMore e.1 e.2 r1 r2 w1 hr ⟨⟨n, D, _, cnt1, hrg1, hs, hT, hd, s1, s2⟩, h.nk, h.wk, fun x hx => h.sub x (by
      rw [hr]
      rcases List.mem_append.1 hx with hx | hx
      · exact List.mem_append.2 (.inl hx)
      · exact List.mem_append.2 (.inr (List.mem_cons.2 (.inr hx)))), s3⟩ hg1 hs1 hen
theorem delete_ (w : World) (hg : o.guard = none) (m x : Operand) (hop : o.op = Op.call { callee := Callee.builtin Builtin.delete, args := #[m, x], argTypes := #[47, 3] }) (hm : a.eval m = .map (some b)) (k : Int) (hx : a.eval x = .int .i64 k) (hk : In64 k) (h : Rg b r w cur rem) (hkr : ∀ e ∈ rem, e.1 ≠ k)
    (hK : ∀ w', Rg b r w' (del cur k) rem → w.grownBy w' (some b) → w'.heap.size = w.heap.size → wpList Try.prog ops Q rest (a.put o.dst (.tuple #[])) w') : wpList Try.prog ops Q (o :: rest) a w := by
  obtain ⟨n, D, left, cnt, h0, hs, hT, hd, lf, rl⟩ := h.rg
  refine wpList_delete_ranges w hg m x 47 3 hop 3 K3 u47 tokR b r n D left cnt hm h0 _ _ hx (kEy hk) (fun w' cnt' h1 _ h2 => hK w' ⟨⟨n, _, _, cnt', h1, ?_, hT.del _, fun kl => ?_, fun kl hkl => ?_, fun e he => ?_⟩, nodup_del h.nk k, fun e he => h.wk e (mem_del.1 he).1, fun e he => mem_del.2 ⟨h.sub e he, hkr e he⟩, h.nr⟩ h2.grown ?_)
  · have h3 := size_del (k := .int .i64 k) hT
    have h4 : (look cur (.int .i64 k)).isSome = true → 0 < cur.length := fun hh => by
      have : cur ≠ [] := fun e => by subst e; cases hh
      exact List.length_pos_iff.2 this
    rw [hs, (hd _).1] at h3
    rw [len_del h.nk]
    cases hg : (look cur (.int .i64 k)).isSome <;> simp [hg] at h3 h4 ⊢ <;> omega
  · rw [← look_del]
    by_cases hx : kl = .int .i64 k
    · subst hx
      simp [upd_same, has_del_same, atKey_del_same]
    · rw [upd_other _ _ hx]
      rw [has_del_other hx]
      exact ⟨(hd kl).1, fun z => by rw [atKey_del_other hx]; exact (hd kl).2 z⟩
  · rw [Bool.and_eq_true] at hkl
    exact lf kl hkl.1
  · rw [rl e he, sameKey_int]
    simp [hkr e he]
  · obtain ⟨_, _, _, _, _, rfl⟩ := h2
    simp [setBlock]
end
end Go.Proofs.Ytokdamfalhcnnaa.Mq
