/- The cache in memory: its list and its map; what calls leave as it was. -/
import Derived.Test.YtjhmcpdnmfhodaaLra
import Derived.Test.YtjhmcpdnmfhodaaMp
namespace Go.Proofs.Ytjhmcpdnmfhodaa.Lrc
open Go Go.RowKit Ll Lra Mp

def look (es : List En) : Lit → Option Value
  | .int .i64 k => (es.find? fun e => decide (e.k = k)).map fun e => ptr e.b
  | _ => none
theorem look_int (es : List En) (k : Int) : look es (.int .i64 k) = (es.find? fun e => decide (e.k = k)).map fun e => ptr e.b := rfl
theorem find_mem {es : List En} (hn : (es.map En.k).Nodup) : ∀ e ∈ es, es.find? (fun x => decide (x.k = e.k)) = some e := by
  induction es with
  | nil => intro e he; cases he
  | cons a t ih =>
    intro e he
    rw [List.map_cons, List.nodup_cons] at hn
    rcases List.mem_cons.1 he with rfl | he
    · rw [List.find?_cons, decide_eq_true rfl]
    · have : ¬ a.k = e.k := fun x => hn.1 (List.mem_map.2 ⟨e, he, x.symm⟩)
      rw [List.find?_cons, decide_eq_false this]
      exact ih hn.2 e he
theorem find_none {es : List En} {k : Int} (h : ∀ e ∈ es, e.k ≠ k) : es.find? (fun x => decide (x.k = k)) = none :=
  List.find?_eq_none.2 (fun e he => by simp [h e he])
theorem find_split {es : List En} {k : Int} {e : En} (h : es.find? (fun x => decide (x.k = k)) = some e) : e.k = k ∧ ∃ xs ys, es = xs ++ e :: ys := by
  have h1 := List.find?_some h
  obtain ⟨xs, ys, hs⟩ := List.append_of_mem (List.mem_of_find?_eq_some h)
  exact ⟨by simpa using h1, xs, ys, hs⟩
theorem find_perm {l m : List En} (hp : l.Perm m) (hn : (l.map En.k).Nodup) (k : Int) : l.find? (fun x => decide (x.k = k)) = m.find? (fun x => decide (x.k = k)) := by
  have hm : (m.map En.k).Nodup := (hp.map En.k).nodup_iff.1 hn
  by_cases h : ∃ e ∈ l, e.k = k
  · obtain ⟨e, he, rfl⟩ := h
    rw [find_mem hn e he, find_mem hm e (hp.mem_iff.1 he)]
  · rw [find_none (fun e he x => h ⟨e, he, x⟩), find_none (fun e he x => h ⟨e, hp.mem_iff.2 he, x⟩)]
theorem look_perm {l m : List En} (hp : l.Perm m) (hn : (l.map En.k).Nodup) : look l = look m := by
  funext x
  unfold look
  split
  · rw [find_perm hp hn]
  · rfl
theorem front_perm (e : En) (xs ys : List En) : (xs ++ e :: ys).Perm (e :: (xs ++ ys)) := List.perm_middle
theorem look_put (es : List En) (e : En) : upd (look es) (.int .i64 e.k) (some (ptr e.b)) = look (e :: es) := by
  funext x
  by_cases h : x = .int .i64 e.k
  · subst h
    rw [upd_same, look_int]
    rw [List.find?_cons, decide_eq_true rfl]
    rfl
  · rw [upd_other _ _ h]
    unfold look
    split
    · rename_i k
      have : ¬ e.k = k := fun e2 => h (by rw [e2])
      rw [List.find?_cons, decide_eq_false this]
    · rfl
theorem look_drop {xs ys : List En} {e : En} (hn : ((xs ++ e :: ys).map En.k).Nodup) : upd (look (xs ++ e :: ys)) (.int .i64 e.k) none = look (xs ++ ys) := by
  have hp := front_perm e xs ys
  have hn2 := (hp.map En.k).nodup_iff.1 hn
  rw [List.map_cons, List.nodup_cons] at hn2
  rw [look_perm hp hn]
  funext x
  by_cases h : x = .int .i64 e.k
  · subst h
    rw [upd_same, look_int]
    rw [find_none (fun a ha e2 => hn2.1 (List.mem_map.2 ⟨a, ha, e2⟩))]
    rfl
  · rw [upd_other _ _ h]
    unfold look
    split
    · rename_i k
      have : ¬ e.k = k := fun e2 => h (by rw [e2])
      rw [List.find?_cons, decide_eq_false this]
    · rfl

def In64 (k : Int) : Prop := -9223372036854775808 ≤ k ∧ k ≤ 9223372036854775807
structure Ca (B : Nat) (w : World) (L M : Nat) (ev : Value) (sz hh mm : Int) (es : List En) : Prop where
  ls : Ls w L sz (.map (some M)) ev hh mm es
  mp : MapIs Try.prog 3 M es.length (look es) w
  nk : (es.map En.k).Nodup
  wk : ∀ e ∈ es, In64 e.k
  bL : B ≤ L
  bM : B ≤ M
  bs : ∀ b ∈ blocks es, B ≤ b

/-- what is neither a cache nor an entry nor a map -/
def Plain (o : Obj) : Prop := (∀ c f, o ≠ .cells c 64 f) ∧ (∀ c f, o ≠ .cells c 67 f) ∧ ∀ es cl, o ≠ .map es cl
/-- what a call of the cache leaves as it was -/
structure Fr (B : Nat) (w w' : World) : Prop where
  os : w'.os = w.os
  tape : w'.tape = w.tape
  output : w'.output = w.output
  size : w.heap.size ≤ w'.heap.size
  old : ∀ k, k < B → w'.heap[k]? = w.heap[k]?
  plain : ∀ (k : Nat) (o : Obj), w.heap[k]? = some o → Plain o → w'.heap[k]? = some o
theorem Fr.refl (B : Nat) (w : World) : Fr B w w := ⟨rfl, rfl, rfl, Nat.le_refl _, fun _ _ => rfl, fun _ _ h _ => h⟩
theorem Fr.trans {B : Nat} {a b c : World} (h : Fr B a b) (k : Fr B b c) : Fr B a c :=
  ⟨k.os.trans h.os, k.tape.trans h.tape, k.output.trans h.output, Nat.le_trans h.size k.size, fun x hx => (k.old x hx).trans (h.old x hx), fun x o hx hp => k.plain x o (h.plain x o hx hp) hp⟩
theorem Fr.drew {B : Nat} {a b : World} (h : Fr B a b) : Fr B a b.drew := ⟨h.os, h.tape, h.output, h.size, h.old, h.plain⟩
theorem Fr.of_drew {B : Nat} {a b : World} (h : Fr B a.drew b) : Fr B a b := ⟨h.os, h.tape, h.output, h.size, h.old, h.plain⟩
theorem Fr.alloc {B : Nat} {a b : World} (h : Fr B a b) (o : Obj) (hB : B ≤ a.heap.size) : Fr B a (b.alloc o) :=
  ⟨h.os, h.tape, h.output, Nat.le_trans h.size (by simp), fun k hk => (Below.heap_alloc b o k (by have := h.size; omega)).trans (h.old k hk), fun k x hk hp => by
    have h1 := h.plain k x hk hp
    exact (Below.heap_alloc b o k (Array.getElem?_eq_some_iff.1 h1).1).trans h1⟩
variable {B : Nat} {w W : World} {L M : Nat} {ev : Value} {sz hh mm : Int} {es : List En}
theorem Ca.drew (h : Ca B w L M ev sz hh mm es) : Ca B w.drew L M ev sz hh mm es := ⟨h.ls.drew, h.mp.of_heap rfl, h.nk, h.wk, h.bL, h.bM, h.bs⟩
theorem Ca.apart (h : Ca B w L M ev sz hh mm es) : M ∉ L :: blocks es := fun hm => by
  obtain ⟨D, ⟨a, c, hM, _⟩, _⟩ := h.mp
  rcases List.mem_cons.1 hm with rfl | hm
  · rw [h.ls.own] at hM; cases hM
  · obtain ⟨e, he, hb⟩ := List.mem_map.1 hm
    obtain ⟨q, z, hq⟩ := h.ls.seg.at_ e he
    rw [hb, hM] at hq; cases hq
theorem Ca.not_plain (h : Ca B w L M ev sz hh mm es) : ∀ k, k ∈ L :: blocks es → ∀ o : Obj, w.heap[k]? = some o → ¬ Plain o := fun k hk o ho hp => by
  rcases List.mem_cons.1 hk with rfl | hk
  · rw [h.ls.own] at ho
    exact hp.1 _ _ (Option.some.inj ho).symm
  · obtain ⟨e, he, hb⟩ := List.mem_map.1 hk
    obtain ⟨q, z, hq⟩ := h.ls.seg.at_ e he
    rw [hb, ho] at hq
    exact hp.2.1 _ _ (Option.some.inj hq)
/-- what the list's calls turn -/
theorem Fr.of_chg (h : Ca B w L M ev sz hh mm es) (hc : Chg w W (L :: blocks es)) : Fr B w W :=
  ⟨hc.os, hc.tape, hc.output, Nat.le_of_eq hc.size.symm, fun k hk => hc.block k (fun hm => by
    rcases List.mem_cons.1 hm with rfl | hm
    · have := h.bL; omega
    · have := h.bs k hm; omega), fun k o ho hp => (hc.block k (fun hm => h.not_plain k hm o ho hp)).trans ho⟩
theorem Ca.map_kept (h : Ca B w L M ev sz hh mm es) (hc : Chg w W (L :: blocks es)) : MapIs Try.prog 3 M es.length (look es) W := h.mp.of_heap (hc.block M h.apart)
theorem mem_app {xs ys : List En} {e a : En} (h : a ∈ xs ++ ys) : a ∈ xs ++ e :: ys := by
  rcases List.mem_append.1 h with h | h
  · exact List.mem_append.2 (.inl h)
  · exact List.mem_append.2 (.inr (by simp [h]))
/-- an entry was used -/
theorem Ca.moved {xs ys : List En} {e : En} (h : Ca B w L M ev sz hh mm (xs ++ e :: ys)) (hl : Ls W L sz (.map (some M)) ev hh mm (e :: (xs ++ ys))) (hc : Chg w W (L :: blocks (xs ++ e :: ys))) : Ca B W L M ev sz hh mm (e :: (xs ++ ys)) := by
  have hp := front_perm e xs ys
  refine ⟨hl, ?_, (hp.map En.k).nodup_iff.1 h.nk, fun a ha => h.wk a (hp.mem_iff.2 ha), h.bL, h.bM, fun b hb => h.bs b ((hp.map En.b).mem_iff.2 hb)⟩
  have := h.map_kept hc
  rw [look_perm hp h.nk, hp.length_eq] at this
  exact this
/-- an entry is taken out of the list and of the map -/
theorem Ca.cut {w2 : World} {xs ys : List En} {e : En} (h : Ca B w L M ev sz hh mm (xs ++ e :: ys)) (hl : Ls W L sz (.map (some M)) ev hh mm (xs ++ ys)) (hc : Chg w W (L :: blocks (xs ++ e :: ys)))
    (hm : MapIs Try.prog 3 M (if (look (xs ++ e :: ys) (.int .i64 e.k)).isSome then (xs ++ e :: ys).length - 1 else (xs ++ e :: ys).length) (upd (look (xs ++ e :: ys)) (.int .i64 e.k) none) w2) (ht : W.mapTurned w2 M) : Ca B w2 L M ev sz hh mm (xs ++ ys) ∧ Fr B w w2 := by
  have hg := ht.grown
  have hap := h.apart
  have hlt : ∀ k, k ∈ L :: blocks (xs ++ e :: ys) → k ≠ M := fun k hk e2 => hap (e2 ▸ hk)
  obtain ⟨D, ⟨a0, c0, hM0, _⟩, _⟩ := h.map_kept hc
  have keep : ∀ (k : Nat) (o : Obj), W.heap[k]? = some o → k ≠ M → w2.heap[k]? = some o := fun k o hk hne => (hg.block k (Array.getElem?_eq_some_iff.1 hk).1 (by simpa using hne)).trans hk
  have sub : ∀ k, k ∈ L :: blocks (xs ++ ys) → k ∈ L :: blocks (xs ++ e :: ys) := fun k hk => by
    rcases List.mem_cons.1 hk with rfl | hk
    · simp
    · refine List.mem_cons_of_mem _ ?_
      rw [blocks_app] at hk ⊢
      rw [blocks_cons]
      rcases List.mem_append.1 hk with h | h
      · exact List.mem_append.2 (.inl h)
      · exact List.mem_append.2 (.inr (by simp [h]))
  have hsome : (look (xs ++ e :: ys) (.int .i64 e.k)).isSome = true := by
    rw [look_int, find_mem h.nk e (by simp)]
    rfl
  rw [if_pos hsome, look_drop h.nk] at hm
  have hn : (xs ++ e :: ys).length - 1 = (xs ++ ys).length := by simp
  rw [hn] at hm
  have hp := (front_perm e xs ys)
  have hnk := (hp.map En.k).nodup_iff.1 h.nk
  rw [List.map_cons, List.nodup_cons] at hnk
  refine ⟨⟨⟨keep _ _ hl.own (hlt L (by simp)), ?_, hl.nd⟩, hm, hnk.2, fun a ha => h.wk a (mem_app ha), h.bL, h.bM, fun b hb => ?_⟩, ?_⟩
  · refine hl.seg.kept (fun x hx => ?_)
    obtain ⟨q, z, hq⟩ := hl.seg.at_ x hx
    rw [hq]
    exact keep _ _ hq (hlt _ (sub _ (List.mem_cons_of_mem _ (mem_blocks hx))))
  · have := sub b (List.mem_cons_of_mem _ hb)
    rcases List.mem_cons.1 this with rfl | this
    · exact h.bL
    · exact h.bs b this
  · have f1 := Fr.of_chg h hc
    refine ⟨hg.os.trans f1.os, hg.tape.trans f1.tape, hg.output.trans f1.output, Nat.le_trans f1.size hg.size, fun k hk => ?_, fun k o ho hp => ?_⟩
    · by_cases hkw : k < W.heap.size
      · exact (hg.block k hkw (by have := h.bM; simp; omega)).trans (f1.old k hk)
      · have : M < W.heap.size := (Array.getElem?_eq_some_iff.1 hM0).1
        have := h.bM
        omega
    · have h1 := f1.plain k o ho hp
      refine keep k o h1 (fun e2 => ?_)
      subst e2
      rw [hM0] at h1
      exact hp.2.2 _ _ (Option.some.inj h1).symm
/-- a counter of the cache -/
theorem Ca.hits (h : Ca B w L M ev sz hh mm es) (h' : Int) : Ca B (w.setCell ⟨L, 5, none⟩ (.int .i64 h')) L M ev sz h' mm es ∧ Chg w (w.setCell ⟨L, 5, none⟩ (.int .i64 h')) (L :: blocks es) := by
  have hc := (Chg.refl w (L :: blocks es)).put L 5 (.int .i64 h') (by simp)
  exact ⟨⟨⟨(set_same _ h.ls.own).trans rfl, h.ls.seg.put _ (List.nodup_cons.1 h.ls.nd).1, h.ls.nd⟩, h.map_kept hc, h.nk, h.wk, h.bL, h.bM, h.bs⟩, hc⟩
theorem Ca.misses (h : Ca B w L M ev sz hh mm es) (m' : Int) : Ca B (w.setCell ⟨L, 6, none⟩ (.int .i64 m')) L M ev sz hh m' es ∧ Chg w (w.setCell ⟨L, 6, none⟩ (.int .i64 m')) (L :: blocks es) := by
  have hc := (Chg.refl w (L :: blocks es)).put L 6 (.int .i64 m') (by simp)
  exact ⟨⟨⟨(set_same _ h.ls.own).trans rfl, h.ls.seg.put _ (List.nodup_cons.1 h.ls.nd).1, h.ls.nd⟩, h.map_kept hc, h.nk, h.wk, h.bL, h.bM, h.bs⟩, hc⟩
theorem hd_same {xs ys : List En} {e e' : En} (hb : e'.b = e.b) (n : Value) : hd (xs ++ e' :: ys) n = hd (xs ++ e :: ys) n := by
  cases xs with
  | nil => show ptr e'.b = ptr e.b; rw [hb]
  | cons a t => rfl
theorem lst_same {xs ys : List En} {e e' : En} (hb : e'.b = e.b) (p : Value) : lst p (xs ++ e' :: ys) = lst p (xs ++ e :: ys) := by
  rw [lst_app, lst_app]
  show lst (ptr e'.b) ys = lst (ptr e.b) ys
  rw [hb]
theorem find_app {xs ys : List En} {e : En} {k : Int} (h : ∀ a ∈ xs, a.k ≠ k) : (xs ++ e :: ys).find? (fun x => decide (x.k = k)) = (e :: ys).find? (fun x => decide (x.k = k)) := by
  rw [List.find?_append, find_none h]; rfl
/-- an entry gets another value -/
theorem Ca.value {xs ys : List En} {e : En} (h : Ca B w L M ev sz hh mm (xs ++ e :: ys)) (v' : Int) :
    Ca B (w.setCell ⟨e.b, 1, none⟩ (.int .i64 v')) L M ev sz hh mm (xs ++ ⟨e.b, e.k, v'⟩ :: ys) ∧ Chg w (w.setCell ⟨e.b, 1, none⟩ (.int .i64 v')) (L :: blocks (xs ++ e :: ys)) := by
  have hm : e.b ∈ L :: blocks (xs ++ e :: ys) := by rw [blocks_app]; simp [blocks]
  have hc := (Chg.refl w (L :: blocks (xs ++ e :: ys))).put e.b 1 (.int .i64 v') hm
  obtain ⟨n0, n1, n2, n3, n4, n5, n6, n7, n8⟩ := parts h.ls.nd
  have hs := Seg.app.1 h.ls.seg
  have hbl : blocks (xs ++ ⟨e.b, e.k, v'⟩ :: ys) = blocks (xs ++ e :: ys) := by rw [blocks_app, blocks_app]; rfl
  have hks : (xs ++ ⟨e.b, e.k, v'⟩ :: ys).map En.k = (xs ++ e :: ys).map En.k := by rw [List.map_append, List.map_append]; rfl
  have hlk : look (xs ++ ⟨e.b, e.k, v'⟩ :: ys) = look (xs ++ e :: ys) := by
    rw [look_perm (front_perm _ xs ys) (by rw [hks]; exact h.nk), look_perm (front_perm e xs ys) h.nk]
    rw [← look_put, ← look_put]
  refine ⟨⟨⟨?_, Seg.app.2 ⟨hs.1.put _ n2, ⟨(set_same _ hs.2.1).trans rfl, hs.2.2.put _ n3⟩⟩, by rw [hbl]; exact h.ls.nd⟩, ?_, by rw [hks]; exact h.nk, fun a ha => ?_, h.bL, h.bM, by rw [hbl]; exact h.bs⟩, hc⟩
  · rw [hd_same (xs := xs) (ys := ys) (e := e) (e' := ⟨e.b, e.k, v'⟩) rfl, lst_same (xs := xs) (ys := ys) (e := e) (e' := ⟨e.b, e.k, v'⟩) rfl]
    exact (set_other w _ (fun e2 => n1 e2.symm)).trans h.ls.own
  · rw [hlk]
    have := h.map_kept hc
    simpa using this
  · rcases List.mem_append.1 ha with ha | ha
    · exact h.wk a (List.mem_append.2 (.inl ha))
    · rcases List.mem_cons.1 ha with rfl | ha
      · exact h.wk e (by simp)
      · exact h.wk a (List.mem_append.2 (.inr (by simp [ha])))
/-- a new entry lies in memory -/
theorem Ca.born (h : Ca B w L M ev sz hh mm es) (o : Obj) : Ca B (w.alloc o) L M ev sz hh mm es := by
  have k : ∀ {q : Nat} {x : Obj}, w.heap[q]? = some x → (w.alloc o).heap[q]? = some x := fun {q x} hq => (Below.heap_alloc w o q (Array.getElem?_eq_some_iff.1 hq).1).trans hq
  refine ⟨⟨k h.ls.own, h.ls.seg.kept (fun e he => ?_), h.ls.nd⟩, h.mp.alloc o, h.nk, h.wk, h.bL, h.bM, h.bs⟩
  obtain ⟨q, z, hq⟩ := h.ls.seg.at_ e he
  rw [hq, k hq]
theorem Ca.fresh (h : Ca B w L M ev sz hh mm es) : w.heap.size ∉ L :: blocks es := fun hm => by
  have key : ∀ k, k ∈ L :: blocks es → k < w.heap.size := fun k hk => by
    rcases List.mem_cons.1 hk with rfl | hk
    · exact (Array.getElem?_eq_some_iff.1 h.ls.own).1
    · obtain ⟨e, he, hb⟩ := List.mem_map.1 hk
      obtain ⟨q, z, hq⟩ := h.ls.seg.at_ e he
      rw [← hb]; exact (Array.getElem?_eq_some_iff.1 hq).1
  exact Nat.lt_irrefl _ (key _ hm)
/-- the new entry ahead of all, in the list and in the map -/
theorem Ca.put_ {w2 : World} {e : En} (h : Ca B w L M ev sz hh mm es) (hB : B ≤ w.heap.size) (he : e.b = w.heap.size) (hk : ∀ a ∈ es, a.k ≠ e.k) (hkw : In64 e.k) (cs : Array Value) (hl : Ls W L sz (.map (some M)) ev hh mm (e :: es))
    (hc : Chg (w.alloc (.cells cs 67)) W (L :: blocks (e :: es)))
    (hm : MapIs Try.prog 3 M (if (look es (.int .i64 e.k)).isSome then es.length else es.length + 1) (upd (look es) (.int .i64 e.k) (some (ptr e.b))) w2) (ht : W.mapTurned w2 M) : Ca B w2 L M ev sz hh mm (e :: es) ∧ Fr B w w2 := by
  have hg := ht.grown
  have hf := h.fresh
  have hap := h.apart
  have hML : M < w.heap.size := h.mp.lt
  have hne : ∀ k, k ∈ L :: blocks (e :: es) → k ≠ M := fun k hk e2 => by
    subst e2
    rw [List.mem_cons, blocks_cons, List.mem_cons] at hk
    rcases hk with rfl | rfl | hk
    · exact hap (by simp)
    · omega
    · exact hap (by simp [hk])
  have hMW : MapIs Try.prog 3 M es.length (look es) W := (h.mp.alloc (.cells cs 67)).of_heap (hc.block M (fun hm => hne M hm rfl))
  obtain ⟨D, ⟨a0, c0, hM0, _⟩, _⟩ := hMW
  have keep : ∀ (k : Nat) (o : Obj), W.heap[k]? = some o → k ≠ M → w2.heap[k]? = some o := fun k o hk hne => (hg.block k (Array.getElem?_eq_some_iff.1 hk).1 (by simpa using hne)).trans hk
  have hnone : (look es (.int .i64 e.k)).isSome = false := by rw [look_int, find_none hk]; rfl
  rw [if_neg (by rw [hnone]; simp), look_put] at hm
  refine ⟨⟨⟨keep _ _ hl.own (hne L (by simp)), hl.seg.kept (fun x hx => ?_), hl.nd⟩, hm, ?_, fun a ha => ?_, h.bL, h.bM, fun b hb => ?_⟩, ?_⟩
  · obtain ⟨q, z, hq⟩ := hl.seg.at_ x hx
    rw [hq]
    exact keep _ _ hq (hne _ (List.mem_cons_of_mem _ (mem_blocks hx)))
  · rw [List.map_cons, List.nodup_cons]
    exact ⟨fun hm2 => by obtain ⟨a, ha, hka⟩ := List.mem_map.1 hm2; exact hk a ha hka, h.nk⟩
  · rcases List.mem_cons.1 ha with rfl | ha
    · exact hkw
    · exact h.wk a ha
  · rw [blocks_cons] at hb
    rcases List.mem_cons.1 hb with rfl | hb
    · omega
    · exact h.bs b hb
  · have ha : ∀ k, k < w.heap.size → (w.alloc (.cells cs 67)).heap[k]? = w.heap[k]? := fun k hk => Below.heap_alloc w _ k hk
    refine ⟨hg.os.trans hc.os, hg.tape.trans hc.tape, hg.output.trans hc.output, ?_, fun k hk => ?_, fun k o ho hp => ?_⟩
    · have h1 := hc.size
      have h2 := hg.size
      rw [h1] at h2
      exact Nat.le_trans (by simp) h2
    · have hlt : k < w.heap.size := by omega
      have hkM : k ≠ M := by have := h.bM; omega
      have hkW : k < W.heap.size := by rw [hc.size]; simp; omega
      refine (hg.block k hkW (by simpa using hkM)).trans ((hc.block k (fun hm2 => ?_)).trans (ha k hlt))
      rw [List.mem_cons, blocks_cons, List.mem_cons] at hm2
      rcases hm2 with rfl | rfl | hm2
      · have := h.bL; omega
      · omega
      · have := h.bs k hm2; omega
    · have hlt : k < w.heap.size := (Array.getElem?_eq_some_iff.1 ho).1
      have hns : k ∉ L :: blocks (e :: es) := fun hm2 => by
        rw [List.mem_cons, blocks_cons, List.mem_cons] at hm2
        rcases hm2 with rfl | rfl | hm2
        · exact h.not_plain k (by simp) o ho hp
        · omega
        · exact h.not_plain k (by simp [hm2]) o ho hp
      have h1 : W.heap[k]? = some o := (hc.block k hns).trans ((ha k hlt).trans ho)
      refine keep k o h1 (fun e2 => ?_)
      subst e2
      rw [hM0] at h1
      exact hp.2.2 _ _ (Option.some.inj h1).symm
/-- what the two ways of a lookup are -/
theorem look_cases (es : List En) (k : Int) : (look es (.int .i64 k) = none ∧ ∀ a ∈ es, a.k ≠ k) ∨ ∃ xs e ys, es = xs ++ e :: ys ∧ e.k = k ∧ look es (.int .i64 k) = some (ptr e.b) := by
  rw [look_int]
  cases hf : es.find? (fun e => decide (e.k = k)) with
  | none => exact .inl ⟨rfl, fun a ha => by simpa using List.find?_eq_none.1 hf a ha⟩
  | some e =>
    obtain ⟨hk, xs, ys, hs⟩ := find_split hf
    exact .inr ⟨xs, e, ys, hs, hk, rfl⟩
/-- the same, but for one block -/
structure Fx (o B : Nat) (w w' : World) : Prop where
  os : w'.os = w.os
  tape : w'.tape = w.tape
  output : w'.output = w.output
  size : w.heap.size ≤ w'.heap.size
  old : ∀ k, k < B → w'.heap[k]? = w.heap[k]?
  plain : ∀ (k : Nat) (x : Obj), k ≠ o → w.heap[k]? = some x → Plain x → w'.heap[k]? = some x
theorem Fr.fx {o : Nat} {w w' : World} (h : Fr B w w') : Fx o B w w' := ⟨h.os, h.tape, h.output, h.size, h.old, fun k x _ => h.plain k x⟩
theorem Fx.trans {o : Nat} {a b c : World} (h : Fx o B a b) (k : Fx o B b c) : Fx o B a c :=
  ⟨k.os.trans h.os, k.tape.trans h.tape, k.output.trans h.output, Nat.le_trans h.size k.size, fun x hx => (k.old x hx).trans (h.old x hx), fun x y hn hx hp => k.plain x y hn (h.plain x y hn hx hp) hp⟩
theorem Fx.put {o : Nat} (w : World) (j : Nat) (u : Value) (ho : B ≤ o) : Fx o B w (w.setCell ⟨o, j, none⟩ u) :=
  ⟨rfl, rfl, rfl, by simp [World.setCell], fun k hk => set_other w u (by omega), fun k x hn hx _ => (set_other w u hn).trans hx⟩
theorem Fx.of_drew {o : Nat} {a b : World} (h : Fx o B a.drew b) : Fx o B a b := ⟨h.os, h.tape, h.output, h.size, h.old, h.plain⟩
theorem Fx.drew {o : Nat} {a b : World} (h : Fx o B a b) : Fx o B a b.drew := ⟨h.os, h.tape, h.output, h.size, h.old, h.plain⟩
/-- a plain block is turned -/
theorem Ca.far (h : Ca B w L M ev sz hh mm es) {o j : Nat} {x : Obj} (u : Value) (ho : w.heap[o]? = some x) (hp : Plain x) : Ca B (w.setCell ⟨o, j, none⟩ u) L M ev sz hh mm es := by
  have hn : ∀ k, k ∈ L :: blocks es → k ≠ o := fun k hk e => by subst e; exact h.not_plain k hk x ho hp
  refine ⟨⟨(set_other w u (hn L (by simp))).trans h.ls.own, h.ls.seg.kept (fun e he => set_other w u (hn _ (List.mem_cons_of_mem _ (mem_blocks he)))), h.ls.nd⟩, h.mp.of_heap (set_other w u (fun e => ?_)), h.nk, h.wk, h.bL, h.bM, h.bs⟩
  subst e
  obtain ⟨D, ⟨a, c, hM, _⟩, _⟩ := h.mp
  rw [ho] at hM
  exact hp.2.2 _ _ (Option.some.inj hM)
theorem plain33 (c : Array Value) : Plain (.cells c 33 (0, 0)) := ⟨fun _ _ e => (by cases e), fun _ _ e => (by cases e), fun _ _ e => (by cases e)⟩
theorem plain36 (c : Array Value) : Plain (.cells c 36 (0, 0)) := ⟨fun _ _ e => (by cases e), fun _ _ e => (by cases e), fun _ _ e => (by cases e)⟩
end Go.Proofs.Ytjhmcpdnmfhodaa.Lrc
