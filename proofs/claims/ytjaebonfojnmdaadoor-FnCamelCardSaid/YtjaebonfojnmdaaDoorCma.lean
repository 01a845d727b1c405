/- Rows of runes in a row, of the call's own, in memory. -/
import Derived.Test.YtjaebonfojnmdaaDoorProg
import Derived.Test.YtjaebonfojnmdaaDoorWWords
import Derived.WalkKit
import Derived.OwnWalk
import Derived.Maps.AppendAt
import Derived.Laws.OwnMore
import Derived.Laws.Tables
import Derived.Lib.Builder
namespace Go.Proofs.YtjaebonfojnmdaaDoor.Cma
open Go Go.RowKit Go.Lib Go.Proofs.YtjaebonfojnmdaaDoorW.PrintWords

/-- the outer row v holds the inner rows' values vs; these hold the runes rs; no two inner rows share a block -/
structure Rr (B : Nat) (v : Value) (vs : List Value) (rs : List (List Int)) (w : World) : Prop where
  base : B ≤ w.heap.size
  out : w.ownsRow B 29 1 v vs.length vs
  len : vs.length = rs.length
  inn : ∀ (k : Nat) u r, vs[k]? = some u → rs[k]? = some r → w.ownsRow B 21 1 u r.length (r.map (Value.int .i32))
  some_ : ∀ u ∈ vs, ∃ g n c, u = .slice (some ⟨g, 0, none⟩) n c
  apart : ∀ (i j : Nat) u t, i ≠ j → vs[i]? = some u → vs[j]? = some t → u.ownBlock ≠ t.ownBlock

theorem own_typed {w : World} {B : Nat} {e : TypeId} {v : Value} {n k : Nat} {xs : List Value} (h : w.ownsRow B e 1 v n xs) (hk : v.ownBlock = some k) : ∃ c, w.heap[k]? = some (.cells c e (0, 0)) := by
  rcases h.2 with ⟨rfl, _⟩ | ⟨g, cap, cur, rfl, _, hg, _⟩
  · simp [Value.ownBlock] at hk
  · simp only [Value.ownBlock, Option.some.injEq] at hk
    subst hk
    exact ⟨cur, hg⟩
theorem own_ne {w : World} {B e e' : Nat} {u v : Value} {n m : Nat} {xs ys : List Value} (hu : w.ownsRow B e 1 u n xs) (hv : w.ownsRow B e' 1 v m ys) (he : e ≠ e') : u.ownBlock = none ∨ u.ownBlock ≠ v.ownBlock := by
  cases h : u.ownBlock with
  | none => exact .inl rfl
  | some k =>
    refine .inr fun e2 => ?_
    obtain ⟨c, hc⟩ := own_typed hu h
    obtain ⟨d, hd⟩ := own_typed hv e2.symm
    rw [hc] at hd
    injection hd with hd
    injection hd with _ hd
    exact he hd
theorem own_lt {w : World} {B : Nat} {e : TypeId} {v : Value} {n k : Nat} {xs : List Value} (h : w.ownsRow B e 1 v n xs) (hk : v.ownBlock = some k) : k < w.heap.size := by
  obtain ⟨c, hc⟩ := own_typed h hk
  exact (Array.getElem?_eq_some_iff.1 hc).1
/-- everything stays that is below -/
theorem Rr.kept {B : Nat} {v : Value} {vs : List Value} {rs : List (List Int)} {w w' : World} (h : Rr B v vs rs w) (hw : Below w.heap.size w w') : Rr B v vs rs w' := by
  have gr : w.grownBy w' none := ⟨hw.os, hw.tape, hw.output, hw.size, fun i hi _ => hw.block i hi⟩
  have k : ∀ {e : TypeId} {u : Value} {n : Nat} {xs : List Value}, w.ownsRow B e 1 u n xs → w'.ownsRow B e 1 u n xs := fun hu => hu.kept gr (by cases h : Value.ownBlock _ with | none => exact .inl rfl | some k => exact .inr (by simp))
  exact ⟨Nat.le_trans h.base hw.size, k h.out, h.len, fun i u r hu hr => k (h.inn i u r hu hr), h.some_, h.apart⟩
theorem put_grown (w : World) (g i : Nat) (v : Value) : w.grownBy (w.setCell ⟨g, i, none⟩ v) (some g) :=
  ⟨rfl, rfl, rfl, by simp [World.setCell], fun k _ hne => by
    have : g ≠ k := fun e => hne (by rw [e])
    simp [World.setCell, Array.getElem?_modify, this]⟩
/-- an inner row is turned, and its value stored back -/
theorem Rr.set {B : Nat} {g c : Nat} {vs : List Value} {rs : List (List Int)} {w w1 : World} (h : Rr B (.slice (some ⟨g, 0, none⟩) vs.length c) vs rs w) (k : Nat) (u : Value) (hu : vs[k]? = some u) (u' : Value) (r' : List Int) (row : Option Nat)
    (ho : w1.ownsRow B 21 1 u' r'.length (r'.map (Value.int .i32))) (hg : w.grownBy w1 row) (hrow : row = none ∨ row = u.ownBlock) (hn : u'.ownBlock = u.ownBlock ∨ u'.ownBlock = some w.heap.size ∨ ∃ m, w.heap.size ≤ m ∧ u'.ownBlock = some m) (hs : ∃ g n c, u' = .slice (some ⟨g, 0, none⟩) n c) :
    Rr B (.slice (some ⟨g, 0, none⟩) (vs.set k u').length c) (vs.set k u') (rs.set k r') (w1.setCell ⟨g, k, none⟩ u') := by
  have hk : k < vs.length := (List.getElem?_eq_some_iff.1 hu).1
  have hkr : k < rs.length := by rw [← h.len]; exact hk
  have hgo : (Value.slice (some ⟨g, 0, none⟩) vs.length c).ownBlock = some g := rfl
  have far : ∀ (i : Nat) (t : Value), i ≠ k → vs[i]? = some t → t.ownBlock = none ∨ t.ownBlock ≠ row := fun i t hi ht => by
    rcases hrow with rfl | rfl
    · cases t.ownBlock with
      | none => exact .inl rfl
      | some x => exact .inr (by simp)
    · exact .inr (h.apart i k t u hi ht hu)
  have hur : w.ownsRow B 21 1 u (rs[k]).length ((rs[k]).map (Value.int .i32)) := h.inn k u _ hu (List.getElem?_eq_getElem hkr)
  have hne : ∀ {n : Nat} {xs : List Value} {t : Value} {W : World}, W.ownsRow B 21 1 t n xs → W.ownsRow B 29 1 (.slice (some ⟨g, 0, none⟩) vs.length c) vs.length vs → t.ownBlock = none ∨ t.ownBlock ≠ some g := fun h1 h2 => own_ne h1 h2 (by decide)
  have out1 : w1.ownsRow B 29 1 (.slice (some ⟨g, 0, none⟩) vs.length c) vs.length vs := by
    refine h.out.kept hg ?_
    rcases hrow with rfl | rfl
    · exact .inr (by simp [Value.ownBlock])
    · rcases own_ne h.out hur (by decide) with e | e
      · exact .inl e
      · exact .inr e
  have hset := out1.stored k u'
  rw [List.length_set]
  refine ⟨Nat.le_trans h.base (Nat.le_trans hg.size (by simp [World.setCell])), by rw [List.length_set]; exact hset.1, by simp [h.len], fun i t r ht hr => ?_, fun t ht => ?_, fun i j t t' hij ht ht' => ?_⟩
  · by_cases hik : i = k
    · subst hik
      rw [List.getElem?_set_self hk] at ht
      rw [List.getElem?_set_self hkr] at hr
      obtain rfl := Option.some.inj ht
      obtain rfl := Option.some.inj hr
      exact ho.kept (put_grown w1 g i _) (hne ho out1)
    · rw [List.getElem?_set_ne (fun e => hik e.symm)] at ht hr
      have h1 := (h.inn i t r ht hr).kept hg (far i t hik ht)
      exact h1.kept (put_grown w1 g k _) (hne h1 out1)
  · rcases List.mem_or_eq_of_mem_set ht with ht | rfl
    · exact h.some_ t ht
    · exact hs
  · have old : ∀ (i : Nat) (t : Value), vs[i]? = some t → ∀ m, t.ownBlock = some m → m < w.heap.size := fun i t ht m hm => by
      have hi : i < rs.length := by rw [← h.len]; exact (List.getElem?_eq_some_iff.1 ht).1
      exact own_lt (h.inn i t _ ht (List.getElem?_eq_getElem hi)) hm
    have key : ∀ (i : Nat) (t : Value), i ≠ k → vs[i]? = some t → t.ownBlock ≠ u'.ownBlock := fun i t hi ht e => by
      obtain ⟨x, y, z, rfl⟩ := h.some_ t (List.mem_of_getElem? ht)
      rcases hn with hn | hn | ⟨m, hm, hn⟩
      · exact h.apart i k _ u hi ht hu (e.trans hn)
      · have := old i _ ht _ (e.trans hn)
        omega
      · have := old i _ ht _ (e.trans hn)
        omega
    by_cases hik : i = k
    · subst hik
      rw [List.getElem?_set_self hk] at ht
      obtain rfl := Option.some.inj ht
      rw [List.getElem?_set_ne hij] at ht'
      exact fun e => key j t' (fun e => hij e.symm) ht' e.symm
    · rw [List.getElem?_set_ne (fun e => hik e.symm)] at ht
      by_cases hjk : j = k
      · subst hjk
        rw [List.getElem?_set_self hk] at ht'
        obtain rfl := Option.some.inj ht'
        exact key i t hik ht
      · rw [List.getElem?_set_ne (fun e => hjk e.symm)] at ht'
        exact h.apart i j t t' hij ht ht'
/-- a new inner row, appended -/
theorem Rr.push {B : Nat} {v : Value} {vs : List Value} {rs : List (List Int)} {w W w1 : World} (h : Rr B v vs rs w) (hW : Below w.heap.size w W) (u' : Value) (r' : List Int) (ho : W.ownsRow B 21 1 u' r'.length (r'.map (Value.int .i32)))
    (hn : ∃ m, w.heap.size ≤ m ∧ u'.ownBlock = some m) (hs : ∃ g n c, u' = .slice (some ⟨g, 0, none⟩) n c) (v' : Value) (hout : w1.ownsRow B 29 1 v' (vs.length + 1) (vs ++ [u'])) (hg : W.grownBy w1 v.ownBlock) :
    Rr B v' (vs ++ [u']) (rs ++ [r']) w1 := by
  have hk := h.kept hW
  have far : ∀ {n : Nat} {xs : List Value} {t : Value}, W.ownsRow B 21 1 t n xs → t.ownBlock = none ∨ t.ownBlock ≠ v.ownBlock := fun h1 => own_ne h1 hk.out (by decide)
  have old : ∀ (i : Nat) (t : Value), vs[i]? = some t → ∀ m, t.ownBlock = some m → m < w.heap.size := fun i t ht m hm => by
    have hi : i < rs.length := by rw [← h.len]; exact (List.getElem?_eq_some_iff.1 ht).1
    exact own_lt (h.inn i t _ ht (List.getElem?_eq_getElem hi)) hm
  have key : ∀ (i : Nat) (t : Value), vs[i]? = some t → t.ownBlock ≠ u'.ownBlock := fun i t ht e => by
    obtain ⟨m, hm, hn⟩ := hn
    have := old i t ht m (e.trans hn)
    omega
  refine ⟨Nat.le_trans hk.base hg.size, by rw [List.length_append]; exact hout, by simp [h.len], fun i t r ht hr => ?_, fun t ht => ?_, fun i j t t' hij ht ht' => ?_⟩
  · by_cases hi : i < vs.length
    · rw [List.getElem?_append_left hi] at ht
      rw [List.getElem?_append_left (by rw [← h.len]; exact hi)] at hr
      have := hk.inn i t r ht hr
      exact this.kept hg (far this)
    · have hl : i = vs.length := by have := (List.getElem?_eq_some_iff.1 ht).1; simp at this; omega
      subst hl
      rw [List.getElem?_append_right (Nat.le_refl _), Nat.sub_self] at ht
      rw [List.getElem?_append_right (by rw [h.len]; exact Nat.le_refl _), h.len, Nat.sub_self] at hr
      simp only [List.getElem?_cons_zero, Option.some.injEq] at ht hr
      subst ht; subst hr
      exact ho.kept hg (far ho)
  · rcases List.mem_append.1 ht with ht | ht
    · exact h.some_ t ht
    · rw [List.mem_singleton.1 ht]; exact hs
  · have at_ : ∀ (i : Nat) (t : Value), (vs ++ [u'])[i]? = some t → (i < vs.length ∧ vs[i]? = some t) ∨ (i = vs.length ∧ t = u') := fun i t ht => by
      by_cases hi : i < vs.length
      · rw [List.getElem?_append_left hi] at ht; exact .inl ⟨hi, ht⟩
      · have hl : i = vs.length := by have := (List.getElem?_eq_some_iff.1 ht).1; simp at this; omega
        subst hl
        rw [List.getElem?_append_right (Nat.le_refl _), Nat.sub_self] at ht
        simp only [List.getElem?_cons_zero, Option.some.injEq] at ht
        exact .inr ⟨rfl, ht.symm⟩
    rcases at_ i t ht with ⟨_, a⟩ | ⟨a, rfl⟩ <;> rcases at_ j t' ht' with ⟨_, b⟩ | ⟨b, rfl⟩
    · exact h.apart i j t t' hij a b
    · exact key i t a
    · exact fun e => key j t' b e.symm
    · omega
theorem Rr.nil (B : Nat) (w : World) (h : B ≤ w.heap.size) : Rr B (.slice none 0 0) [] [] w :=
  ⟨h, ⟨rfl, .inl ⟨rfl, rfl⟩⟩, rfl, (fun k u r hu => by simp at hu), (fun u hu => by cases hu), (fun i j u t _ hu => by simp at hu)⟩
end Go.Proofs.YtjaebonfojnmdaaDoor.Cma
