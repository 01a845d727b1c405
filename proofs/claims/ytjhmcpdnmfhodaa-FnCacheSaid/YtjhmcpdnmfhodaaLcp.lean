/- What the calls of a cache give, on lists; and what a script gives. -/
import Derived.Test.YtjhmcpdnmfhodaaLrc
namespace Go.Proofs.Ytjhmcpdnmfhodaa.Lcp
open Go Go.RowKit Ll Lra Lrc

structure St where
  l : List (Int × Int)
  h : Int
  m : Int
structure Op3 where
  d : Int
  k : Int
  v : Int
structure O4 where
  ok : Bool
  key : Int
  val : Int
  asked : Bool
def find (l : List (Int × Int)) (k : Int) : Option Int := (l.find? fun p => decide (p.1 = k)).map (·.2)
def but (l : List (Int × Int)) (k : Int) : List (Int × Int) := l.filter fun p => decide (p.1 ≠ k)
def ins (sz : Int) (l : List (Int × Int)) (k v : Int) : List (Int × Int) := if (l.length : Int) < sz then (k, v) :: l else (k, v) :: l.dropLast
def o0 : O4 := ⟨false, 0, 0, false⟩
def step (sz : Int) (s : St) (x : Op3) : St × O4 :=
  if x.d = 0 then (match find s.l x.k with
    | some _ => (⟨(x.k, x.v) :: but s.l x.k, s.h, s.m⟩, o0)
    | none => (⟨ins sz s.l x.k x.v, s.h, s.m⟩, ⟨decide (sz ≤ (s.l.length : Int)), 0, 0, false⟩))
  else if x.d = 1 then (match find s.l x.k with
    | some y => (⟨(x.k, y) :: but s.l x.k, wrap64 (s.h + 1), s.m⟩, ⟨true, 0, y, false⟩)
    | none => (⟨s.l, s.h, wrap64 (s.m + 1)⟩, o0))
  else if x.d = 2 then (match find s.l x.k with
    | some y => (⟨(x.k, y) :: but s.l x.k, wrap64 (s.h + 1), s.m⟩, ⟨false, 0, y, false⟩)
    | none => (⟨ins sz s.l x.k x.v, s.h, wrap64 (s.m + 1)⟩, ⟨false, 0, x.v, true⟩))
  else if x.d = 3 then (match find s.l x.k with
    | some _ => (⟨but s.l x.k, s.h, s.m⟩, ⟨true, 0, 0, false⟩)
    | none => (s, o0))
  else if x.d = 4 then (match s.l.getLast? with
    | some p => (⟨s.l.dropLast, s.h, s.m⟩, ⟨true, p.1, p.2, false⟩)
    | none => (s, o0))
  else if x.d = 5 then (⟨[], 0, 0⟩, o0)
  else if x.d = 6 then (s, ⟨false, 0, s.l.length, false⟩)
  else if x.d = 7 then (s, ⟨false, 0, sz, false⟩)
  else (s, o0)
def run (sz : Int) (s : St) : List Op3 → St × List O4
  | [] => (s, [])
  | x :: t => ((run sz (step sz s x).1 t).1, (step sz s x).2 :: (run sz (step sz s x).1 t).2)
theorem run_snoc (sz : Int) (x : Op3) : ∀ (l : List Op3) (s : St), run sz s (l ++ [x]) = ((step sz (run sz s l).1 x).1, (run sz s l).2 ++ [(step sz (run sz s l).1 x).2])
  | [], s => rfl
  | y :: t, s => by
    show ((run sz (step sz s y).1 (t ++ [x])).1, (step sz s y).2 :: (run sz (step sz s y).1 (t ++ [x])).2) = _
    rw [run_snoc sz x t]
    rfl
def pl (es : List En) : List (Int × Int) := es.map fun e => (e.k, e.v)
theorem pl_len (es : List En) : (pl es).length = es.length := List.length_map _
theorem pl_cons (e : En) (es : List En) : pl (e :: es) = (e.k, e.v) :: pl es := rfl
theorem but_none {es : List En} {k : Int} (h : ∀ a ∈ es, a.k ≠ k) : but (pl es) k = pl es := by
  unfold but pl
  rw [List.filter_eq_self]
  intro p hp
  obtain ⟨a, ha, rfl⟩ := List.mem_map.1 hp
  exact decide_eq_true (h a ha)
theorem but_split {xs ys : List En} {e : En} (hn : ((xs ++ e :: ys).map En.k).Nodup) : but (pl (xs ++ e :: ys)) e.k = pl (xs ++ ys) := by
  have hp := ((front_perm e xs ys).map En.k).nodup_iff.1 hn
  rw [List.map_cons, List.nodup_cons] at hp
  have h : ∀ a ∈ xs ++ ys, a.k ≠ e.k := fun a ha e2 => hp.1 (List.mem_map.2 ⟨a, ha, e2⟩)
  have e1 : pl (xs ++ e :: ys) = pl xs ++ (e.k, e.v) :: pl ys := by unfold pl; rw [List.map_append]; rfl
  have e2 : pl (xs ++ ys) = pl xs ++ pl ys := by unfold pl; rw [List.map_append]
  have h1 := but_none (es := xs) (k := e.k) (fun a ha => h a (List.mem_append.2 (.inl ha)))
  have h2 := but_none (es := ys) (k := e.k) (fun a ha => h a (List.mem_append.2 (.inr ha)))
  rw [e1, e2]
  unfold but at *
  rw [List.filter_append, List.filter_cons, if_neg (by simp), h1, h2]
theorem find_none_ {es : List En} {k : Int} (h : ∀ a ∈ es, a.k ≠ k) : find (pl es) k = none := by
  unfold find pl
  rw [List.find?_eq_none.2]
  · rfl
  · intro p hp
    obtain ⟨a, ha, rfl⟩ := List.mem_map.1 hp
    simp [h a ha]
theorem find_split_ {xs ys : List En} {e : En} (hn : ((xs ++ e :: ys).map En.k).Nodup) : find (pl (xs ++ e :: ys)) e.k = some e.v := by
  have hp := ((front_perm e xs ys).map En.k).nodup_iff.1 hn
  rw [List.map_cons, List.nodup_cons] at hp
  have h : ∀ a ∈ xs, a.k ≠ e.k := fun a ha e2 => hp.1 (List.mem_map.2 ⟨a, List.mem_append.2 (.inl ha), e2⟩)
  have e1 : pl (xs ++ e :: ys) = pl xs ++ (e.k, e.v) :: pl ys := by unfold pl; rw [List.map_append]; rfl
  unfold find
  rw [e1, List.find?_append]
  have hx : (pl xs).find? (fun p => decide (p.1 = e.k)) = none := by
    rw [List.find?_eq_none]
    intro p hp
    obtain ⟨a, ha, rfl⟩ := List.mem_map.1 hp
    simp [h a ha]
  rw [hx]
  simp
theorem ins_lt {es : List En} {sz k v : Int} (h : (es.length : Int) < sz) : ins sz (pl es) k v = (k, v) :: pl es := by unfold ins; rw [pl_len, if_pos h]
theorem ins_ge {xs : List En} {e : En} {sz k v : Int} (h : sz ≤ ((xs ++ [e]).length : Int)) : ins sz (pl (xs ++ [e])) k v = (k, v) :: pl xs := by
  unfold ins
  rw [pl_len, if_neg (by omega)]
  have : pl (xs ++ [e]) = pl xs ++ [(e.k, e.v)] := by unfold pl; rw [List.map_append]; rfl
  rw [this, List.dropLast_concat]
end Go.Proofs.Ytjhmcpdnmfhodaa.Lcp
