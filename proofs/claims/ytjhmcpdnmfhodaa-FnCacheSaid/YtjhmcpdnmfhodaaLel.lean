/- The plain law: what the cache's calls give is what the specification's give (the one has the latest first, the other the eldest). -/
import Derived.Test.YtjhmcpdnmfhodaaLeB
import Derived.Test.YtjhmcpdnmfhodaaSpB
namespace Go.Proofs.Ytjhmcpdnmfhodaa.Lel
open Go Go.RowKit Lcp Spm Spt Spu Sps Lef Lec Flt

structure Inv (n : Int) (l : List (Int × Int)) : Prop where
  nd : (l.map Prod.fst).Nodup
  len : (l.length : Int) ≤ n
theorem find_cases {l : List (Int × Int)} (hn : (l.map Prod.fst).Nodup) (k : Int) : (find l k = none ∧ ∀ p ∈ l, p.1 ≠ k) ∨ ∃ xs y ys, l = xs ++ (k, y) :: ys ∧ find l k = some y ∧ but l k = xs ++ ys ∧ ∀ p ∈ xs ++ ys, p.1 ≠ k := by
  unfold find
  cases hf : l.find? (fun p => decide (p.1 = k)) with
  | none => exact .inl ⟨rfl, fun p hp => by simpa using List.find?_eq_none.1 hf p hp⟩
  | some e =>
    obtain ⟨k', y⟩ := e
    have hk : k' = k := by simpa using List.find?_some hf
    subst hk
    obtain ⟨xs, ys, rfl⟩ := List.append_of_mem (List.mem_of_find?_eq_some hf)
    have hp : ∀ p ∈ xs ++ ys, p.1 ≠ k' := by
      have h1 := ((List.perm_middle (a := (k', y)) (l₁ := xs) (l₂ := ys)).map Prod.fst).nodup_iff.1 hn
      rw [List.map_cons, List.nodup_cons] at h1
      exact fun p hp e => h1.1 (List.mem_map.2 ⟨p, hp, e⟩)
    refine .inr ⟨xs, y, ys, rfl, rfl, ?_, hp⟩
    have e1 : xs.filter (fun p => decide (p.1 ≠ k')) = xs := List.filter_eq_self.2 (fun p h => decide_eq_true (hp p (List.mem_append.2 (.inl h))))
    have e2 : ys.filter (fun p => decide (p.1 ≠ k')) = ys := List.filter_eq_self.2 (fun p h => decide_eq_true (hp p (List.mem_append.2 (.inr h))))
    unfold but
    rw [List.filter_append, List.filter_cons, if_neg (by simp), e1, e2]
theorem place_miss {l : List (Int × Int)} {k : Int} (h : ∀ p ∈ l, p.1 ≠ k) : place l.reverse k l.reverse.length = -1 := place_none l.reverse [] (fun p hp => h p (List.mem_reverse.1 hp))
theorem rev_split (xs ys : List (Int × Int)) (p : Int × Int) : (xs ++ p :: ys).reverse = ys.reverse ++ p :: xs.reverse := by simp
theorem place_hit {xs ys : List (Int × Int)} {k y : Int} (h : ∀ p ∈ xs ++ ys, p.1 ≠ k) : place (xs ++ (k, y) :: ys).reverse k (xs ++ (k, y) :: ys).reverse.length = ((ys.length : Nat) : Int) := by
  rw [rev_split]
  have := place_some (k := k) (k, y) rfl xs.reverse ys.reverse [] (fun q hq => h q (List.mem_append.2 (.inr (List.mem_reverse.1 hq))))
  simpa using this
theorem erase_hit (xs ys : List (Int × Int)) (p : Int × Int) : (xs ++ p :: ys).reverse.eraseIdx ys.length = (xs ++ ys).reverse := by
  rw [rev_split, List.eraseIdx_append_of_length_le (by simp)]
  simp
theorem get_hit (xs ys : List (Int × Int)) (p : Int × Int) : (xs ++ p :: ys).reverse.getD ys.length (0, 0) = p := by
  rw [rev_split, List.getD_eq_getElem?_getD, List.getElem?_append_right (by simp)]
  simp
theorem cut_hit {xs ys : List (Int × Int)} {k y : Int} (h : ∀ p ∈ xs ++ ys, p.1 ≠ k) : cut1 (xs ++ (k, y) :: ys).reverse k = (xs ++ ys).reverse := by
  unfold cut1
  rw [place_hit h, if_pos (by omega), Int.toNat_natCast, erase_hit]
theorem cut_miss {l : List (Int × Int)} {k : Int} (h : ∀ p ∈ l, p.1 ≠ k) : cut1 l.reverse k = l.reverse := by
  unfold cut1
  rw [place_miss h, if_neg (by omega)]
theorem put_hit {n : Int} {xs ys : List (Int × Int)} {k y u : Int} (h : ∀ p ∈ xs ++ ys, p.1 ≠ k) (hl : ((xs ++ (k, y) :: ys).length : Int) ≤ n) : put1 n (xs ++ (k, y) :: ys).reverse k u = ((k, u) :: (xs ++ ys)).reverse ∧ gone1 n (xs ++ (k, y) :: ys).reverse k = [] := by
  have hlt : ¬ n ≤ ((xs ++ ys).reverse.length : Int) := by simp at hl ⊢; omega
  unfold put1 gone1
  rw [cut_hit h, if_neg hlt, if_neg hlt]
  exact ⟨by simp, rfl⟩
theorem put_lt {n : Int} {l : List (Int × Int)} {k u : Int} (h : ∀ p ∈ l, p.1 ≠ k) (hl : (l.length : Int) < n) : put1 n l.reverse k u = ((k, u) :: l).reverse ∧ gone1 n l.reverse k = [] := by
  have hlt : ¬ n ≤ (l.reverse.length : Int) := by simp; omega
  unfold put1 gone1
  rw [cut_miss h, if_neg hlt, if_neg hlt]
  exact ⟨by simp, rfl⟩
theorem put_ge {n : Int} {m : List (Int × Int)} {p : Int × Int} {k u : Int} (h : ∀ q ∈ m ++ [p], q.1 ≠ k) (hl : n ≤ ((m ++ [p]).length : Int)) : put1 n (m ++ [p]).reverse k u = ((k, u) :: m).reverse ∧ gone1 n (m ++ [p]).reverse k = [p] := by
  have hge : n ≤ ((m ++ [p]).reverse.length : Int) := by simp at hl ⊢; omega
  unfold put1 gone1
  rw [cut_miss h, if_pos hge, if_pos hge]
  exact ⟨by simp, by simp⟩
theorem snoc2 (l : List (Int × Int)) : l = [] ∨ ∃ m p, l = m ++ [p] := by
  rcases List.eq_nil_or_concat l with h | ⟨m, p, h⟩
  · exact .inl h
  · exact .inr ⟨m, p, by simpa using h⟩
/-- the two give the same -/
structure Sim (n : Int) (s : St) (x : Op3) (t' : Sp) (o : So) : Prop where
  l : t'.l = (Lcp.step n s x).1.l.reverse
  h : t'.h = (Lcp.step n s x).1.h
  m : t'.m = (Lcp.step n s x).1.m
  ok : o.ok = (Lcp.step n s x).2.ok
  key : o.key = (Lcp.step n s x).2.key
  val : o.val = (Lcp.step n s x).2.val
  asked : o.asked = (Lcp.step n s x).2.asked
  rate : o.rate = rateOf s x
  gone : o.gone.Perm (goneOf n s x)
  eq : x.d ≠ 5 → o.gone = goneOf n s x
  inv : Inv n (Lcp.step n s x).1.l
theorem inv_hit {n : Int} {xs ys : List (Int × Int)} {k y u : Int} (h : Inv n (xs ++ (k, y) :: ys)) (hp : ∀ p ∈ xs ++ ys, p.1 ≠ k) : Inv n ((k, u) :: (xs ++ ys)) ∧ Inv n (xs ++ ys) := by
  have h1 := ((List.perm_middle (a := (k, y)) (l₁ := xs) (l₂ := ys)).map Prod.fst).nodup_iff.1 h.nd
  rw [List.map_cons, List.nodup_cons] at h1
  have h2 := h.len
  refine ⟨⟨by rw [List.map_cons, List.nodup_cons]; exact ⟨h1.1, h1.2⟩, by simp at h2 ⊢; omega⟩, ⟨h1.2, by simp at h2 ⊢; omega⟩⟩
theorem inv_new {n : Int} {l : List (Int × Int)} {k u : Int} (h : Inv n l) (hp : ∀ p ∈ l, p.1 ≠ k) (hl : (l.length : Int) < n) : Inv n ((k, u) :: l) :=
  ⟨by rw [List.map_cons, List.nodup_cons]; exact ⟨fun hm => by obtain ⟨p, hp2, e⟩ := List.mem_map.1 hm; exact hp p hp2 e, h.nd⟩, by simp; omega⟩
theorem inv_init {n : Int} {m : List (Int × Int)} {p : Int × Int} (h : Inv n (m ++ [p])) : Inv n m ∧ (m.length : Int) < n := by
  have h1 := h.nd
  rw [List.map_append, List.nodup_append] at h1
  have h2 := h.len
  exact ⟨⟨h1.1, by simp at h2; omega⟩, by simp at h2; omega⟩
theorem sim (n : Int) (hn : 0 < n) (s : St) (hI : Inv n s.l) (x : Op3) (hd : 0 ≤ x.d ∧ x.d ≤ 8) : Sim n s x (sstep n ⟨s.l.reverse, s.h, s.m⟩ x).1 (sstep n ⟨s.l.reverse, s.h, s.m⟩ x).2 := by
  obtain ⟨d, k, u⟩ := x
  obtain ⟨l, h, m⟩ := s
  simp only at hd hI
  obtain rfl | rfl | rfl | rfl | rfl | rfl | rfl | rfl | rfl : d = 0 ∨ d = 1 ∨ d = 2 ∨ d = 3 ∨ d = 4 ∨ d = 5 ∨ d = 6 ∨ d = 7 ∨ d = 8 := by omega
  · -- Add
    have hs : sstep n ⟨l.reverse, h, m⟩ ⟨0, k, u⟩ = (⟨put1 n l.reverse k u, h, m⟩, ⟨decide (0 < (gone1 n l.reverse k).length), 0, 0, 0, false, gone1 n l.reverse k⟩) := rfl
    rcases find_cases hI.nd k with ⟨hf, hp⟩ | ⟨xs, y, ys, rfl, hf, hb, hp⟩
    · have hg : goneOf n ⟨l, h, m⟩ ⟨0, k, u⟩ = if (l.length : Int) < n then [] else l.getLast?.toList := by unfold goneOf; rw [if_pos (.inl rfl)]; simp only [hf]
      have ht : Lcp.step n ⟨l, h, m⟩ ⟨0, k, u⟩ = (⟨ins n l k u, h, m⟩, ⟨decide (n ≤ (l.length : Int)), 0, 0, false⟩) := by unfold Lcp.step; rw [if_pos rfl]; simp only [hf]
      by_cases hlt : (l.length : Int) < n
      · obtain ⟨q1, q2⟩ := put_lt (u := u) hp hlt
        have hi : ins n l k u = (k, u) :: l := if_pos hlt
        rw [hs, q1, q2]
        refine ⟨?_, ?_, ?_, ?_, ?_, ?_, ?_, rfl, ?_, fun _ => ?_, ?_⟩ <;> (try rw [ht]) <;> (try rw [hg, if_pos hlt]) <;> (try rw [hi]) <;> (first | rfl | skip)
        · exact (decide_eq_false (show ¬ n ≤ (l.length : Int) by omega)).symm
        · exact inv_new hI hp hlt
      · obtain rfl | ⟨q, p, rfl⟩ := snoc2 l
        · exact absurd (show ((0 : Nat) : Int) < n by omega) hlt
        · have hge : n ≤ ((q ++ [p]).length : Int) := by omega
          obtain ⟨q1, q2⟩ := put_ge (u := u) hp hge
          have hi : ins n (q ++ [p]) k u = (k, u) :: q := by unfold ins; rw [if_neg hlt, List.dropLast_concat]
          rw [hs, q1, q2]
          refine ⟨?_, ?_, ?_, ?_, ?_, ?_, ?_, rfl, ?_, fun _ => ?_, ?_⟩ <;> (try rw [ht]) <;> (try rw [hg, if_neg hlt, List.getLast?_concat]) <;> (try rw [hi]) <;> (first | rfl | skip)
          · exact (decide_eq_true hge).symm
          · exact inv_new (inv_init hI).1 (fun a ha => hp a (by simp [ha])) (inv_init hI).2
    · have hg : goneOf n ⟨xs ++ (k, y) :: ys, h, m⟩ ⟨0, k, u⟩ = [] := by unfold goneOf; rw [if_pos (.inl rfl)]; simp only [hf]
      have ht : Lcp.step n ⟨xs ++ (k, y) :: ys, h, m⟩ ⟨0, k, u⟩ = (⟨(k, u) :: (xs ++ ys), h, m⟩, o0) := by unfold Lcp.step; rw [if_pos rfl]; simp only [hf, hb]
      obtain ⟨q1, q2⟩ := put_hit (u := u) hp hI.len
      rw [hs, q1, q2]
      refine ⟨?_, ?_, ?_, ?_, ?_, ?_, ?_, rfl, ?_, fun _ => ?_, ?_⟩ <;> (try rw [ht]) <;> (try rw [hg]) <;> (first | rfl | skip)
      exact (inv_hit hI hp).1
  · -- Get
    have hg : goneOf n ⟨l, h, m⟩ ⟨1, k, u⟩ = [] := by unfold goneOf; rw [if_neg (by simp), if_neg (by simp), if_neg (by simp)]
    rcases find_cases hI.nd k with ⟨hf, hp⟩ | ⟨xs, y, ys, rfl, hf, hb, hp⟩
    · have ht : Lcp.step n ⟨l, h, m⟩ ⟨1, k, u⟩ = (⟨l, h, wrap64 (m + 1)⟩, o0) := by unfold Lcp.step; rw [if_neg (by simp), if_pos rfl]; simp only [hf]
      have hs : sstep n ⟨l.reverse, h, m⟩ ⟨1, k, u⟩ = (⟨l.reverse, h, wrap64 (m + 1)⟩, so0) := if_neg (show ¬ 0 ≤ place l.reverse k l.reverse.length by rw [place_miss hp]; omega)
      rw [hs]
      refine ⟨?_, ?_, ?_, ?_, ?_, ?_, ?_, rfl, ?_, fun _ => ?_, ?_⟩ <;> (try rw [ht]) <;> (try rw [hg]) <;> (first | rfl | skip)
      exact hI
    · have ht : Lcp.step n ⟨xs ++ (k, y) :: ys, h, m⟩ ⟨1, k, u⟩ = (⟨(k, y) :: (xs ++ ys), wrap64 (h + 1), m⟩, ⟨true, 0, y, false⟩) := by unfold Lcp.step; rw [if_neg (by simp), if_pos rfl]; simp only [hf, hb]
      have hs : sstep n ⟨(xs ++ (k, y) :: ys).reverse, h, m⟩ ⟨1, k, u⟩ = (⟨((k, y) :: (xs ++ ys)).reverse, wrap64 (h + 1), m⟩, ⟨true, 0, y, 0, false, []⟩) := by
        refine (if_pos (show 0 ≤ place (xs ++ (k, y) :: ys).reverse k (xs ++ (k, y) :: ys).reverse.length by rw [place_hit hp]; omega)).trans ?_
        simp only [place_hit hp, Int.toNat_natCast, erase_hit, get_hit, List.reverse_cons]
      rw [hs]
      refine ⟨?_, ?_, ?_, ?_, ?_, ?_, ?_, rfl, ?_, fun _ => ?_, ?_⟩ <;> (try rw [ht]) <;> (try rw [hg]) <;> (first | rfl | skip)
      exact (inv_hit hI hp).1
  · -- GetOrCompute
    rcases find_cases hI.nd k with ⟨hf, hp⟩ | ⟨xs, y, ys, rfl, hf, hb, hp⟩
    · have hg : goneOf n ⟨l, h, m⟩ ⟨2, k, u⟩ = if (l.length : Int) < n then [] else l.getLast?.toList := by unfold goneOf; rw [if_pos (.inr rfl)]; simp only [hf]
      have ht : Lcp.step n ⟨l, h, m⟩ ⟨2, k, u⟩ = (⟨ins n l k u, h, wrap64 (m + 1)⟩, ⟨false, 0, u, true⟩) := by unfold Lcp.step; rw [if_neg (by simp), if_neg (by simp), if_pos rfl]; simp only [hf]
      have hs : sstep n ⟨l.reverse, h, m⟩ ⟨2, k, u⟩ = (⟨put1 n l.reverse k u, h, wrap64 (m + 1)⟩, ⟨false, 0, u, 0, true, gone1 n l.reverse k⟩) := if_neg (show ¬ 0 ≤ place l.reverse k l.reverse.length by rw [place_miss hp]; omega)
      by_cases hlt : (l.length : Int) < n
      · obtain ⟨q1, q2⟩ := put_lt (u := u) hp hlt
        have hi : ins n l k u = (k, u) :: l := if_pos hlt
        rw [hs, q1, q2]
        refine ⟨?_, ?_, ?_, ?_, ?_, ?_, ?_, rfl, ?_, fun _ => ?_, ?_⟩ <;> (try rw [ht]) <;> (try rw [hg, if_pos hlt]) <;> (try rw [hi]) <;> (first | rfl | skip)
        exact inv_new hI hp hlt
      · obtain rfl | ⟨q, p, rfl⟩ := snoc2 l
        · exact absurd (show ((0 : Nat) : Int) < n by omega) hlt
        · have hge : n ≤ ((q ++ [p]).length : Int) := by omega
          obtain ⟨q1, q2⟩ := put_ge (u := u) hp hge
          have hi : ins n (q ++ [p]) k u = (k, u) :: q := by unfold ins; rw [if_neg hlt, List.dropLast_concat]
          rw [hs, q1, q2]
          refine ⟨?_, ?_, ?_, ?_, ?_, ?_, ?_, rfl, ?_, fun _ => ?_, ?_⟩ <;> (try rw [ht]) <;> (try rw [hg, if_neg hlt, List.getLast?_concat]) <;> (try rw [hi]) <;> (first | rfl | skip)
          exact inv_new (inv_init hI).1 (fun a ha => hp a (by simp [ha])) (inv_init hI).2
    · have hg : goneOf n ⟨xs ++ (k, y) :: ys, h, m⟩ ⟨2, k, u⟩ = [] := by unfold goneOf; rw [if_pos (.inr rfl)]; simp only [hf]
      have ht : Lcp.step n ⟨xs ++ (k, y) :: ys, h, m⟩ ⟨2, k, u⟩ = (⟨(k, y) :: (xs ++ ys), wrap64 (h + 1), m⟩, ⟨false, 0, y, false⟩) := by unfold Lcp.step; rw [if_neg (by simp), if_neg (by simp), if_pos rfl]; simp only [hf, hb]
      have hs : sstep n ⟨(xs ++ (k, y) :: ys).reverse, h, m⟩ ⟨2, k, u⟩ = (⟨((k, y) :: (xs ++ ys)).reverse, wrap64 (h + 1), m⟩, ⟨false, 0, y, 0, false, []⟩) := by
        refine (if_pos (show 0 ≤ place (xs ++ (k, y) :: ys).reverse k (xs ++ (k, y) :: ys).reverse.length by rw [place_hit hp]; omega)).trans ?_
        simp only [place_hit hp, Int.toNat_natCast, erase_hit, get_hit, List.reverse_cons]
      rw [hs]
      refine ⟨?_, ?_, ?_, ?_, ?_, ?_, ?_, rfl, ?_, fun _ => ?_, ?_⟩ <;> (try rw [ht]) <;> (try rw [hg]) <;> (first | rfl | skip)
      exact (inv_hit hI hp).1
  · -- Remove
    have hg : goneOf n ⟨l, h, m⟩ ⟨3, k, u⟩ = [] := by unfold goneOf; rw [if_neg (by simp), if_neg (by simp), if_neg (by simp)]
    rcases find_cases hI.nd k with ⟨hf, hp⟩ | ⟨xs, y, ys, rfl, hf, hb, hp⟩
    · have ht : Lcp.step n ⟨l, h, m⟩ ⟨3, k, u⟩ = (⟨l, h, m⟩, o0) := by unfold Lcp.step; rw [if_neg (by simp), if_neg (by simp), if_neg (by simp), if_pos rfl]; simp only [hf]
      have hs : sstep n ⟨l.reverse, h, m⟩ ⟨3, k, u⟩ = (⟨l.reverse, h, m⟩, so0) := if_neg (show ¬ 0 ≤ place l.reverse k l.reverse.length by rw [place_miss hp]; omega)
      rw [hs]
      refine ⟨?_, ?_, ?_, ?_, ?_, ?_, ?_, rfl, ?_, fun _ => ?_, ?_⟩ <;> (try rw [ht]) <;> (try rw [hg]) <;> (first | rfl | skip)
      exact hI
    · have ht : Lcp.step n ⟨xs ++ (k, y) :: ys, h, m⟩ ⟨3, k, u⟩ = (⟨xs ++ ys, h, m⟩, ⟨true, 0, 0, false⟩) := by unfold Lcp.step; rw [if_neg (by simp), if_neg (by simp), if_neg (by simp), if_pos rfl]; simp only [hf, hb]
      have hs : sstep n ⟨(xs ++ (k, y) :: ys).reverse, h, m⟩ ⟨3, k, u⟩ = (⟨(xs ++ ys).reverse, h, m⟩, ⟨true, 0, 0, 0, false, []⟩) := by
        refine (if_pos (show 0 ≤ place (xs ++ (k, y) :: ys).reverse k (xs ++ (k, y) :: ys).reverse.length by rw [place_hit hp]; omega)).trans ?_
        simp only [place_hit hp, Int.toNat_natCast, erase_hit]
      rw [hs]
      refine ⟨?_, ?_, ?_, ?_, ?_, ?_, ?_, rfl, ?_, fun _ => ?_, ?_⟩ <;> (try rw [ht]) <;> (try rw [hg]) <;> (first | rfl | skip)
      exact (inv_hit (u := u) hI hp).2
  · -- RemoveOldest
    have hg : goneOf n ⟨l, h, m⟩ ⟨4, k, u⟩ = l.getLast?.toList := by unfold goneOf; rw [if_neg (by simp), if_pos rfl]
    obtain rfl | ⟨q, p, rfl⟩ := snoc2 l
    · have ht : Lcp.step n ⟨[], h, m⟩ ⟨4, k, u⟩ = (⟨[], h, m⟩, o0) := rfl
      have hs : sstep n ⟨[], h, m⟩ ⟨4, k, u⟩ = (⟨[], h, m⟩, so0) := rfl
      rw [show (([] : List (Int × Int)).reverse) = [] from rfl, hs]
      refine ⟨?_, ?_, ?_, ?_, ?_, ?_, ?_, rfl, ?_, fun _ => ?_, ?_⟩ <;> (try rw [ht]) <;> (try rw [hg]) <;> (first | rfl | skip)
      exact hI
    · have ht : Lcp.step n ⟨q ++ [p], h, m⟩ ⟨4, k, u⟩ = (⟨q, h, m⟩, ⟨true, p.1, p.2, false⟩) := by
        unfold Lcp.step
        rw [if_neg (by simp), if_neg (by simp), if_neg (by simp), if_neg (by simp), if_pos rfl]
        simp only [List.getLast?_concat, List.dropLast_concat]
      have hs : sstep n ⟨(q ++ [p]).reverse, h, m⟩ ⟨4, k, u⟩ = (⟨q.reverse, h, m⟩, ⟨true, p.1, p.2, 0, false, [p]⟩) := by
        refine (if_neg (show ¬ (q ++ [p]).reverse.length = 0 by simp)).trans ?_
        simp
      rw [List.getLast?_concat] at hg
      rw [hs]
      refine ⟨?_, ?_, ?_, ?_, ?_, ?_, ?_, rfl, ?_, fun _ => ?_, ?_⟩ <;> (try rw [ht]) <;> (try rw [hg]) <;> (first | rfl | skip)
      exact (inv_init hI).1
  · -- Purge
    have hg : goneOf n ⟨l, h, m⟩ ⟨5, k, u⟩ = l := by unfold goneOf; rw [if_neg (by simp), if_neg (by simp), if_pos rfl]
    have ht : Lcp.step n ⟨l, h, m⟩ ⟨5, k, u⟩ = (⟨[], 0, 0⟩, o0) := rfl
    have hs : sstep n ⟨l.reverse, h, m⟩ ⟨5, k, u⟩ = (⟨[], 0, 0⟩, ⟨false, 0, 0, 0, false, l.reverse⟩) := rfl
    rw [hs]
    refine ⟨?_, ?_, ?_, ?_, ?_, ?_, ?_, rfl, ?_, fun hc => absurd rfl hc, ?_⟩ <;> (try rw [ht]) <;> (try rw [hg]) <;> (first | rfl | skip)
    · exact List.reverse_perm l
    · exact ⟨List.nodup_nil, by simp; omega⟩
  · have hg : goneOf n ⟨l, h, m⟩ ⟨6, k, u⟩ = [] := by unfold goneOf; rw [if_neg (by simp), if_neg (by simp), if_neg (by simp)]
    have ht : Lcp.step n ⟨l, h, m⟩ ⟨6, k, u⟩ = (⟨l, h, m⟩, ⟨false, 0, l.length, false⟩) := rfl
    have hs : sstep n ⟨l.reverse, h, m⟩ ⟨6, k, u⟩ = (⟨l.reverse, h, m⟩, ⟨false, 0, l.length, 0, false, []⟩) := by
      have : sstep n ⟨l.reverse, h, m⟩ ⟨6, k, u⟩ = (⟨l.reverse, h, m⟩, ⟨false, 0, l.reverse.length, 0, false, []⟩) := rfl
      rw [this, List.length_reverse]
    rw [hs]
    refine ⟨?_, ?_, ?_, ?_, ?_, ?_, ?_, rfl, ?_, fun _ => ?_, ?_⟩ <;> (try rw [ht]) <;> (try rw [hg]) <;> (first | rfl | skip)
    exact hI
  · have hg : goneOf n ⟨l, h, m⟩ ⟨7, k, u⟩ = [] := by unfold goneOf; rw [if_neg (by simp), if_neg (by simp), if_neg (by simp)]
    have ht : Lcp.step n ⟨l, h, m⟩ ⟨7, k, u⟩ = (⟨l, h, m⟩, ⟨false, 0, n, false⟩) := rfl
    have hs : sstep n ⟨l.reverse, h, m⟩ ⟨7, k, u⟩ = (⟨l.reverse, h, m⟩, ⟨false, 0, n, 0, false, []⟩) := rfl
    rw [hs]
    refine ⟨?_, ?_, ?_, ?_, ?_, ?_, ?_, rfl, ?_, fun _ => ?_, ?_⟩ <;> (try rw [ht]) <;> (try rw [hg]) <;> (first | rfl | skip)
    exact hI
  · have hg : goneOf n ⟨l, h, m⟩ ⟨8, k, u⟩ = [] := by unfold goneOf; rw [if_neg (by simp), if_neg (by simp), if_neg (by simp)]
    have ht : Lcp.step n ⟨l, h, m⟩ ⟨8, k, u⟩ = (⟨l, h, m⟩, o0) := rfl
    have hs : sstep n ⟨l.reverse, h, m⟩ ⟨8, k, u⟩ = (⟨l.reverse, h, m⟩, ⟨false, 0, 0, rt h m, false, []⟩) := rfl
    rw [hs]
    refine ⟨?_, ?_, ?_, ?_, ?_, ?_, ?_, rfl, ?_, fun _ => ?_, ?_⟩ <;> (try rw [ht]) <;> (try rw [hg]) <;> (first | rfl | skip)
    exact hI
/-- the specification's state behind i calls -/
theorem inv_at (n : Int) (hn : 0 < n) (ops : List Op3) (hd : ∀ x ∈ ops, 0 ≤ x.d ∧ x.d ≤ 8) : ∀ i, i ≤ ops.length → Inv n (stAt n ops i).l
  | 0, _ => by
    show Inv n (Lcp.run n ⟨[], 0, 0⟩ (ops.take 0)).1.l
    rw [List.take_zero]
    exact ⟨List.nodup_nil, by show ((0 : Nat) : Int) ≤ n; omega⟩
  | i + 1, h => by
    have ih := inv_at n hn ops hd i (by omega)
    obtain ⟨x, hx⟩ : ∃ x, ops[i]? = some x := ⟨_, List.getElem?_eq_getElem (by omega)⟩
    have ht : ops.take (i + 1) = ops.take i ++ [x] := by rw [List.take_add_one, hx]; rfl
    have hr : stAt n ops (i + 1) = (Lcp.step n (stAt n ops i) x).1 := by
      show (Lcp.run n ⟨[], 0, 0⟩ (ops.take (i + 1))).1 = _
      rw [ht, run_snoc]
    rw [hr]
    exact (sim n hn (stAt n ops i) ih x (hd x (List.mem_of_getElem? hx))).inv
theorem stAt_next {n : Int} {ops : List Op3} {i : Nat} {x : Op3} (hx : ops[i]? = some x) : stAt n ops (i + 1) = (Lcp.step n (stAt n ops i) x).1 := by
  have ht : ops.take (i + 1) = ops.take i ++ [x] := by rw [List.take_add_one, hx]; rfl
  show (Lcp.run n ⟨[], 0, 0⟩ (ops.take (i + 1))).1 = _
  rw [ht, run_snoc]
end Go.Proofs.Ytjhmcpdnmfhodaa.Lel
