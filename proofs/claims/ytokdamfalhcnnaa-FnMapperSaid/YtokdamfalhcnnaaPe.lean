/- The calls on a map, nil or not, as TwMapper makes them. -/
import Derived.Test.YtokdamfalhcnnaaPcA
import Derived.Test.YtokdamfalhcnnaaSkA
import Derived.Test.YtokdamfalhcnnaaRi
namespace Go.Proofs.Ytokdamfalhcnnaa.Pe
open Go Go.Maps Go.ChangeMaps Go.MapKept Go.RowKit Go.Proofs.YtokdamfalhcnnaaW.PrintWords Go.Proofs.YtokdamfalhcnnaaW.PrintLast Go.Proofs.YtokdamfalhcnnaaW.PrintMore GMpBody Mp Mq Ms Mt Mu Small Mv Mo Mw Mx Pa Pb Pc Pd Sl Ri

set_option linter.all false
set_option maxRecDepth 1000000
set_option maxHeartbeats 4000000
def sp (p : Pr) : S29 := ⟨p.1, p.2⟩
def sps (ps : List Pr) : List S29 := ps.map sp
theorem sps_len (ps : List Pr) : (sps ps).length = ps.length := by unfold sps; simp
variable {B : Nat} {w w' : World} {v mv : Value} {ps : List Pr} {l : List Int}
theorem row_cell {t : TypeId} {s n g cap : Nat} {xs : List Value} (ho : w.ownsRow B t s (.slice (some ⟨g, 0, none⟩) n cap) n xs) (j : Nat) (u : Value) (hj : xs[j]? = some u) : w.cell? ⟨g, j, none⟩ = some u := by
  rcases ho.2 with ⟨h, _⟩ | ⟨g', cap', cur, hv, hB, hgw, hcap, hmx, hcs, hcur⟩
  · cases h
  cases hv
  rw [← hcur, List.getElem?_take] at hj
  rw [Lib.cell_of_heap hgw]
  split at hj
  · rw [← Array.getElem?_toList]; exact hj
  · cases hj
theorem row_form {t : TypeId} {s n : Nat} {xs : List Value} (ho : w.ownsRow B t s v n xs) : (v = .slice none 0 0 ∧ n = 0) ∨ ∃ g cap, v = .slice (some ⟨g, 0, none⟩) n cap ∧ n ≤ cap ∧ cap ≤ maxLen := by
  rcases ho.2 with h | ⟨g', cap', cur, hv, hB, hgw, hcap, hmx, hcs, hcur⟩
  · exact .inl h
  · exact .inr ⟨_, _, hv, hcap, hmx⟩
theorem reads3 (ho : w.ownsRow B 3 1 v l.length (ints l)) (hl : l.length ≤ 100000) : ∃ A c, v = .slice A l.length c ∧ l.length ≤ c ∧ Kd.C (Kd.int .i64) w A l.length l ∧ ∀ ad, A = some ad → B ≤ ad.block := by
  rcases row_form ho with ⟨rfl, h0⟩ | ⟨g, cap, rfl, hc, hm⟩
  · obtain rfl := List.length_eq_zero_iff.1 h0
    exact ⟨none, 0, rfl, Nat.le_refl _, Kd.C_nil _ _, fun ad e => by cases e⟩
  · exact ⟨_, cap, rfl, hc, reads_ints hl (fun j x hj => row_cell ho j _ (by unfold ints; rw [List.getElem?_map, hj]; rfl)), fun ad e => by injection e with e; rw [← e]; exact (ho.lt g rfl).1⟩
theorem reads29 (ho : w.ownsRow B 29 2 v ps.length (pcs ps)) (hl : ps.length ≤ 100000) : ∃ A c, v = .slice A (sps ps).length c ∧ (sps ps).length ≤ c ∧ Kd.C k29 w A (sps ps).length (sps ps) ∧ ∀ ad, A = some ad → B ≤ ad.block := by
  rw [sps_len]
  rcases row_form ho with ⟨rfl, h0⟩ | ⟨g, cap, rfl, hc, hm⟩
  · obtain rfl := List.length_eq_zero_iff.1 h0
    exact ⟨none, 0, rfl, Nat.le_refl _, Kd.C_nil _ _, fun ad e => by cases e⟩
  · refine ⟨_, cap, rfl, hc, ⟨sps_len ps, by omega, fun _ => ⟨_, rfl, fun j p hj => ⟨_, rfl, k29_mk w p, fun i u hi => ?_⟩⟩⟩, fun ad e => by injection e with e; rw [← e]; exact (ho.lt g rfl).1⟩
    have hjl : j < ps.length := by rw [← sps_len ps]; exact (List.getElem?_eq_some_iff.1 hj).1
    have hp : p = sp ps[j] := by
      unfold sps at hj
      rw [List.getElem?_map, List.getElem?_eq_getElem hjl] at hj
      simpa using hj.symm
    subst hp
    have h2 := pcs_at ps j hjl
    have e : ∀ q, ((⟨g, 0, none⟩ : Addr).add q) = ⟨g, q, none⟩ := fun q => by simp [Addr.add]; exact Eq.symm
    match i with
    | 0 =>
      obtain rfl : Value.int .i64 ps[j].1 = u := by simpa [sp] using hi
      show w.cell? ((⟨g, 0, none⟩ : Addr).add (j * 2 + 0)) = _
      rw [e, Nat.add_zero]
      exact row_cell ho _ _ h2.1
    | 1 =>
      obtain rfl : Value.int .i64 ps[j].2 = u := by simpa [sp] using hi
      show w.cell? ((⟨g, 0, none⟩ : Addr).add (j * 2 + 1)) = _
      rw [e]
      exact row_cell ho _ _ h2.2
    | i + 2 => simp at hi
/-- a map, nil or not, told as pairs -/
def Mv (B : Nat) (w : World) (mv : Value) (nn : Bool) (ps : List Pr) : Prop := (nn = true ∧ mv = .map none ∧ ps = []) ∨ (nn = false ∧ ∃ b, mv = .map (some b) ∧ B ≤ b ∧ Mq b w ps)
variable {nn : Bool}
theorem Mv.below (h : Mv B w mv nn ps) (hb : Below w.heap.size w w') : Mv B w' mv nn ps := by
  rcases h with h | ⟨h0, b, h1, h2, h3⟩
  · exact .inl h
  · exact .inr ⟨h0, b, h1, h2, h3.of_heap (hb.block b h3.lt)⟩
theorem Mv.kept {F : Nat} {cs : Array Value} {t : TypeId} (h : Mv B w mv nn ps) (hg : w.grownBy w' (some F)) (hF : w.heap[F]? = some (.cells cs t (0, 0))) : Mv B w' mv nn ps := by
  rcases h with h | ⟨h0, b, h1, h2, h3⟩
  · exact .inl h
  · exact .inr ⟨h0, b, h1, h2, h3.of_heap (hg.block b h3.lt (fun e => h3.ne_cells hF (Option.some.inj e).symm))⟩
def step (nn : Bool) (ps : List Pr) (d k v : Int) (l : List Int) : List Pr := if nn then ps else doneP ps d k v l
theorem mappedV {d k v : Int} {A : Option Addr} {c : Nat} (h : Mv B w mv nn ps) (hB : B ≤ w.heap.size) (hs : Srt ps) (hl : ps.length ≤ 90000) (hr : Rd w k v A c l) (hd : 0 ≤ d ∧ d ≤ 7) (hn : nn = true → d ≤ 1) :
    Calls Try.prog 18 #[mv, .agg #[.int .i64 d, .int .i64 k, .int .i64 v, .slice A l.length c]] w fun r w' => ∃ mv', r = .returned mv' ∧ Mv B w' mv' nn (step nn ps d k v l) ∧ Below B w w' := by
  rcases h with ⟨rfl, rfl, rfl⟩ | ⟨rfl, b, rfl, h2, h3⟩
  · refine (mappedN hr ⟨hd.1, hn rfl⟩).mono ?_
    rintro r w' ⟨rfl, hb⟩
    exact ⟨_, rfl, .inl ⟨rfl, rfl, rfl⟩, hb.mono hB⟩
  · refine (mappedT h3 hs hl hr hd).mono ?_
    rintro r w' ⟨b', rfl, hq, hg, hb⟩
    exact ⟨_, rfl, .inr ⟨rfl, b', rfl, by rcases hb with rfl | hb; exact h2; exact Nat.le_trans hB hb, hq⟩, below_grown hg hB (fun k hk => by injection hk with hk; omega)⟩
theorem lenV (h : Mv B w mv nn ps) : Calls Try.prog 19 #[mv] w fun r w' => r = .returned (.int .i64 ps.length) ∧ w' = w := by
  rcases h with ⟨rfl, rfl, rfl⟩ | ⟨rfl, b, rfl, h2, h3⟩
  · exact len_nil w
  · exact len_ h3
theorem keysV (h : Mv B w mv nn ps) (hl : ps.length ≤ 90000) : Calls Try.prog 21 #[mv] w fun r w' => ∃ A c ds, r = .returned (.slice A (keys ds).length c) ∧ (keys ds).length ≤ c ∧ ds.Perm ps ∧ Kd.C (Kd.int .i64) w' A (keys ds).length (keys ds) ∧ Below w.heap.size w w' := by
  rcases h with ⟨rfl, rfl, rfl⟩ | ⟨rfl, b, rfl, h2, h3⟩
  · refine (keys_nil w).mono ?_
    rintro r w' ⟨rfl, rfl⟩
    exact ⟨none, 0, [], rfl, Nat.le_refl _, List.Perm.refl _, Kd.C_nil _ _, Below.refl _ _⟩
  · refine (keysT h3 (by omega)).mono ?_
    rintro r w' ⟨v, ds, rfl, hp, ho, hb⟩
    have hk : (keys ds).length = ds.length := by unfold keys; simp
    rw [← hk] at ho
    obtain ⟨A, c, rfl, hc, hr, _⟩ := reads3 ho (by rw [hk, hp.length_eq]; omega)
    exact ⟨A, c, ds, rfl, hc, hp, hr, hb⟩
theorem valuesV (h : Mv B w mv nn ps) (hl : ps.length ≤ 90000) : Calls Try.prog 25 #[mv] w fun r w' => ∃ A c ds, r = .returned (.slice A (vals ds).length c) ∧ (vals ds).length ≤ c ∧ ds.Perm ps ∧ Kd.C (Kd.int .i64) w' A (vals ds).length (vals ds) ∧ Below w.heap.size w w' := by
  rcases h with ⟨rfl, rfl, rfl⟩ | ⟨rfl, b, rfl, h2, h3⟩
  · refine (values_nil w).mono ?_
    rintro r w' ⟨rfl, rfl⟩
    exact ⟨none, 0, [], rfl, Nat.le_refl _, List.Perm.refl _, Kd.C_nil _ _, Below.refl _ _⟩
  · refine (valuesT h3 (by omega)).mono ?_
    rintro r w' ⟨v, ds, rfl, hp, ho, hb⟩
    have hk : (vals ds).length = ds.length := by unfold vals; simp
    rw [← hk] at ho
    obtain ⟨A, c, rfl, hc, hr, _⟩ := reads3 ho (by rw [hk, hp.length_eq]; omega)
    exact ⟨A, c, ds, rfl, hc, hp, hr, hb⟩
theorem risingV {A : Option Addr} {c : Nat} (hr : Kd.C (Kd.int .i64) w A l.length l) (hc : l.length ≤ c) (hl : l.length ≤ 90000) : Calls Try.prog 20 #[.slice A l.length c] w fun r w' => ∃ A' c', r = .returned (.slice A' (l.mergeSort leI).length c') ∧ (l.mergeSort leI).length ≤ c' ∧ Kd.C (Kd.int .i64) w' A' (l.mergeSort leI).length (l.mergeSort leI) ∧ Below w.heap.size w w' ∧ ∀ ad, A' = some ad → w.heap.size ≤ ad.block := by
  obtain ⟨k, hk⟩ := rising_f l (by omega)
  refine (impl_rising.calls k A c l _ w hr hc hk).mono ?_
  rintro r w' ⟨v, rfl, hR, hb⟩
  obtain ⟨inner, ho⟩ := Kd.R_own hR
  obtain ⟨A', c', rfl, hc', hr'⟩ := Kd.R_reads hR
  exact ⟨A', c', rfl, hc', hr', hb, fun ad e => by subst e; exact (ho.lt ad.block rfl).1⟩
theorem sortedV (h : Mv B w mv nn ps) (hs : Srt ps) (hl : ps.length ≤ 90000) : Calls Try.prog 22 #[mv] w fun r w' => ∃ A c, r = .returned (.slice A (keys ps).length c) ∧ (keys ps).length ≤ c ∧ Kd.C (Kd.int .i64) w' A (keys ps).length (keys ps) ∧ Below w.heap.size w w' ∧ ∀ ad, A = some ad → w.heap.size ≤ ad.block := by
  rcases h with ⟨rfl, rfl, rfl⟩ | ⟨rfl, b, rfl, h2, h3⟩
  · refine (Sn.sortedKeys_nil w).mono ?_
    rintro r w' ⟨A, c, rfl, hr, hb⟩
    exact ⟨A, c, rfl, Nat.zero_le _, hr, hb⟩
  · exact Sm.sortedKeysT h3 hs (by omega)
theorem getV (h : Mv B w mv nn ps) (k : Int) (hk : In64 k) : Calls Try.prog 23 #[mv, .int .i64 k] w fun r w' => r = .returned (.int .i64 (at_ ps k)) ∧ w' = w := by
  rcases h with ⟨rfl, rfl, rfl⟩ | ⟨rfl, b, rfl, h2, h3⟩
  · exact get_nil w k
  · exact get_ h3 k hk
theorem hasV (h : Mv B w mv nn ps) (k : Int) (hk : In64 k) : Calls Try.prog 24 #[mv, .int .i64 k] w fun r w' => r = .returned (.bool (has_ ps k)) ∧ w' = w := by
  rcases h with ⟨rfl, rfl, rfl⟩ | ⟨rfl, b, rfl, h2, h3⟩
  · exact has_nil w k
  · exact has_m h3 k hk
theorem okV (h : Mv B w mv nn ps) (k : Int) (hk : In64 k) : Calls Try.prog 26 #[mv, .int .i64 k] w fun r w' => r = .returned (.tuple #[.int .i64 (at_ ps k), .bool (has_ ps k)]) ∧ w' = w := by
  rcases h with ⟨rfl, rfl, rfl⟩ | ⟨rfl, b, rfl, h2, h3⟩
  · exact ok_nil w k
  · exact ok_m h3 k hk
/-- pairs of the map, in some order, in memory -/
theorem slicerV (h : Mv B w mv nn ps) (hl : ps.length ≤ 90000) : Calls Try.prog 27 #[mv] w fun r w' => ∃ A c ds, r = .returned (.slice A ds.length c) ∧ ds.Perm ps ∧ (0 < ds.length → ∃ g, A = some ⟨g, 0, none⟩ ∧ w.heap.size ≤ g ∧ g < w'.heap.size ∧ ∀ (j : Nat) (u : Value), (pcs ds)[j]? = some u → w'.cell? ⟨g, j, none⟩ = some u) ∧ Below w.heap.size w w' := by
  rcases h with ⟨rfl, rfl, rfl⟩ | ⟨rfl, b, rfl, h2, h3⟩
  · refine (slicer_nil w).mono ?_
    rintro r w' ⟨rfl, rfl⟩
    exact ⟨none, 0, [], rfl, List.Perm.refl _, fun h => absurd h (by simp), Below.refl _ _⟩
  · refine (slicerT h3 (by omega)).mono ?_
    rintro r w' ⟨v, ds, rfl, hp, ho, hb⟩
    rcases row_form ho with ⟨rfl, h0⟩ | ⟨g, cap, rfl, hc, hm⟩
    · obtain rfl := List.length_eq_zero_iff.1 h0
      exact ⟨none, 0, [], rfl, hp, fun h => absurd h (by simp), hb⟩
    · exact ⟨_, cap, ds, rfl, hp, fun _ => ⟨g, rfl, (ho.lt g rfl).1, (ho.lt g rfl).2, fun j u hj => row_cell ho j u hj⟩, hb⟩
theorem set8 {arr : Array Value} (hz : arr.size = 10) (h8 : arr[8]? = some (.slice none 0 0)) : arr.setIfInBounds 8 (.slice none 0 0) = arr := by
  apply Array.ext_getElem?
  intro i
  rw [Array.getElem?_setIfInBounds]
  split
  · rename_i hi; subst hi
    rw [if_pos (by omega), h8]
  · rfl
theorem eachV {F : Nat} {arr : Array Value} (h : Mv B w mv nn ps) (hs : Srt ps) (hl : ps.length ≤ 90000) (hf : w.heap[F]? = some (.cells arr 36 (0, 0))) (hz : arr.size = 10) (h8 : arr[8]? = some (.slice none 0 0)) :
    Calls Try.prog 29 #[mv, .func (.func 30) #[] #[.pointer (some ⟨F, 0, none⟩)]] w fun r w' => r = .returned (.tuple #[]) ∧ ∃ A c, w'.heap[F]? = some (.cells (arr.setIfInBounds 8 (.slice A (sps ps).length c)) 36 (0, 0)) ∧ (sps ps).length ≤ c ∧ Kd.C k29 w' A (sps ps).length (sps ps) ∧ w.grownBy w' (some F) ∧ ∀ ad, A = some ad → w.heap.size ≤ ad.block := by
  rcases h with ⟨rfl, rfl, rfl⟩ | ⟨rfl, b, rfl, h2, h3⟩
  · refine (each_nil w).mono ?_
    rintro r w' ⟨rfl, hb⟩
    refine ⟨rfl, none, 0, ?_, Nat.le_refl _, Kd.C_nil _ _, grown_of_below hb _, fun ad e => by cases e⟩
    show w'.heap[F]? = some (.cells (arr.setIfInBounds 8 (.slice none 0 0)) 36 (0, 0))
    rw [set8 hz h8]
    exact (hb.block F (Array.getElem?_eq_some_iff.1 hf).1).trans hf
  · refine (eachT h3 hs hl hf hz h8).mono ?_
    rintro r w' ⟨rfl, v, hf', ho, hg⟩
    obtain ⟨A, c, rfl, hc, hr, hA⟩ := reads29 ho (by omega)
    exact ⟨rfl, A, c, hf', hc, hr, hg, hA⟩
end Go.Proofs.Ytokdamfalhcnnaa.Pe
