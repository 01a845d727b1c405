/- Each call of the cache, as the script's step tells it. -/
import Derived.Test.YtjhmcpdnmfhodaaLcm
namespace Go.Proofs.Ytjhmcpdnmfhodaa.Lcv
open Go Go.Maps Go.ChangeMaps Go.MapKept Go.RowKit Go.Proofs.YtjhmcpdnmfhodaaW.PrintWords Ll Lra Lrc Lrw Lrx Lry Lrz Lcn Lcp Lcm Mp

variable {w0 W : World} {n hh mm : Int} {ops : List Op3} {a G L p m : Nat} {x : Op3} {l : List (Int × Int)} {v10 : Value} {os : List Ot} {co : Array Value}
theorem cAdd (h : Md w0 W n ops a G L p m x hh mm l v10 os co) (hd : x.d = 0) (h0 : 0 < n) (hk : In64 x.k) (hl : l.length ≤ 100000) :
    Calls Try.prog 14 #[.pointer (some ⟨L, 0, none⟩), .int .i64 x.k, .int .i64 x.v] W fun r w1 => ∃ b l', r = .returned (.bool b) ∧ Lcp.step n ⟨l, hh, mm⟩ x = (⟨l', hh, mm⟩, ⟨b, 0, 0, false⟩) ∧ Md w0 w1 n ops a G L p m x hh mm l' v10 os co := by
  obtain ⟨es, M, hc, rfl⟩ := h.ca
  rw [pl_len] at hl
  refine (add (v := x.v) hc h.below.size hk h0 (by omega)).mono ?_
  rintro r w1 (⟨xs, e, ys, rfl, he, rfl, hc1, hf⟩ | ⟨hno, hlt, rfl, b, hc1, hf⟩ | ⟨hno, hge, rfl, xs, e, b, rfl, hc1, hf⟩)
  · refine ⟨false, _, rfl, ?_, h.fr ⟨_, M, hc1, rfl⟩ hf⟩
    unfold Lcp.step
    rw [if_pos hd, ← he, find_split_ hc.nk, pl_cons, but_split hc.nk]
    rw [he]; rfl
  · refine ⟨false, _, rfl, ?_, h.fr ⟨_, M, hc1, rfl⟩ hf⟩
    unfold Lcp.step
    rw [if_pos hd, find_none_ hno, pl_cons, pl_len]
    simp only [ins_lt hlt, decide_eq_false (show ¬ n ≤ (es.length : Int) by omega)]
  · refine ⟨true, _, rfl, ?_, h.fr ⟨_, M, hc1, rfl⟩ hf⟩
    unfold Lcp.step
    rw [if_pos hd, find_none_ hno, pl_cons, pl_len]
    simp only [ins_ge hge, decide_eq_true hge]
theorem cGet (h : Md w0 W n ops a G L p m x hh mm l v10 os co) (hd : x.d = 1) (h0 : 0 < n) (hk : In64 x.k) :
    Calls Try.prog 15 #[.pointer (some ⟨L, 0, none⟩), .int .i64 x.k] W fun r w1 => ∃ v b l' h' m', r = .returned (.tuple #[.int .i64 v, .bool b]) ∧ Lcp.step n ⟨l, hh, mm⟩ x = (⟨l', h', m'⟩, ⟨b, 0, v, false⟩) ∧ Md w0 w1 n ops a G L p m x h' m' l' v10 os co := by
  obtain ⟨es, M, hc, rfl⟩ := h.ca
  refine (get hc hk h0).mono ?_
  rintro r w1 (⟨hno, rfl, hc1, hf⟩ | ⟨xs, e, ys, rfl, he, rfl, hc1, hf⟩)
  · refine ⟨0, false, _, _, _, rfl, ?_, h.fr ⟨_, M, hc1, rfl⟩ hf⟩
    unfold Lcp.step
    rw [if_neg (by omega), if_pos hd, find_none_ hno]; rfl
  · refine ⟨e.v, true, _, _, _, rfl, ?_, h.fr ⟨_, M, hc1, rfl⟩ hf⟩
    unfold Lcp.step
    rw [if_neg (by omega), if_pos hd, ← he, find_split_ hc.nk, pl_cons, but_split hc.nk]
theorem cOr (h : Md w0 W n ops a G L p m x hh mm l v10 os co) (hd : x.d = 2) (h0 : 0 < n) (hk : In64 x.k) (hl : l.length ≤ 100000) (h4 : 4 < co.size) (hq : co[4]? = some (.bool false)) :
    Calls Try.prog 16 #[.pointer (some ⟨L, 0, none⟩), .int .i64 x.k, .func (.func 17) #[] #[.pointer (some ⟨p + 1, 0, none⟩), .pointer (some ⟨p, 0, none⟩)]] W fun r w1 => ∃ v q l' h' m', r = .returned (.int .i64 v) ∧ Lcp.step n ⟨l, hh, mm⟩ x = (⟨l', h', m'⟩, ⟨false, 0, v, q⟩) ∧ Md w0 w1 n ops a G L p m x h' m' l' v10 os (co.setIfInBounds 4 (.bool q)) := by
  obtain ⟨es, M, hc, rfl⟩ := h.ca
  rw [pl_len] at hl
  have hpw := h.pw
  refine (getOr (v := x.v) hc h.below.size hk h0 (by omega) h.o h.xb h4 rfl (by omega)).mono ?_
  rintro r w1 (⟨xs, e, ys, rfl, he, rfl, hc1, hf⟩ | ⟨hno, rfl, hf, ho, hcase⟩)
  · have hset : co.setIfInBounds 4 (.bool false) = co := by
      apply Array.ext_getElem?
      intro i
      rw [Array.getElem?_setIfInBounds]
      split
      · rename_i hi; subst hi; exact hq.symm
      · rfl
    refine ⟨e.v, false, pl (e :: (xs ++ ys)), wrap64 (hh + 1), mm, rfl, ?_, by rw [hset]; exact h.fr ⟨_, M, hc1, rfl⟩ hf⟩
    unfold Lcp.step
    rw [if_neg (by omega), if_neg (by omega), if_pos hd, ← he, find_split_ hc.nk, pl_cons, but_split hc.nk]
  · rcases hcase with ⟨hlt, b, hc1⟩ | ⟨hge, xs, e, b, rfl, hc1⟩
    · refine ⟨x.v, true, _, _, _, rfl, ?_, h.fx ⟨_, M, hc1, rfl⟩ hf ho⟩
      unfold Lcp.step
      rw [if_neg (by omega), if_neg (by omega), if_pos hd, find_none_ hno, pl_cons]
      simp only [ins_lt hlt]
    · refine ⟨x.v, true, _, _, _, rfl, ?_, h.fx ⟨_, M, hc1, rfl⟩ hf ho⟩
      unfold Lcp.step
      rw [if_neg (by omega), if_neg (by omega), if_pos hd, find_none_ hno, pl_cons]
      simp only [ins_ge hge]
theorem cRemove (h : Md w0 W n ops a G L p m x hh mm l v10 os co) (hd : x.d = 3) (h0 : 0 < n) (hk : In64 x.k) :
    Calls Try.prog 18 #[.pointer (some ⟨L, 0, none⟩), .int .i64 x.k] W fun r w1 => ∃ b l', r = .returned (.bool b) ∧ Lcp.step n ⟨l, hh, mm⟩ x = (⟨l', hh, mm⟩, ⟨b, 0, 0, false⟩) ∧ Md w0 w1 n ops a G L p m x hh mm l' v10 os co := by
  obtain ⟨es, M, hc, rfl⟩ := h.ca
  refine (remove hc hk h0).mono ?_
  rintro r w1 (⟨hno, rfl, rfl⟩ | ⟨xs, e, ys, rfl, he, rfl, hc1, hf⟩)
  · refine ⟨false, _, rfl, ?_, h⟩
    unfold Lcp.step
    rw [if_neg (by omega), if_neg (by omega), if_neg (by omega), if_pos hd, find_none_ hno]; rfl
  · refine ⟨true, _, rfl, ?_, h.fr ⟨_, M, hc1, rfl⟩ hf⟩
    unfold Lcp.step
    rw [if_neg (by omega), if_neg (by omega), if_neg (by omega), if_pos hd, ← he, find_split_ hc.nk, but_split hc.nk]
theorem cOldest (h : Md w0 W n ops a G L p m x hh mm l v10 os co) (hd : x.d = 4) (h0 : 0 < n) :
    Calls Try.prog 19 #[.pointer (some ⟨L, 0, none⟩)] W fun r w1 => ∃ k v b l', r = .returned (.tuple #[.int .i64 k, .int .i64 v, .bool b]) ∧ Lcp.step n ⟨l, hh, mm⟩ x = (⟨l', hh, mm⟩, ⟨b, k, v, false⟩) ∧ Md w0 w1 n ops a G L p m x hh mm l' v10 os co := by
  obtain ⟨es, M, hc, rfl⟩ := h.ca
  refine (oldest hc h0).mono ?_
  rintro r w1 (⟨rfl, rfl, rfl⟩ | ⟨xs, e, rfl, rfl, hc1, hf⟩)
  · refine ⟨0, 0, false, _, rfl, ?_, h⟩
    unfold Lcp.step
    rw [if_neg (by omega), if_neg (by omega), if_neg (by omega), if_neg (by omega), if_pos hd]; rfl
  · refine ⟨e.k, e.v, true, _, rfl, ?_, h.fr ⟨_, M, hc1, rfl⟩ hf⟩
    unfold Lcp.step
    have : pl (xs ++ [e]) = pl xs ++ [(e.k, e.v)] := by unfold pl; rw [List.map_append]; rfl
    rw [if_neg (by omega), if_neg (by omega), if_neg (by omega), if_neg (by omega), if_pos hd]
    simp only [this, List.getLast?_concat, List.dropLast_concat]
theorem cPurge (h : Md w0 W n ops a G L p m x hh mm l v10 os co) (hd : x.d = 5) (h0 : 0 < n) (h1 : n ≤ 100000) :
    Calls Try.prog 20 #[.pointer (some ⟨L, 0, none⟩)] W fun r w1 => r = .returned (.tuple #[]) ∧ Lcp.step n ⟨l, hh, mm⟩ x = (⟨[], 0, 0⟩, o0) ∧ Md w0 w1 n ops a G L p m x 0 0 [] v10 os co := by
  obtain ⟨es, M, hc, rfl⟩ := h.ca
  refine (purge hc h0 h1 h.below.size).mono ?_
  rintro r w1 ⟨rfl, M', hc1, hf⟩
  refine ⟨rfl, ?_, h.fr ⟨[], M', hc1, rfl⟩ hf⟩
  unfold Lcp.step
  rw [if_neg (by omega), if_neg (by omega), if_neg (by omega), if_neg (by omega), if_neg (by omega), if_pos hd]
theorem cLen (h : Md w0 W n ops a G L p m x hh mm l v10 os co) (hd : x.d = 6) (h0 : 0 < n) :
    Calls Try.prog 21 #[.pointer (some ⟨L, 0, none⟩)] W fun r w1 => ∃ v, r = .returned (.int .i64 v) ∧ Lcp.step n ⟨l, hh, mm⟩ x = (⟨l, hh, mm⟩, ⟨false, 0, v, false⟩) ∧ Md w0 w1 n ops a G L p m x hh mm l v10 os co := by
  obtain ⟨es, M, hc, rfl⟩ := h.ca
  refine (len hc h0).mono ?_
  rintro r w1 ⟨rfl, rfl⟩
  refine ⟨_, rfl, ?_, h⟩
  unfold Lcp.step
  rw [if_neg (by omega), if_neg (by omega), if_neg (by omega), if_neg (by omega), if_neg (by omega), if_neg (by omega), if_pos hd, pl_len]
theorem cCap (h : Md w0 W n ops a G L p m x hh mm l v10 os co) (hd : x.d = 7) :
    Calls Try.prog 22 #[.pointer (some ⟨L, 0, none⟩)] W fun r w1 => ∃ v, r = .returned (.int .i64 v) ∧ Lcp.step n ⟨l, hh, mm⟩ x = (⟨l, hh, mm⟩, ⟨false, 0, v, false⟩) ∧ Md w0 w1 n ops a G L p m x hh mm l v10 os co := by
  obtain ⟨es, M, hc, rfl⟩ := h.ca
  refine (cap hc).mono ?_
  rintro r w1 ⟨rfl, rfl⟩
  refine ⟨_, rfl, ?_, h⟩
  unfold Lcp.step
  rw [if_neg (by omega), if_neg (by omega), if_neg (by omega), if_neg (by omega), if_neg (by omega), if_neg (by omega), if_neg (by omega), if_pos hd]
theorem cRate (h : Md w0 W n ops a G L p m x hh mm l v10 os co) (hd : x.d = 8) :
    Calls Try.prog 23 #[.pointer (some ⟨L, 0, none⟩)] W fun r w1 => ∃ f, r = .returned (.float .f64 f) ∧ Lcp.step n ⟨l, hh, mm⟩ x = (⟨l, hh, mm⟩, o0) ∧ Md w0 w1 n ops a G L p m x hh mm l v10 os co := by
  obtain ⟨es, M, hc, rfl⟩ := h.ca
  refine (hitRate hc).mono ?_
  rintro r w1 ⟨⟨f, rfl⟩, hw⟩
  refine ⟨f, rfl, ?_, ?_⟩
  · unfold Lcp.step
    rw [if_neg (by omega), if_neg (by omega), if_neg (by omega), if_neg (by omega), if_neg (by omega), if_neg (by omega), if_neg (by omega), if_neg (by omega)]
  · rcases hw with rfl | rfl
    · exact h
    · exact h.fr ⟨es, M, hc.drew, rfl⟩ (Fr.refl _ _).drew
theorem other (h : ¬ (0 ≤ x.d ∧ x.d ≤ 7)) (s : St) : Lcp.step n s x = (s, o0) := by
  unfold Lcp.step
  rw [if_neg (by omega), if_neg (by omega), if_neg (by omega), if_neg (by omega), if_neg (by omega), if_neg (by omega), if_neg (by omega), if_neg (by omega)]
end Go.Proofs.Ytjhmcpdnmfhodaa.Lcv
