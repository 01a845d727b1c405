/- Un-indenting all is un-indenting as often as an item stands deep: the law in plain Lean. -/
import Derived.Test.YthjkmjimlhpbfaaDoorLpcFnListUnIndentAll
namespace Go.Proofs.YthjkmjimlhpbfaaDoor.LpeFnListUnIndentAll
open Go Go.RowKit Go.Lib Go.Proofs.YthjkmjimlhpbfaaDoor.GFnListUnIndentAll Go.Proofs.YthjkmjimlhpbfaaDoorW.PrintWords Go.Proofs.YthjkmjimlhpbfaaDoorW.PrintLast Go.Proofs.YthjkmjimlhpbfaaDoorW.PrintMore Go.Proofs.YthjkmjimlhpbfaaDoor.Small Go.Proofs.YthjkmjimlhpbfaaDoor.Itr Go.Proofs.YthjkmjimlhpbfaaDoor.Dec Go.Proofs.YthjkmjimlhpbfaaDoor.Va Go.Proofs.YthjkmjimlhpbfaaDoor.Lpl Go.Proofs.YthjkmjimlhpbfaaDoor.Lrn Go.Proofs.YthjkmjimlhpbfaaDoor.Lof Go.Proofs.YthjkmjimlhpbfaaDoor.Lre Go.Proofs.YthjkmjimlhpbfaaDoor.LpcFnListUnIndentAll

theorem its_len (l : List S38) : (its l).length = l.length := by unfold its; rw [List.length_map]
theorem alive : laws_lsAlive.f = some true := by
  unfold laws_lsAlive.f impl_ListRender.f
  rw [if_pos]
  · simp only [Option.bind_some, Small.toList_data]
    exact congrArg some (show _ = true by decide +kernel)
  · refine ⟨rfl, by decide, ?_, ⟨by decide, by decide, by decide, by decide, by decide, by decide, by decide, by decide⟩⟩
    intro x hx
    simp at hx
    subst hx
    exact .inl ⟨rfl, by intro b hb; simp at hb; subst hb; decide, by simp only; decide⟩
theorem lastL_last : ∀ (l : List S38) (cur : Int) (h : 0 < l.length), lastL cur (its l) = (l[l.length - 1]).f1
  | [x], _, _ => rfl
  | x :: y :: r, _, _ => by
    have := lastL_last (y :: r) x.f1 (by simp)
    simp only [its, List.map_cons, lastL] at this ⊢
    rw [this]
    rfl
def S4 : S36 := ⟨4, (⟨#[]⟩ : ByteArray), []⟩
def pairs (l : List S36) : List (Int × ByteArray) := l.map fun x => (x.f0, x.f1)
theorem pairs_append (a b : List S36) : pairs (a ++ b) = pairs a ++ pairs b := by unfold pairs; rw [List.map_append]
theorem made_all (l : List S38) (h : Right l) (t : ByteArray) : (made (pairs (stepsL 0 l ++ [S4, S0 t]))).1 = its l ++ [(0, t)] := by
  rw [pairs_append, made_append]
  have e : pairs (stepsL 0 l) = stp 0 (its l) := stepsL_stp l 0
  rw [e, made_stp _ h.c]
  simp [pairs, S4, S0, Lof.step]
theorem made_one (l : List S38) (h : Right l) (t : ByteArray) (n : Nat) (hn : lastL 0 (its l) ≤ n) : (made (pairs (stepsL 0 l ++ List.replicate n S3 ++ [S0 t]))).1 = its l ++ [(0, t)] := by
  rw [pairs_append, pairs_append, made_append, made_append]
  have e : pairs (stepsL 0 l) = stp 0 (its l) := stepsL_stp l 0
  have e2 : pairs (List.replicate n S3) = List.replicate n (3, e0) := by unfold pairs; rw [List.map_replicate]; rfl
  have h0 := lastL_nonneg (its l) 0 0 (by omega) h.c
  rw [e, made_stp _ h.c, e2, fold_down _ _ _ h0]
  have e3 : (if (n : Int) ≤ lastL 0 (its l) then lastL 0 (its l) - (n : Int) else 0) = 0 := by split <;> omega
  rw [e3]
  simp [pairs, S0, Lof.step]
theorem its_snoc (l : List S38) (t : ByteArray) : its (l ++ [⟨t, 0⟩]) = its l ++ [(0, t)] := by unfold its; simp
theorem made_m (l : List S38) (h : Right l) (t : ByteArray) : (made (pairs (stepsL 0 (l ++ [⟨t, 0⟩])))).1 = its l ++ [(0, t)] := by
  have e : pairs (stepsL 0 (l ++ [⟨t, 0⟩])) = stp 0 (its (l ++ [⟨t, 0⟩])) := stepsL_stp _ 0
  rw [e, its_snoc, made_stp _ (chain_append _ _ _ (by omega) h.c)]
theorem steps_ok (l : List S38) (h : Right l) : ∀ y ∈ pairs (stepsL 0 l), Okst y := by
  have e : pairs (stepsL 0 l) = stp 0 (its l) := stepsL_stp l 0
  rw [e]
  exact stp_ok _ _ (fun x hx => ⟨(h.x x hx).1, by have := (h.x x hx).2; omega⟩)
theorem steps_len (l : List S38) (h : Right l) : (stepsL 0 l).length ≤ 180 := by
  have e : pairs (stepsL 0 l) = stp 0 (its l) := stepsL_stp l 0
  have h1 := stp_len (its l) 0 0 (by omega) (by omega) h.c
  rw [← e] at h1
  have h2 := h.n
  rw [its_len] at h1
  unfold pairs at h1
  rw [List.length_map] at h1
  omega
theorem good_all (l : List S38) (h : Right l) (t : ByteArray) (ht : Cl t.data.toList) (hts : t.size ≤ 200) {s1 s2 s3 s4 s5 s6 s7 s8 : ByteArray} (hs : Small8 s1 s2 s3 s4 s5 s6 s7 s8) : Lrn.Good (pairs (stepsL 0 l ++ [S4, S0 t])) 0 s1 s2 s3 s4 s5 s6 s7 s8 := by
  refine ⟨rfl, ?_, fun y hy => ?_, hs⟩
  · unfold pairs
    rw [List.length_map, List.length_append]
    have := steps_len l h
    simp only [List.length_cons, List.length_nil]
    omega
  · rw [pairs_append] at hy
    rcases List.mem_append.1 hy with hy | hy
    · exact steps_ok l h y hy
    · simp [pairs, S4, S0] at hy
      rcases hy with rfl | rfl
      · exact .inr (.inr (.inr rfl))
      · exact .inl ⟨rfl, ht.2, by simp only; omega⟩
theorem good_one (l : List S38) (h : Right l) (t : ByteArray) (ht : Cl t.data.toList) (hts : t.size ≤ 200) (n : Nat) (hn : n ≤ 300) {s1 s2 s3 s4 s5 s6 s7 s8 : ByteArray} (hs : Small8 s1 s2 s3 s4 s5 s6 s7 s8) : Lrn.Good (pairs (stepsL 0 l ++ List.replicate n S3 ++ [S0 t])) 0 s1 s2 s3 s4 s5 s6 s7 s8 := by
  refine ⟨rfl, ?_, fun y hy => ?_, hs⟩
  · unfold pairs
    rw [List.length_map, List.length_append, List.length_append, List.length_replicate]
    have := steps_len l h
    simp only [List.length_cons, List.length_nil]
    omega
  · rw [pairs_append, pairs_append] at hy
    rcases List.mem_append.1 hy with hy | hy
    · rcases List.mem_append.1 hy with hy | hy
      · exact steps_ok l h y hy
      · unfold pairs at hy
        rw [List.map_replicate] at hy
        rw [List.eq_of_mem_replicate hy]
        exact .inr (.inr (.inl rfl))
    · simp [pairs, S0] at hy
      subst hy
      exact .inl ⟨rfl, ht.2, by simp only; omega⟩
theorem good_m (l : List S38) (h : Right l) (t : ByteArray) (ht : Cl t.data.toList) (hts : t.size ≤ 200) {s1 s2 s3 s4 s5 s6 s7 s8 : ByteArray} (hs : Small8 s1 s2 s3 s4 s5 s6 s7 s8) : Lrn.Good (pairs (stepsL 0 (l ++ [⟨t, 0⟩]))) 0 s1 s2 s3 s4 s5 s6 s7 s8 := by
  have e : pairs (stepsL 0 (l ++ [⟨t, 0⟩])) = stp 0 (its l ++ [(0, t)]) := by rw [← its_snoc]; exact stepsL_stp _ 0
  rw [e]
  have hc := chain_append (its l) 0 t (by omega) h.c
  have h1 := stp_len _ 0 0 (by omega) (by omega) hc
  have h2 := h.n
  refine ⟨rfl, ?_, stp_ok _ _ (fun x hx => ?_), hs⟩
  · rw [List.length_append, its_len, List.length_singleton] at h1
    omega
  · rcases List.mem_append.1 hx with hx | hx
    · exact ⟨(h.x x hx).1, by have := (h.x x hx).2; omega⟩
    · rw [List.mem_singleton.1 hx]; exact ⟨ht, by simp only; omega⟩
theorem loop_l (l : List S38) (t : ByteArray) (all : List S36) (fm : Int) (s1 s2 s3 s4 s5 s6 s7 s8 : ByteArray) (N : Nat) (hN : N ≤ 1000) (r : Bool) (base : List S36) (hb : base.length ≤ 10000)
    (h : Ev (fun k => laws_FnListUnIndentAll.l0 k l t all (base ++ List.replicate N S3) (N : Int) (N : Int) fm s1 s2 s3 s4 s5 s6 s7 s8) r) : ∀ d i : Nat, i + d = N →
    Ev (fun k => laws_FnListUnIndentAll.l0 k l t all (base ++ List.replicate i S3) (N : Int) (i : Int) fm s1 s2 s3 s4 s5 s6 s7 s8) r := by
  intro d
  induction d with
  | zero => intro i hi; obtain rfl : i = N := by omega
            exact h
  | succ d ih =>
    intro i hi
    refine Ev.shift ?_
    have hlen : (base ++ List.replicate i S3).length < 2932031007402 := by simp; omega
    simp only [laws_FnListUnIndentAll.l0, if_pos (show (i : Int) < (N : Int) by omega), if_pos hlen, wrap_succ i (by omega)]
    have := ih (i + 1) (by omega)
    rw [List.replicate_succ'] at this
    simpa [S3, List.append_assoc] using this
theorem law (l : List S38) (t : ByteArray) (a2 : Int) (ha0 : 0 ≤ a2) (ha1 : a2 ≤ 255) (fm : Int) (s1 s2 s3 s4 s5 s6 s7 s8 : ByteArray) : ∃ k, laws_FnListUnIndentAll.f k l t a2 fm s1 s2 s3 s4 s5 s6 s7 s8 = some true := by
  refine Ev.rounds ?_
  obtain ⟨b1, h1, g1⟩ := fits1 l
  obtain ⟨b3, h3⟩ := fits3 fm s1 s2 s3 s4 s5 s6 s7 s8
  have skip : Ev (fun k => laws_FnListUnIndentAll.j0 k l t a2 true fm s1 s2 s3 s4 s5 s6 s7 s8) true := by
    refine Ev.shift ?_
    simp only [laws_FnListUnIndentAll.j0, if_true]
    exact Ev.now _
  have skip1 : Ev (fun k => laws_FnListUnIndentAll.j1 k l t a2 true fm s1 s2 s3 s4 s5 s6 s7 s8) true := by
    refine Ev.shift ?_
    simp only [laws_FnListUnIndentAll.j1, if_true]
    exact Ev.now _
  simp only [laws_FnListUnIndentAll.f]
  refine Ev.bind h1 ?_
  cases b1 with
  | false => simp only [if_neg (show ¬ (false = true) by decide)]; exact skip
  | true =>
    simp only [if_true]
    by_cases hz : (t.size : Int) > 2147483647
    · simp only [if_pos hz]; exact skip
    simp only [if_neg hz, h3, Option.bind_some]
    cases b3 with
    | false => exact skip
    | true =>
      refine Ev.shift ?_
      simp only [laws_FnListUnIndentAll.j0, Bool.not_true, if_neg (show ¬ (false = true) by decide)]
      obtain ⟨br, hr, gr⟩ := right l (g1 rfl)
      refine Ev.bind hr ?_
      cases br with
      | false => simp only [if_neg (show ¬ (false = true) by decide)]; exact skip1
      | true =>
        simp only [if_true]
        by_cases h0 : (l.length : Int) = 0
        · simp only [if_pos h0]; exact skip1
        simp only [if_neg h0]
        by_cases h200 : (t.size : Int) > 200
        · simp only [if_pos h200]; exact skip1
        simp only [if_neg h200]
        obtain ⟨bt, hbt, gt⟩ := simple t
        refine Ev.bind hbt ?_
        cases bt with
        | false => simp only [if_neg (show ¬ (false = true) by decide)]; exact skip1
        | true =>
          simp only [if_true]
          obtain ⟨bs, hs, gs⟩ := styled fm s1 s2 s3 s4 s5 s6 s7 s8
          refine Ev.bind hs ?_
          cases bs with
          | false => exact skip1
          | true =>
            have hR := gr rfl
            have hS := gs rfl
            have hT := gt rfl
            have hsm := hS.small
            have hst := steps l (by have := hR.n; omega) hR.lvs
            have hf := hS.f
            subst hf
            have hlen : 0 < l.length := by omega
            have hn60 := hR.n
            have hlv := hR.lvs _ (List.getElem_mem (show l.length - 1 < l.length by omega))
            have hw1 : wrap64 ((l.length : Int) - 1) = ((l.length - 1 : Nat) : Int) := by rw [wrap_in (by omega) (by omega)]; omega
            have hrd := rd38 l (l.length - 1) (by omega)
            have hm0 : 0 ≤ Int.tmod a2 4 := Int.tmod_nonneg 4 ha0
            have hm1 : Int.tmod a2 4 < 4 := Int.tmod_lt_of_pos a2 (by omega)
            have hw2 : wrap64 (Int.tmod a2 4) = Int.tmod a2 4 := wrap_in (by omega) (by omega)
            have hw3 : wrap64 ((l[l.length - 1]).f1 + Int.tmod a2 4) = (((l[l.length - 1]).f1 + Int.tmod a2 4).toNat : Int) := by rw [wrap_in (by omega) (by omega)]; omega
            obtain ⟨M, hM⟩ : ∃ M, M = ((l[l.length - 1]).f1 + Int.tmod a2 4).toNat := ⟨_, rfl⟩
            have hML : lastL 0 (its l) ≤ M := by rw [lastL_last l 0 hlen]; omega
            refine Ev.shift ?_
            simp only [laws_FnListUnIndentAll.j1, Bool.not_true, if_neg (show ¬ (false = true) by decide)]
            refine Ev.bind hst ?_
            refine Ev.bind hst ?_
            have hsl := steps_len l hR
            simp only [Option.bind_some, if_pos (show (stepsL 0 l).length + ([(⟨4, (⟨#[]⟩ : ByteArray), ([] : List ByteArray)⟩ : S36), (⟨0, t, ([] : List ByteArray)⟩ : S36)] : List (S36)).length < 2932031007402 by simp; omega), hw1, if_pos (show (0 : Int) ≤ ((l.length - 1 : Nat) : Int) by omega), if_pos (show ((l.length - 1 : Nat) : Int) < (l.length : Int) by omega), hrd, hw2, hw3, ← hM]
            have key := loop_l l t (stepsL 0 l ++ [S4, S0 t]) 0 s1 s2 s3 s4 s5 s6 s7 s8 M (by omega) true (stepsL 0 l) (by omega) ?_ M 0 (by omega)
            · simpa [S4, S0] using key
            · refine Ev.shift ?_
              have hlen2 : (stepsL 0 l ++ List.replicate M S3).length < 2932031007402 := by simp; omega
              simp only [laws_FnListUnIndentAll.l0, if_neg (show ¬ (M : Int) < (M : Int) by omega), if_pos hlen2, Option.bind_some, List.length_nil, List.nil_append, if_pos (show 0 + l.length < 5864062014805 by omega), if_pos (show l.length < 5864062014805 by omega)]
              have hst2 := steps (l ++ [⟨t, 0⟩]) (by simp; omega) (fun x hx => by
                rcases List.mem_append.1 hx with hx | hx
                · exact hR.lvs x hx
                · rw [List.mem_singleton.1 hx]; exact ⟨by simp, by simp⟩)
              refine Ev.bind hst2 ?_
              have r1 : impl_ListRender.f (stepsL 0 (l ++ [⟨t, 0⟩])) 0 s1 s2 s3 s4 s5 s6 s7 s8 = some (R (pairs (stepsL 0 (l ++ [⟨t, 0⟩]))) s1 s2 s3 s4 s5 s6 s8) := by
                unfold impl_ListRender.f
                exact if_pos (good_m l hR t hT (by omega) hsm)
              have r2 : impl_ListRender.f (stepsL 0 l ++ [S4, S0 t]) 0 s1 s2 s3 s4 s5 s6 s7 s8 = some (R (pairs (stepsL 0 (l ++ [⟨t, 0⟩]))) s1 s2 s3 s4 s5 s6 s8) := by
                unfold impl_ListRender.f
                exact (if_pos (good_all l hR t hT (by omega) hsm)).trans (congrArg some (R_of_made ((made_all l hR t).trans (made_m l hR t).symm) s1 s2 s3 s4 s5 s6 s8))
              have r3 : impl_ListRender.f (stepsL 0 l ++ List.replicate M S3 ++ [(⟨0, t, ([] : List ByteArray)⟩ : S36)]) 0 s1 s2 s3 s4 s5 s6 s7 s8 = some (R (pairs (stepsL 0 (l ++ [⟨t, 0⟩]))) s1 s2 s3 s4 s5 s6 s8) := by
                unfold impl_ListRender.f
                have := good_one l hR t hT (by omega) M (by omega) hsm
                exact (if_pos this).trans (congrArg some (R_of_made ((made_one l hR t M hML).trans (made_m l hR t).symm) s1 s2 s3 s4 s5 s6 s8))
              simp only [r1, r2, r3, Option.bind_some, if_true, alive]
              exact Ev.now _
#print axioms law
end Go.Proofs.YthjkmjimlhpbfaaDoor.LpeFnListUnIndentAll
