/- A style's prefix stands ahead of each line, and changes nothing else: the law in plain Lean. -/
import Derived.Test.YthjkmjimlhpbfaaDoorLpdFnListPrefix
namespace Go.Proofs.YthjkmjimlhpbfaaDoor.LpeFnListPrefix
open Go Go.RowKit Go.Lib Go.Proofs.YthjkmjimlhpbfaaDoor.GFnListPrefix Go.Proofs.YthjkmjimlhpbfaaDoorW.PrintWords Go.Proofs.YthjkmjimlhpbfaaDoorW.PrintLast Go.Proofs.YthjkmjimlhpbfaaDoorW.PrintMore Go.Proofs.YthjkmjimlhpbfaaDoor.Small Go.Proofs.YthjkmjimlhpbfaaDoor.Itr Go.Proofs.YthjkmjimlhpbfaaDoor.Dec Go.Proofs.YthjkmjimlhpbfaaDoor.Va Go.Proofs.YthjkmjimlhpbfaaDoor.Lpl Go.Proofs.YthjkmjimlhpbfaaDoor.Lrn Go.Proofs.YthjkmjimlhpbfaaDoor.Lof Go.Proofs.YthjkmjimlhpbfaaDoor.Lre Go.Proofs.YthjkmjimlhpbfaaDoor.LpcFnListPrefix Go.Proofs.YthjkmjimlhpbfaaDoor.LpdFnListPrefix

theorem its_len (l : List S38) : (its l).length = l.length := by unfold its; rw [List.length_map]
theorem R_data (l : List S38) (h : Right l) (s1 s2 s3 s4 s5 s6 s8 : ByteArray) : R ((stepsL 0 l).map fun x => (x.f0, x.f1)) s1 s2 s3 s4 s5 s6 s8 = str (drawn (blanks s5) s1 s2 s3 s4 s5 s6 s8 (its l) (its l).length) := by
  rw [stepsL_stp, R_stp _ h.c]; rfl
theorem rendered (l : List S38) (h : Right l) {fm : Int} {s1 s2 s3 s4 s5 s6 s7 s8 : ByteArray} (hf : fm = 0) (hs : Small8 s1 s2 s3 s4 s5 s6 s7 s8) :
    impl_ListRender.f (stepsL 0 l) fm s1 s2 s3 s4 s5 s6 s7 s8 = some (str (drawn (blanks s5) s1 s2 s3 s4 s5 s6 s8 (its l) (its l).length)) := by
  unfold impl_ListRender.f
  rw [if_pos (h.good hf hs), R_data l h]
theorem rendered_lines (l : List S38) (h : Right l) (hn : l ≠ []) {s1 s2 s3 s4 s5 s6 s7 s8 : ByteArray} (hs : Small8 s1 s2 s3 s4 s5 s6 s7 s8) (hc : ClS s1 s2 s3 s4 s5 s6 s8) :
    Ev (fun k => spec_TxLines.f k (str (drawn (blanks s5) s1 s2 s3 s4 s5 s6 s8 (its l) (its l).length))) ((linesL (blanks s5) s1 s2 s3 s4 s5 s6 s8 (its l) (its l).length).map str) := by
  have hx : ∀ x ∈ its l, Cl x.2.data.toList := fun x hx => (h.x x hx).1
  have hne : its l ≠ [] := by
    intro e
    have := congrArg List.length e
    rw [its_len] at this
    exact hn (List.eq_nil_of_length_eq_zero this)
  have hfine : Fine (its l) s1 s2 s3 s4 s5 s6 s7 s8 := ⟨by rw [its_len]; have := h.n; omega, hs.h1, hs.h2, hs.h3, hs.h4, hs.h5, hs.h6, hs.h7, hs.h8, fun x hx => by
    have a := h.lv x hx
    have b := h.x x hx
    exact ⟨a.1, by omega, by omega, b.1.2⟩⟩
  have hlen := drawn_len hfine (blanks s5) (Nat.le_trans (blanks_size s5) hs.h5) (its l).length
  have hl := lines (drawn (blanks s5) s1 s2 s3 s4 s5 s6 s8 (its l) (its l).length) (by rw [its_len] at hlen ⊢; have := h.n; omega) (drawn_va hc _ hx)
  rw [drawn_lines hc _ hx hne] at hl
  exact hl
/-- the prefix put ahead of line by line -/
theorem set_l (l : List S38) (r : Bool) (fm : Int) (s1 s2 s3 s4 s5 s6 s7 s8 : ByteArray) (hs8 : s8.size ≤ 1000) (ls : List ByteArray) (hn : ls.length ≤ 1000) (hsz : ∀ x ∈ ls, x.size ≤ 1000000000)
    (h : Ev (fun k => (spec_LsSteps.f k l).bind fun t180 => ((impl_ListRender.f t180 fm s1 s2 s3 s4 s5 s6 s7 s8).bind fun t183 => ((spec_TxLines.f k t183).bind fun t184 => ((spec_TxSameTexts.f k t184 (ls.map fun x => s8 ++ x)).bind fun t187 => (some t187))))) r) :
    ∀ d i : Nat, i + d = ls.length → Ev (fun k => laws_FnListPrefix.l0 k l ((ls.take i).map (fun x => s8 ++ x) ++ ls.drop i) (ls.length : Int) (i : Int) fm s1 s2 s3 s4 s5 s6 s7 s8) r := by
  intro d
  induction d with
  | zero =>
    intro i hi
    refine Ev.shift ?_
    simp only [laws_FnListPrefix.l0, if_neg (show ¬ (i : Int) < (ls.length : Int) by omega)]
    rw [List.drop_of_length_le (by omega), List.take_of_length_le (by omega), List.append_nil]
    exact h
  | succ d ih =>
    intro i hi
    have hil : i < ls.length := by omega
    have hll : ((ls.take i).map (fun x => s8 ++ x) ++ ls.drop i).length = ls.length := by simp; omega
    have hrd : rdOf ByteArray.empty ((ls.take i).map (fun x => s8 ++ x) ++ ls.drop i) (i : Int) = ls[i] := by
      rw [rdOf_nat, getD_at _ _ _ (by omega), List.getElem_append_right (by simp; omega)]
      simp only [List.getElem_drop, List.length_map, List.length_take]
      congr 1
      omega
    have hset : ((ls.take i).map (fun x => s8 ++ x) ++ ls.drop i).set i (s8 ++ ls[i]) = (ls.take (i + 1)).map (fun x => s8 ++ x) ++ ls.drop (i + 1) := by
      rw [List.set_append_right _ _ (by simp; omega), drop_at ls i hil, take_succ_at ls i hil]
      have e : i - ((ls.take i).map (fun x => s8 ++ x)).length = 0 := by simp; omega
      rw [e, List.set_cons_zero, List.map_append]
      simp only [List.map_cons, List.map_nil, List.append_assoc, List.cons_append, List.nil_append]
    have hz := hsz ls[i] (List.getElem_mem hil)
    refine Ev.shift ?_
    simp only [laws_FnListPrefix.l0, if_pos (show (i : Int) < (ls.length : Int) by omega), if_pos (show (0 : Int) ≤ (i : Int) by omega), hll, hrd, if_pos (show s8.size + ls[i].size ≤ 9223372036854775807 by omega), Int.toNat_natCast, hset, wrap_succ i (by omega)]
    exact ih (i + 1) (by omega)
theorem lines_size {xs : List (Int × ByteArray)} {s1 s2 s3 s4 s5 s6 s7 s8 : ByteArray} (F : Fine xs s1 s2 s3 s4 s5 s6 s7 s8) (n : Nat) : ∀ x ∈ (linesL (blanks s5) s1 s2 s3 s4 s5 s6 s8 xs n).map str, x.size ≤ 1000000000 := by
  intro x hx
  obtain ⟨y, hy, rfl⟩ := List.mem_map.1 hx
  unfold linesL at hy
  obtain ⟨i, _, rfl⟩ := List.mem_map.1 hy
  have h := hline_len F (blanks s5) (Nat.le_trans (blanks_size s5) F.h5) i
  rw [str_size]
  have e : (s8.data.toList ++ bodyL (blanks s5) s1 s2 s3 s4 s5 s6 xs i).length ≤ s8.size + (hline (blanks s5) s1 s2 s3 s4 s5 s6 s8 xs i).length := by
    rw [List.length_append, size_data]
    unfold hline bodyL
    cases xs[i]? with
    | none => simp
    | some x => simp only [Lrj.line, List.length_append]; omega
  have := F.h8
  omega
theorem law (l : List S38) (fm : Int) (s1 s2 s3 s4 s5 s6 s7 s8 : ByteArray) : ∃ k, laws_FnListPrefix.f k l fm s1 s2 s3 s4 s5 s6 s7 s8 = some true := by
  refine Ev.rounds ?_
  obtain ⟨b1, h1, g1⟩ := fits1 l
  obtain ⟨b3, h3⟩ := fits3 fm s1 s2 s3 s4 s5 s6 s7 s8
  have skip : Ev (fun k => laws_FnListPrefix.j0 k l true fm s1 s2 s3 s4 s5 s6 s7 s8) true := by
    refine Ev.shift ?_
    simp only [laws_FnListPrefix.j0, if_true]
    exact Ev.now _
  have skip1 : Ev (fun k => laws_FnListPrefix.j1 k l true fm s1 s2 s3 s4 s5 s6 s7 s8) true := by
    refine Ev.shift ?_
    simp only [laws_FnListPrefix.j1, if_true]
    exact Ev.now _
  simp only [laws_FnListPrefix.f]
  refine Ev.bind h1 ?_
  cases b1 with
  | false => simp only [if_neg (show ¬ (false = true) by decide)]; exact skip
  | true =>
    simp only [if_true, h3, Option.bind_some]
    cases b3 with
    | false => exact skip
    | true =>
      refine Ev.shift ?_
      simp only [laws_FnListPrefix.j0, Bool.not_true, if_neg (show ¬ (false = true) by decide)]
      obtain ⟨br, hr, gr⟩ := right l (g1 rfl)
      refine Ev.bind hr ?_
      cases br with
      | false => simp only [if_neg (show ¬ (false = true) by decide)]; exact skip1
      | true =>
        simp only [if_true]
        by_cases h0 : (l.length : Int) = 0
        · simp only [if_pos h0]; exact skip1
        · simp only [if_neg h0]
          obtain ⟨bs, hs, gs⟩ := styled fm s1 s2 s3 s4 s5 s6 s7 s8
          refine Ev.bind hs ?_
          cases bs with
          | false => exact skip1
          | true =>
            have hR := gr rfl
            have hS := gs rfl
            have hne : l ≠ [] := by rintro rfl; simp at h0
            have hsm := hS.small
            have hsm0 : Small8 s1 s2 s3 s4 s5 s6 s7 ⟨#[]⟩ := ⟨hsm.h1, hsm.h2, hsm.h3, hsm.h4, hsm.h5, hsm.h6, hsm.h7, by decide⟩
            have hcl := hS.cls
            have hcl0 : ClS s1 s2 s3 s4 s5 s6 ⟨#[]⟩ := ⟨hcl.h1, hcl.h2, hcl.h3, hcl.h4, hcl.h5, hcl.h6, Cl.nil⟩
            have hst := steps l (by have := hR.n; omega) hR.lvs
            have hfine : Fine (its l) s1 s2 s3 s4 s5 s6 s7 ⟨#[]⟩ := ⟨by rw [its_len]; have := hR.n; omega, hsm.h1, hsm.h2, hsm.h3, hsm.h4, hsm.h5, hsm.h6, hsm.h7, by decide, fun x hx => by
              have a := hR.lv x hx
              have b := hR.x x hx
              exact ⟨a.1, by omega, by omega, b.1.2⟩⟩
            refine Ev.shift ?_
            simp only [laws_FnListPrefix.j1, Bool.not_true, if_neg (show ¬ (false = true) by decide)]
            refine Ev.bind hst ?_
            simp only [rendered l hR hS.f hsm0, Option.bind_some]
            refine Ev.bind (rendered_lines l hR hne hsm0 hcl0) ?_
            refine set_l l true fm s1 s2 s3 s4 s5 s6 s7 s8 hsm.h8 _ ?_ (lines_size hfine _) ?_ _ 0 (Nat.zero_add _)
            · unfold linesL; simp only [List.length_map, List.length_range, its_len]; have := hR.n; omega
            · refine Ev.bind hst ?_
              simp only [rendered l hR hS.f hsm, Option.bind_some]
              refine Ev.bind (rendered_lines l hR hne hsm hcl) ?_
              have e : ((linesL (blanks s5) s1 s2 s3 s4 s5 s6 ⟨#[]⟩ (its l) (its l).length).map str).map (fun x => s8 ++ x) = (linesL (blanks s5) s1 s2 s3 s4 s5 s6 s8 (its l) (its l).length).map str := by
                unfold linesL
                rw [List.map_map, List.map_map, List.map_map]
                refine List.map_congr_left fun i _ => ?_
                refine ba_ext ?_
                simp [str_data]
              rw [e]
              refine Ev.bind (same _ ?_) (Ev.now _)
              unfold linesL; simp only [List.length_map, List.length_range, its_len]; have := hR.n; omega
#print axioms law
end Go.Proofs.YthjkmjimlhpbfaaDoor.LpeFnListPrefix
