/- The lines of Markdown: two blanks, two more for each level, a star, a blank, and the text: the law in plain Lean. -/
import Derived.Test.YthjkmjimlhpbfaaDoorLpdFnListMarkdownLines
import Derived.Test.YthjkmjimlhpbfaaDoorLmd
namespace Go.Proofs.YthjkmjimlhpbfaaDoor.LpeFnListMarkdownLines
open Go Go.RowKit Go.Lib Go.Proofs.YthjkmjimlhpbfaaDoor.GFnListMarkdownLines Go.Proofs.YthjkmjimlhpbfaaDoorW.PrintWords Go.Proofs.YthjkmjimlhpbfaaDoorW.PrintLast Go.Proofs.YthjkmjimlhpbfaaDoorW.PrintMore Go.Proofs.YthjkmjimlhpbfaaDoor.Small Go.Proofs.YthjkmjimlhpbfaaDoor.Itr Go.Proofs.YthjkmjimlhpbfaaDoor.Dec Go.Proofs.YthjkmjimlhpbfaaDoor.Va Go.Proofs.YthjkmjimlhpbfaaDoor.Lpl Go.Proofs.YthjkmjimlhpbfaaDoor.Lrn Go.Proofs.YthjkmjimlhpbfaaDoor.Lof Go.Proofs.YthjkmjimlhpbfaaDoor.Lre Go.Proofs.YthjkmjimlhpbfaaDoor.Lpr Go.Proofs.YthjkmjimlhpbfaaDoor.Blb Go.Proofs.YthjkmjimlhpbfaaDoor.Lmd Go.Proofs.YthjkmjimlhpbfaaDoor.LpcFnListMarkdownLines Go.Proofs.YthjkmjimlhpbfaaDoor.LpdFnListMarkdownLines

theorem its_len (l : List S38) : (its l).length = l.length := by unfold its; rw [List.length_map]
theorem times_l (n : Nat) (hn : n ≤ 1000) : ∀ d i : Nat, i + d = n → Ev (fun k => spec_TxTimes.l0 k m2 (nb (Lib.repeatL [32, 32] i)) (n : Int) (i : Int)) (str (Lib.repeatL [32, 32] n)) := by
  intro d
  induction d with
  | zero =>
    intro i hi
    obtain rfl : i = n := by omega
    refine Ev.shift ?_
    simp only [spec_TxTimes.l0, if_neg (show ¬ (i : Int) < (i : Int) by omega), strOfNums_nb]
    exact Ev.now _
  | succ d ih =>
    intro i hi
    refine Ev.shift ?_
    have hl : (nb (Lib.repeatL [32, 32] i)).length + m2.size < 140737488355328 := by
      rw [nb_length, Lib.repeatL_length]
      show i * 2 + 2 < _
      omega
    have hb : bytesOf m2 = nb [32, 32] := rfl
    simp only [spec_TxTimes.l0, if_pos (show (i : Int) < (n : Int) by omega), if_pos hl, wrap_succ i (by omega), hb, ← nb_append, ← repeatL_snoc]
    exact ih (i + 1) (by omega)
theorem times (n : Nat) (hn : n ≤ 1000) : Ev (fun k => spec_TxTimes.f k m2 (n : Int)) (str (Lib.repeatL [32, 32] n)) := by
  have hm : mx (n : Int) 0 = (n : Int) := by unfold mx; split <;> omega
  have hw : wrap64 ((m2.size : Int) * (n : Int)) = ((2 * n : Nat) : Int) := by
    show wrap64 (((2 : Nat) : Int) * (n : Int)) = _
    rw [wrap_in (by omega) (by omega)]; omega
  simp only [spec_TxTimes.f, hm, hw, if_pos (show (0 : Int) ≤ ((2 * n : Nat) : Int) by omega), Int.toNat_natCast, if_pos (show 2 * n ≤ 281474976710656 by omega)]
  exact times_l n hn n 0 (by omega)
/-- a line -/
def want (x : Int × ByteArray) : List UInt8 := [32, 32] ++ Lib.repeatL [32, 32] x.1.toNat ++ [42, 32] ++ x.2.data.toList
theorem pre_md (xs : List (Int × ByteArray)) (idx : Nat) : ∀ k, pre m2 (blanks m2) xs idx k = Lib.repeatL [32, 32] k
  | 0 => rfl
  | k + 1 => by
    rw [pre, pre_md xs idx k, repeatL_snoc]
    congr 1
    split
    · rfl
    · show Lib.repeatL [32] (Lib.runeCount m2) = _
      rw [show Lib.runeCount m2 = 2 by decide +kernel]
      rfl
theorem bullet_md (top first only last bottom : Bool) (cv : ByteArray) : (bullet 0 top first only last bottom cv m1 m1 m1 m1 m2 m1).data.toList = [42, 32] := by
  cases top <;> cases first <;> cases only <;> cases last <;> cases bottom <;> rfl
theorem lines_md (xs : List (Int × ByteArray)) : linesL (blanks m2) m1 m1 m1 m1 m2 m1 m2 xs xs.length = xs.map want := by
  have hl : ∀ i, i < xs.length → m2.data.toList ++ bodyL (blanks m2) m1 m1 m1 m1 m2 m1 xs i = want (xs.getD i (0, e0)) := fun i h2 => by
    rw [getD_at _ _ _ h2]
    unfold bodyL
    rw [List.getElem?_eq_getElem h2]
    simp only [pre_md, bullet_md, want]
    simp [m2]
  unfold linesL
  rw [List.map_congr_left (fun i hi => hl i (List.mem_range.1 hi))]
  refine List.ext_getElem (by simp) fun i h1 h2 => ?_
  rw [List.length_map] at h2
  rw [List.getElem_map, List.getElem_map, List.getElem_range, getD_at _ _ _ h2]
theorem loop_l (l : List S38) (hr : Right l) (fm : Int) (s1 s2 s3 s4 s5 s6 s7 s8 : ByteArray) (r : Bool)
    (h : Ev (fun k => (spec_LsSteps.f k l).bind fun t182 => ((impl_ListMarkdown.f t182 fm s1 s2 s3 s4 s5 s6 s7 s8).bind fun t185 => ((spec_TxLines.f k t185).bind fun t186 => ((spec_TxSameTexts.f k t186 ((its l).map fun x => str (want x))).bind fun t189 => (some t189))))) r) :
    ∀ d i : Nat, i + d = l.length → Ev (fun k => laws_FnListMarkdownLines.l0 k l ((its (l.take i)).map fun x => str (want x)) l (l.length : Int) (i : Int) fm s1 s2 s3 s4 s5 s6 s7 s8) r := by
  intro d
  induction d with
  | zero =>
    intro i hi
    refine Ev.shift ?_
    simp only [laws_FnListMarkdownLines.l0, if_neg (show ¬ (i : Int) < (l.length : Int) by omega)]
    rw [List.take_of_length_le (by omega)]
    exact h
  | succ d ih =>
    intro i hi
    have hil : i < l.length := by omega
    have er := rd38 l i hil
    obtain ⟨g0, g1⟩ := hr.lvs l[i] (List.getElem_mem hil)
    have hsz : l[i].f0.size ≤ 200 := (hr.x (l[i].f1, l[i].f0) (List.mem_map.2 ⟨l[i], List.getElem_mem hil, rfl⟩)).2
    obtain ⟨n, hn⟩ : ∃ n : Nat, l[i].f1 = (n : Int) := ⟨l[i].f1.toNat, by omega⟩
    have hn6 := hr.n
    have hlen : ((its (l.take i)).map fun x => str (want x)).length < 8796093022208 := by
      rw [List.length_map, its_len, List.length_take]; omega
    have hts : (str (Lib.repeatL [32, 32] n)).size = n * 2 := by rw [str_size, Lib.repeatL_length]; rfl
    have z1 : 2 + (str (Lib.repeatL [32, 32] n)).size ≤ 9223372036854775807 := by rw [hts]; omega
    have z2 : ((⟨#[32, 32]⟩ : ByteArray) ++ str (Lib.repeatL [32, 32] n)).size + 2 ≤ 9223372036854775807 := by
      rw [ByteArray.size_append, hts]; show 2 + n * 2 + 2 ≤ _; omega
    have z3 : (((⟨#[32, 32]⟩ : ByteArray) ++ str (Lib.repeatL [32, 32] n)) ++ (⟨#[42, 32]⟩ : ByteArray)).size + l[i].f0.size ≤ 9223372036854775807 := by
      rw [ByteArray.size_append, ByteArray.size_append, hts]; show 2 + n * 2 + 2 + _ ≤ _; omega
    have e : (((its (l.take i)).map fun x => str (want x)) ++ [(((⟨#[32, 32]⟩ : ByteArray) ++ str (Lib.repeatL [32, 32] n)) ++ (⟨#[42, 32]⟩ : ByteArray)) ++ l[i].f0]) = (its (l.take (i + 1))).map fun x => str (want x) := by
      rw [take_succ_at l i hil]
      unfold its
      rw [List.map_append, List.map_append]
      congr 1
      simp only [List.map_cons, List.map_nil]
      congr 1
      refine ba_ext ?_
      rw [str_data]
      unfold want
      simp [hn, str_data]
    have h2 : (⟨#[32, 32]⟩ : ByteArray) = m2 := rfl
    refine Ev.shift ?_
    simp only [laws_FnListMarkdownLines.l0, if_pos (show (i : Int) < (l.length : Int) by omega), if_pos (show (0 : Int) ≤ (i : Int) by omega), er]
    rw [hn, h2]
    refine Ev.bind (times n (by omega)) ?_
    rw [← h2]
    simp only [if_pos z1, if_pos z2, if_pos z3, if_pos hlen, wrap_succ i (by omega), e]
    exact ih (i + 1) (by omega)
theorem law (l : List S38) (fm : Int) (s1 s2 s3 s4 s5 s6 s7 s8 : ByteArray) : ∃ k, laws_FnListMarkdownLines.f k l fm s1 s2 s3 s4 s5 s6 s7 s8 = some true := by
  refine Ev.rounds ?_
  obtain ⟨b1, h1, g1⟩ := fits1 l
  obtain ⟨b3, h3⟩ := fits3 fm s1 s2 s3 s4 s5 s6 s7 s8
  have skip : Ev (fun k => laws_FnListMarkdownLines.j0 k l true fm s1 s2 s3 s4 s5 s6 s7 s8) true := by
    refine Ev.shift ?_
    simp only [laws_FnListMarkdownLines.j0, if_true]
    exact Ev.now _
  have skip1 : Ev (fun k => laws_FnListMarkdownLines.j1 k l true fm s1 s2 s3 s4 s5 s6 s7 s8) true := by
    refine Ev.shift ?_
    simp only [laws_FnListMarkdownLines.j1, if_true]
    exact Ev.now _
  simp only [laws_FnListMarkdownLines.f]
  refine Ev.bind h1 ?_
  cases b1 with
  | false => simp only [if_neg (show ¬ (false = true) by decide)]; exact skip
  | true =>
    simp only [if_true, h3, Option.bind_some]
    cases b3 with
    | false => exact skip
    | true =>
      refine Ev.shift ?_
      simp only [laws_FnListMarkdownLines.j0, Bool.not_true, if_neg (show ¬ (false = true) by decide)]
      obtain ⟨br, hr, gr⟩ := right l (g1 rfl)
      refine Ev.bind hr ?_
      cases br with
      | false => simp only [if_neg (show ¬ (false = true) by decide)]; exact skip1
      | true =>
        simp only [if_true]
        by_cases h0 : (l.length : Int) = 0
        · simp only [if_pos h0]; exact skip1
        · simp only [if_neg h0]
          obtain ⟨bs, hs, gs⟩ := styled fm s1 s2 s3 s4 s5 s6 s7 s8
          refine Ev.bind hs ?_
          cases bs with
          | false => exact skip1
          | true =>
            have hR := gr rfl
            have hne : its l ≠ [] := by
              intro e
              have := congrArg List.length e
              rw [its_len] at this
              simp at this
              subst this
              simp at h0
            have hst := steps l (by have := hR.n; omega) hR.lvs
            have hx : ∀ x ∈ its l, Cl x.2.data.toList := fun x hx => (hR.x x hx).1
            have hcm : ∀ s : ByteArray, (∀ b ∈ s.data.toList, 32 ≤ b.toNat ∧ b.toNat < 128) → Cl s.data.toList := fun s h => Cl.ascii _ h
            have c1 : Cl m1.data.toList := hcm m1 (by decide)
            have c2 : Cl m2.data.toList := hcm m2 (by decide)
            have hcl : ClS m1 m1 m1 m1 m2 m1 m2 := ⟨c1, c1, c1, c1, c2, c1, c2⟩
            have hg : GoodM ((stepsL 0 l).map fun x => (x.f0, x.f1)) := by
              have := hR.good (fm := 0) rfl small_md
              exact ⟨this.n, this.ok⟩
            have hren : impl_ListMarkdown.f (stepsL 0 l) fm s1 s2 s3 s4 s5 s6 s7 s8 = some (str (drawn (blanks m2) m1 m1 m1 m1 m2 m1 m2 (its l) (its l).length)) := by
              unfold impl_ListMarkdown.f
              refine (if_pos hg).trans ?_
              rw [stepsL_stp, R_stp _ hR.c]; rfl
            have hfine : Fine (its l) m1 m1 m1 m1 m2 m1 m7 m2 := ⟨by rw [its_len]; have := hR.n; omega, by decide, by decide, by decide, by decide, by decide, by decide, by decide, by decide, fun x hx => by
              have a := hR.lv x hx
              have b := hR.x x hx
              exact ⟨a.1, by omega, by omega, b.1.2⟩⟩
            have hdl := drawn_len hfine (blanks m2) (Nat.le_trans (blanks_size m2) (by decide)) (its l).length
            have hl := lines (drawn (blanks m2) m1 m1 m1 m1 m2 m1 m2 (its l) (its l).length) (by rw [its_len] at hdl ⊢; have := hR.n; omega) (drawn_va hcl _ hx)
            rw [drawn_lines hcl _ hx hne, lines_md, List.map_map] at hl
            refine Ev.shift ?_
            simp only [laws_FnListMarkdownLines.j1, Bool.not_true, if_neg (show ¬ (false = true) by decide)]
            refine loop_l l hR fm s1 s2 s3 s4 s5 s6 s7 s8 true ?_ l.length 0 (Nat.zero_add _)
            refine Ev.bind hst ?_
            simp only [hren, Option.bind_some]
            refine Ev.bind hl ?_
            refine Ev.bind (same _ ?_) (Ev.now _)
            rw [List.length_map, its_len]; have := hR.n; omega
#print axioms law
end Go.Proofs.YthjkmjimlhpbfaaDoor.LpeFnListMarkdownLines
