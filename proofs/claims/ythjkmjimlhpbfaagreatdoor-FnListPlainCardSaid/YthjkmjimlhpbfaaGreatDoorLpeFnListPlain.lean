/- The list laws' own functions, in plain Lean. -/
import Derived.Test.YthjkmjimlhpbfaaGreatDoorLsD
import Derived.Test.YthjkmjimlhpbfaaGreatDoorGFnListPlainx
namespace Go.Proofs.YthjkmjimlhpbfaaGreatDoor.LpeFnListPlain
open Go Go.RowKit Go.Lib Go.Proofs.YthjkmjimlhpbfaaGreatDoor.GFnListPlain Go.Proofs.YthjkmjimlhpbfaaGreatDoorW.PrintWords Go.Proofs.YthjkmjimlhpbfaaGreatDoorW.PrintLast Go.Proofs.YthjkmjimlhpbfaaGreatDoorW.PrintMore Go.Proofs.YthjkmjimlhpbfaaGreatDoor.Small Go.Proofs.YthjkmjimlhpbfaaGreatDoor.Itr Go.Proofs.YthjkmjimlhpbfaaGreatDoor.Dec Go.Proofs.YthjkmjimlhpbfaaGreatDoor.Va Go.Proofs.YthjkmjimlhpbfaaGreatDoor.Lpl Go.Proofs.YthjkmjimlhpbfaaGreatDoor.Lrn Go.Proofs.YthjkmjimlhpbfaaGreatDoor.Lof

theorem more_at (s : ByteArray) (p : Nat) (hp : p < s.size) : itr_more.f s (p : Int) = some ((p : Int), ((Utf8.decode s p).1 : Int), ((p + (Utf8.decode s p).2 : Nat) : Int)) := by
  unfold itr_more.f Itr.runeAt Itr.runeLen
  rw [if_pos (by omega), if_pos (by omega)]
  simp
theorem end_at (s : ByteArray) : itr_end.f s (s.size : Int) = some (s.size : Int) := by
  unfold itr_end.f
  rw [if_pos (by omega), if_neg (by omega)]
theorem rd33 (l : List S33) (i : Nat) (h : i < l.length) : rd_T33 l (i : Int) = l[i] := by unfold rd_T33; rw [Int.toNat_natCast]; exact Small.getD_at _ _ _ h
theorem drop_at {α : Type} (l : List α) (i : Nat) (h : i < l.length) : l.drop i = l[i] :: l.drop (i + 1) := List.drop_eq_getElem_cons h
theorem boxed (r : Int) : ∃ b, spec_TxBoxed.f r = some b ∧ (b = true → 9472 ≤ r ∧ r ≤ 9631) := by
  unfold spec_TxBoxed.f
  split
  · exact ⟨_, rfl, fun h => by simp at h; omega⟩
  · exact ⟨_, rfl, fun h => by cases h⟩
theorem wide (r : Int) : ∃ b, spec_TxWide.f r = some b ∧ (b = true → 12353 ≤ r ∧ r ≤ 65374) := by
  by_cases h : 12353 ≤ r
  · unfold spec_TxWide.f
    repeat' split
    all_goals first
      | exact ⟨_, rfl, fun _ => by omega⟩
      | exact ⟨_, rfl, fun h => by simp at h; omega⟩
      | exact ⟨_, rfl, fun h => by cases h⟩
  · unfold spec_TxWide.f
    repeat rw [if_neg (by omega)]
    exact ⟨_, rfl, fun h => by cases h⟩
theorem known (r : Int) : ∃ b, spec_TxKnown.f r = some b ∧ (b = true → 32 ≤ r ∧ r ≠ 65533) := by
  obtain ⟨b1, h1, g1⟩ := boxed r
  obtain ⟨b2, h2, g2⟩ := wide r
  unfold spec_TxKnown.f
  simp only [h1, h2, Option.bind_some]
  by_cases a : r ≥ 32
  · rw [if_pos a]
    by_cases b : r ≤ 126
    · rw [if_pos b]; exact ⟨_, rfl, fun _ => by omega⟩
    · rw [if_neg b]
      split
      · rename_i h
        exact ⟨_, rfl, fun _ => by have := g1 h; omega⟩
      · exact ⟨_, rfl, fun h => by have := g2 h; omega⟩
  · rw [if_neg a]
    split
    · rename_i h
      exact ⟨_, rfl, fun _ => by have := g1 h; omega⟩
    · exact ⟨_, rfl, fun h => by have := g2 h; omega⟩

theorem simple_l (s : ByteArray) : ∀ d p : Nat, p + d = s.size → ∃ b, Ev (fun k => spec_TxSimple.l0 k false s (p : Int)) b ∧ (b = true → Cl (s.data.toList.drop p)) := by
  intro d
  induction d using Nat.strongRecOn with
  | ind d ih =>
    intro p hp
    rcases Nat.eq_zero_or_pos d with rfl | hd
    · obtain rfl : p = s.size := by omega
      refine ⟨true, Ev.shift ?_, fun _ => by rw [List.drop_of_length_le (by rw [size_data]; exact Nat.le_refl _)]; exact Cl.nil⟩
      simp only [spec_TxSimple.l0, if_neg (show ¬ (s.size : Int) < (s.size : Int) by omega), end_at, Option.bind_some]
      exact Ev.now _
    · obtain ⟨h1, h2, hc⟩ := dec s p (by omega)
      obtain ⟨b, hb, hg⟩ := ih (s.size - (p + (Utf8.decode s p).2)) (by omega) (p + (Utf8.decode s p).2) (by omega)
      obtain ⟨kb, hk, hk2⟩ := known ((Utf8.decode s p).1 : Int)
      cases kb with
      | false =>
        refine ⟨false, Ev.shift ?_, fun h => by cases h⟩
        simp only [spec_TxSimple.l0, if_pos (show (p : Int) < (s.size : Int) by omega), more_at s p (by omega), Option.bind_some, hk, if_neg (show ¬ (false = true) by decide)]
        exact Ev.now _
      | true =>
        obtain ⟨g1, g2⟩ := hk2 rfl
        refine ⟨b, Ev.shift ?_, fun h => ?_⟩
        · simp only [spec_TxSimple.l0, if_pos (show (p : Int) < (s.size : Int) by omega), more_at s p (by omega), Option.bind_some, hk, if_true]
          exact hb
        · have hr := hg h
          have hne : s.data.toList.drop p ≠ [] := by
            intro e
            have := congrArg List.length e
            rw [List.length_drop, size_data] at this
            simp at this; omega
          have hdd := dec_drop s p
          have hva : Va (s.data.toList.drop p) := by
            refine .cons _ hne (by rw [← hdd]; omega) ?_
            rw [← hdd, List.drop_drop]
            exact hr.1
          refine ⟨hva, fun x hx => ?_⟩
          obtain ⟨_, _, e1, _⟩ := step_one s p (by omega) hva
          rw [e1] at hx
          rcases List.mem_append.1 hx with hx | hx
          · obtain ⟨i, hi, rfl⟩ := List.mem_iff_getElem.1 hx
            rw [List.length_take, List.length_drop, size_data] at hi
            have hat : (((s.data.toList.drop p).take (Utf8.decode s p).2)[i]).toNat = at_ s (p + i) := by
              unfold at_
              rw [List.getElem_take, List.getElem_drop, List.getD_eq_getElem?_getD, List.getElem?_eq_getElem]
              rfl
            rw [hat]
            rcases hc with ⟨c1, c2⟩ | ⟨_, _, c3⟩
            · rw [c2] at hi g1
              obtain rfl : i = 0 := by omega
              simp only at g1
              rw [Nat.add_zero]; omega
            · have := c3 (p + i) (by omega) (by omega)
              omega
          · exact hr.2 x hx
theorem simple (s : ByteArray) : ∃ b, Ev (fun k => spec_TxSimple.f k s false) b ∧ (b = true → Cl s.data.toList) := by
  obtain ⟨b, hb, h⟩ := simple_l s s.size 0 (by omega)
  refine ⟨b, ?_, h⟩
  simp only [spec_TxSimple.f, itr_make.f, Option.bind_some]
  exact hb

/-! ### what is not too long -/
theorem fits1_l (l : List S33) (hl : l.length ≤ 2147483647) : ∀ d i : Nat, i + d = l.length → ∃ b, Ev (fun k => laws_zzFits1.l0 k l (l.length : Int) (i : Int)) b := by
  intro d
  induction d with
  | zero =>
    intro i hi
    refine ⟨true, Ev.shift ?_⟩
    simp only [laws_zzFits1.l0, if_neg (show ¬ (i : Int) < (l.length : Int) by omega)]
    exact Ev.now _
  | succ d ih =>
    intro i hi
    obtain ⟨b, hb⟩ := ih (i + 1) (by omega)
    by_cases h : ((rd_T33 l (i : Int)).f0.size : Int) > 2147483647
    · refine ⟨false, Ev.shift ?_⟩
      simp only [laws_zzFits1.l0, if_pos (show (i : Int) < (l.length : Int) by omega), if_pos (show (0 : Int) ≤ (i : Int) by omega), laws_zzFits2.f, if_pos h, Option.bind_some, if_neg (show ¬ (false = true) by decide)]
      exact Ev.now _
    · refine ⟨b, Ev.shift ?_⟩
      simp only [laws_zzFits1.l0, if_pos (show (i : Int) < (l.length : Int) by omega), if_pos (show (0 : Int) ≤ (i : Int) by omega), laws_zzFits2.f, if_neg h, Option.bind_some, if_true, wrap_succ i (by omega)]
      exact hb
theorem fits1 (l : List S33) : ∃ b, Ev (fun k => laws_zzFits1.f k l) b ∧ (b = true → l.length ≤ 2147483647) := by
  by_cases h : (l.length : Int) > 2147483647
  · refine ⟨false, ?_, fun h => by cases h⟩
    simp only [laws_zzFits1.f, if_pos h]
    exact Ev.now _
  · obtain ⟨b, hb⟩ := fits1_l l (by omega) l.length 0 (by omega)
    refine ⟨b, ?_, fun _ => by omega⟩
    simp only [laws_zzFits1.f, if_neg h]
    exact hb
/-! ### items that are right -/
def RightAt (l : List S33) (i : Nat) (h : i < l.length) : Prop := 0 ≤ l[i].f1 ∧ (∀ j (hj : j < l.length), i = j + 1 → l[i].f1 ≤ wrap64 (l[j].f1 + 1)) ∧ (i = 0 → l[i].f1 ≤ 0) ∧ l[i].f0.size ≤ 200 ∧ Cl l[i].f0.data.toList
theorem right_l (l : List S33) (hl : l.length ≤ 2147483647) : ∀ d i : Nat, i + d = l.length → ∃ b, Ev (fun k => spec_LsRight.l0 k l l (l.length : Int) (i : Int)) b ∧ (b = true → l.length ≤ 60 ∧ ∀ j (hj : j < l.length), i ≤ j → RightAt l j hj) := by
  intro d
  induction d with
  | zero =>
    intro i hi
    refine ⟨decide ((l.length : Int) ≤ 60), Ev.shift ?_, fun h => ⟨by simp at h; omega, fun j hj h => by omega⟩⟩
    simp only [spec_LsRight.l0, if_neg (show ¬ (i : Int) < (l.length : Int) by omega)]
    exact Ev.now _
  | succ d ih =>
    intro i hi
    have hil : i < l.length := by omega
    obtain ⟨b, hb, hg⟩ := ih (i + 1) (by omega)
    obtain ⟨sb, hs, hsg⟩ := simple l[i].f0
    have er := rd33 l i hil
    by_cases h1 : l[i].f1 < 0
    · refine ⟨false, Ev.shift ?_, fun h => by cases h⟩
      rcases Nat.eq_zero_or_pos i with rfl | hpos
      · simp only [spec_LsRight.l0, if_pos (show ((0 : Nat) : Int) < (l.length : Int) by omega), if_pos (show (0 : Int) ≤ ((0 : Nat) : Int) by omega), if_neg (show ¬ ((0 : Nat) : Int) > 0 by omega), er, if_pos h1]
        exact Ev.now _
      · have hw : wrap64 ((i : Int) - 1) = ((i - 1 : Nat) : Int) := by rw [wrap_in (by omega) (by omega)]; omega
        simp only [spec_LsRight.l0, if_pos (show (i : Int) < (l.length : Int) by omega), if_pos (show (0 : Int) ≤ (i : Int) by omega), if_pos (show (i : Int) > 0 by omega), hw, if_pos (show (0 : Int) ≤ ((i - 1 : Nat) : Int) by omega), if_pos (show ((i - 1 : Nat) : Int) < (l.length : Int) by omega), er, if_pos h1]
        exact Ev.now _
    · obtain ⟨most, hm, hmo⟩ : ∃ most : Int, most = (if h : i = 0 then 0 else wrap64 ((l[i - 1]'(by omega)).f1 + 1)) ∧ True := ⟨_, rfl, trivial⟩
      have body : ∀ r, Ev (fun k => if l[i].f1 < 0 then some false else if l[i].f1 > most then some false else if (l[i].f0.size : Int) > 200 then some false else ((spec_TxSimple.f k l[i].f0 false).bind fun t => if t = true then spec_LsRight.l0 k l l (l.length : Int) (wrap64 ((i : Int) + 1)) else some false)) r → Ev (fun k => spec_LsRight.l0 k l l (l.length : Int) (i : Int)) r := by
        intro r hr
        refine Ev.shift ?_
        rcases Nat.eq_zero_or_pos i with rfl | hpos
        · rw [dif_pos rfl] at hm
          subst hm
          simp only [spec_LsRight.l0, if_pos (show ((0 : Nat) : Int) < (l.length : Int) by omega), if_pos (show (0 : Int) ≤ ((0 : Nat) : Int) by omega), if_neg (show ¬ ((0 : Nat) : Int) > 0 by omega), er]
          exact hr
        · rw [dif_neg (by omega)] at hm
          have hw : wrap64 ((i : Int) - 1) = ((i - 1 : Nat) : Int) := by rw [wrap_in (by omega) (by omega)]; omega
          have er2 := rd33 l (i - 1) (by omega)
          simp only [spec_LsRight.l0, if_pos (show (i : Int) < (l.length : Int) by omega), if_pos (show (0 : Int) ≤ (i : Int) by omega), if_pos (show (i : Int) > 0 by omega), hw, if_pos (show (0 : Int) ≤ ((i - 1 : Nat) : Int) by omega), if_pos (show ((i - 1 : Nat) : Int) < (l.length : Int) by omega), er, er2, ← hm]
          exact hr
      by_cases h2 : l[i].f1 > most
      · refine ⟨false, body _ ?_, fun h => by cases h⟩
        simp only [if_neg h1, if_pos h2]
        exact Ev.now _
      · by_cases h3 : (l[i].f0.size : Int) > 200
        · refine ⟨false, body _ ?_, fun h => by cases h⟩
          simp only [if_neg h1, if_neg h2, if_pos h3]
          exact Ev.now _
        · cases sb with
          | false =>
            refine ⟨false, body _ ?_, fun h => by cases h⟩
            simp only [if_neg h1, if_neg h2, if_neg h3]
            refine Ev.bind hs ?_
            simp only [if_neg (show ¬ (false = true) by decide)]
            exact Ev.now _
          | true =>
            refine ⟨b, body _ ?_, fun h => ?_⟩
            · simp only [if_neg h1, if_neg h2, if_neg h3]
              refine Ev.bind hs ?_
              simp only [if_true, wrap_succ i (by omega)]
              exact hb
            · obtain ⟨g1, g2⟩ := hg h
              refine ⟨g1, fun j hj hij => ?_⟩
              rcases Nat.lt_or_ge i j with hlt | hge
              · exact g2 j hj (by omega)
              · obtain rfl : i = j := by omega
                refine ⟨by omega, fun q hq e => ?_, fun e => ?_, by omega, hsg rfl⟩
                · subst e
                  rw [dif_neg (by omega)] at hm
                  simp only [Nat.add_sub_cancel] at hm
                  omega
                · rw [dif_pos e] at hm; omega
def its (l : List S33) : List (Int × ByteArray) := l.map fun x => (x.f1, x.f0)
/-- lists of which the laws speak -/
structure Right (l : List S33) : Prop where
  n : l.length ≤ 60
  c : Chain 0 (its l)
  x : ∀ x ∈ its l, Cl x.2.data.toList ∧ x.2.size ≤ 200
  lv : ∀ x ∈ its l, 0 ≤ x.1 ∧ x.1 ≤ 60
theorem chain_of (l : List S33) (hl : l.length ≤ 60) (h : ∀ j (hj : j < l.length), RightAt l j hj) : ∀ d i : Nat, i + d = l.length → ∀ m : Int, 0 ≤ m → m ≤ i → (i < l.length → (i = 0 → m = 0) ∧ (∀ j (hj : j < l.length), i = j + 1 → m = l[j].f1 + 1)) → Chain m (its (l.drop i)) ∧ ∀ x ∈ its (l.drop i), 0 ≤ x.1 ∧ x.1 ≤ 60 := by
  intro d
  induction d with
  | zero =>
    intro i hi m _ _ _
    rw [List.drop_of_length_le (by omega)]
    exact ⟨trivial, fun x hx => by cases hx⟩
  | succ d ih =>
    intro i hi m hm0 hm1 hm
    have hil : i < l.length := by omega
    obtain ⟨r1, r2, r3, _, _⟩ := h i hil
    obtain ⟨q1, q2⟩ := hm hil
    have hle : l[i].f1 ≤ m := by
      rcases Nat.eq_zero_or_pos i with e | hp
      · have := r3 e; omega
      · obtain ⟨j, rfl⟩ : ∃ j, i = j + 1 := ⟨i - 1, by omega⟩
        have e1 := q2 j (by omega) rfl
        have e2 := r2 j (by omega) rfl
        rw [wrap_in (by omega) (by omega)] at e2
        omega
    obtain ⟨c1, c2⟩ := ih (i + 1) (by omega) (l[i].f1 + 1) (by omega) (by omega) (fun _ => ⟨fun e => by omega, fun j hj e => by (have h9 : i = j := by omega); subst h9; rfl⟩)
    rw [drop_at l i hil]
    refine ⟨⟨r1, hle, c1⟩, fun x hx => ?_⟩
    rcases List.mem_cons.1 hx with rfl | hx
    · exact ⟨r1, by simp only; omega⟩
    · exact c2 x hx
theorem right (l : List S33) (hl : l.length ≤ 2147483647) : ∃ b, Ev (fun k => spec_LsRight.f k l) b ∧ (b = true → Right l) := by
  obtain ⟨b, hb, hg⟩ := right_l l hl l.length 0 (by omega)
  refine ⟨b, by simp only [spec_LsRight.f]; exact hb, fun h => ?_⟩
  obtain ⟨h1, h2⟩ := hg h
  have h3 := chain_of l h1 (fun j hj => h2 j hj (by omega)) l.length 0 (by omega) 0 (by omega) (by omega) (fun _ => ⟨fun _ => rfl, fun j hj e => by omega⟩)
  rw [List.drop_zero] at h3
  refine ⟨h1, h3.1, fun x hx => ?_, h3.2⟩
  obtain ⟨y, hy, rfl⟩ := List.mem_map.1 hx
  obtain ⟨j, hj, rfl⟩ := List.mem_iff_getElem.1 hy
  obtain ⟨_, _, _, r4, r5⟩ := h2 j hj (by omega)
  exact ⟨r5, r4⟩

/-! ### steps -/
def S2 : S41 := ⟨2, (⟨#[]⟩ : ByteArray), []⟩
def S3 : S41 := ⟨3, (⟨#[]⟩ : ByteArray), []⟩
def S0 (t : ByteArray) : S41 := ⟨0, t, []⟩
def stepsL : Int → List S33 → List S41
  | _, [] => []
  | cur, x :: r => List.replicate (x.f1 - cur).toNat S2 ++ List.replicate (cur - x.f1).toNat S3 ++ S0 x.f0 :: stepsL x.f1 r
theorem stepsL_stp : ∀ (l : List S33) (cur : Int), (stepsL cur l).map (fun x => (x.f0, x.f1)) = stp cur (its l)
  | [], _ => rfl
  | x :: r, cur => by
    simp only [stepsL, its, List.map_cons, stp, List.map_append, List.map_replicate]
    rw [stepsL_stp r x.f1]
    rfl
theorem down_l (l : List S33) (i : Nat) (t : ByteArray) (lv : Int) (r : List S41) (hl0 : 0 ≤ lv) (hl1 : lv ≤ 1000) : ∀ d : Nat, d ≤ 1000 → ∀ out : List S41, out.length + d ≤ 1000000 →
    Ev (fun k => spec_LsSteps.l0 k (out ++ List.replicate d S3 ++ [S0 t]) lv l (l.length : Int) (wrap64 ((i : Int) + 1))) r →
    Ev (fun k => spec_LsSteps.l2 k out (lv + d) l (l.length : Int) (i : Int) t lv) r := by
  intro d
  induction d with
  | zero =>
    intro _ out ho h
    refine Ev.shift ?_
    simp only [spec_LsSteps.l2, Int.natCast_zero, Int.add_zero, if_neg (show ¬ lv > lv by omega), if_pos (show out.length < 2932031007402 by omega)]
    simpa [S0] using h
  | succ d ih =>
    intro hd out ho h
    refine Ev.shift ?_
    have hw : wrap64 (lv + ((d + 1 : Nat) : Int) - 1) = lv + (d : Int) := by rw [wrap_in (by omega) (by omega)]; omega
    simp only [spec_LsSteps.l2, if_pos (show lv + ((d + 1 : Nat) : Int) > lv by omega), if_pos (show out.length < 2932031007402 by omega), hw]
    refine ih (by omega) (out ++ [S3]) (by simp; omega) ?_
    rw [List.replicate_succ] at h
    simpa [S3, List.append_assoc] using h
theorem up_l (l : List S33) (i : Nat) (t : ByteArray) (lv : Int) (r : List S41) (hl0 : 0 ≤ lv) (hl1 : lv ≤ 1000) : ∀ d : Nat, d ≤ 1000 → ∀ out : List S41, out.length + d ≤ 1000000 →
    Ev (fun k => spec_LsSteps.l2 k (out ++ List.replicate d S2) lv l (l.length : Int) (i : Int) t lv) r →
    Ev (fun k => spec_LsSteps.l1 k out (lv - d) l (l.length : Int) (i : Int) t lv) r := by
  intro d
  induction d with
  | zero =>
    intro _ out ho h
    refine Ev.shift ?_
    simp only [spec_LsSteps.l1, Int.natCast_zero, Int.sub_zero, if_neg (show ¬ lv < lv by omega)]
    simpa using h
  | succ d ih =>
    intro hd out ho h
    refine Ev.shift ?_
    have hw : wrap64 (lv - ((d + 1 : Nat) : Int) + 1) = lv - (d : Int) := by rw [wrap_in (by omega) (by omega)]; omega
    simp only [spec_LsSteps.l1, if_pos (show lv - ((d + 1 : Nat) : Int) < lv by omega), if_pos (show out.length < 2932031007402 by omega), hw]
    refine ih (by omega) (out ++ [S2]) (by simp; omega) ?_
    rw [List.replicate_succ] at h
    simpa [S2, List.append_assoc] using h
theorem item_l (l : List S33) (i : Nat) (t : ByteArray) (cur lv : Int) (r : List S41) (hc0 : 0 ≤ cur) (hc1 : cur ≤ 500) (hl0 : 0 ≤ lv) (hl1 : lv ≤ 500) (out : List S41) (ho : out.length ≤ 900000)
    (h : Ev (fun k => spec_LsSteps.l0 k (out ++ (List.replicate (lv - cur).toNat S2 ++ List.replicate (cur - lv).toNat S3 ++ [S0 t])) lv l (l.length : Int) (wrap64 ((i : Int) + 1))) r) :
    Ev (fun k => spec_LsSteps.l1 k out cur l (l.length : Int) (i : Int) t lv) r := by
  by_cases hlt : cur < lv
  · have e0 : (cur - lv).toNat = 0 := by omega
    rw [e0] at h
    obtain ⟨d, hd⟩ : ∃ d : Nat, lv - cur = (d : Int) := ⟨(lv - cur).toNat, by omega⟩
    rw [hd, Int.toNat_natCast] at h
    have e : cur = lv - (d : Int) := by omega
    rw [e]
    refine up_l l i t lv r hl0 (by omega) d (by omega) out (by omega) ?_
    have := down_l l i t lv r hl0 (by omega) 0 (by omega) (out ++ List.replicate d S2) (by simp; omega) (by simpa using h)
    simpa using this
  · have e0 : (lv - cur).toNat = 0 := by omega
    rw [e0] at h
    obtain ⟨d, hd⟩ : ∃ d : Nat, cur - lv = (d : Int) := ⟨(cur - lv).toNat, by omega⟩
    rw [hd, Int.toNat_natCast] at h
    refine Ev.shift ?_
    simp only [spec_LsSteps.l1, if_neg hlt]
    have e : cur = lv + (d : Int) := by omega
    rw [e]
    exact down_l l i t lv r hl0 (by omega) d (by omega) out (by omega) (by simpa using h)
theorem steps_l (l : List S33) (hn : l.length ≤ 1000) (hl : ∀ x ∈ l, 0 ≤ x.f1 ∧ x.f1 ≤ 100) : ∀ d i : Nat, i + d = l.length → ∀ (cur : Int) (out : List S41), 0 ≤ cur → cur ≤ 100 → out.length ≤ 300 * i →
    Ev (fun k => spec_LsSteps.l0 k out cur l (l.length : Int) (i : Int)) (out ++ stepsL cur (l.drop i)) := by
  intro d
  induction d with
  | zero =>
    intro i hi cur out _ _ _
    refine Ev.shift ?_
    simp only [spec_LsSteps.l0, if_neg (show ¬ (i : Int) < (l.length : Int) by omega)]
    rw [List.drop_of_length_le (by omega)]
    simp only [stepsL, List.append_nil]
    exact Ev.now _
  | succ d ih =>
    intro i hi cur out h0 h1 ho
    have hil : i < l.length := by omega
    have er := rd33 l i hil
    obtain ⟨g0, g1⟩ := hl l[i] (List.getElem_mem hil)
    refine Ev.shift ?_
    simp only [spec_LsSteps.l0, if_pos (show (i : Int) < (l.length : Int) by omega), if_pos (show (0 : Int) ≤ (i : Int) by omega), er]
    refine item_l l i l[i].f0 cur l[i].f1 _ h0 (by omega) g0 (by omega) out (by omega) ?_
    rw [wrap_succ i (by omega)]
    have := ih (i + 1) (by omega) l[i].f1 (out ++ (List.replicate (l[i].f1 - cur).toNat S2 ++ List.replicate (cur - l[i].f1).toNat S3 ++ [S0 l[i].f0])) g0 g1 (by simp; omega)
    rw [drop_at l i hil]
    simpa [stepsL, List.append_assoc] using this
theorem steps (l : List S33) (hn : l.length ≤ 1000) (hl : ∀ x ∈ l, 0 ≤ x.f1 ∧ x.f1 ≤ 100) : Ev (fun k => spec_LsSteps.f k l) (stepsL 0 l) := by
  have := steps_l l hn hl l.length 0 (by omega) 0 [] (by omega) (by omega) (by simp)
  simpa [spec_LsSteps.f] using this
theorem Right.lvs {l : List S33} (h : Right l) : ∀ x ∈ l, 0 ≤ x.f1 ∧ x.f1 ≤ 100 := fun x hx => by
  have := h.lv (x.f1, x.f0) (List.mem_map.2 ⟨x, hx, rfl⟩)
  simp only at this
  omega
theorem Right.good {l : List S33} (h : Right l) {fm : Int} {s1 s2 s3 s4 s5 s6 s7 s8 : ByteArray} (hf : fm = 0) (hs : Small8 s1 s2 s3 s4 s5 s6 s7 s8) : Lrn.Good ((stepsL 0 l).map fun x => (x.f0, x.f1)) fm s1 s2 s3 s4 s5 s6 s7 s8 := by
  rw [stepsL_stp]
  refine ⟨hf, ?_, stp_ok _ _ (fun x hx => ⟨(h.x x hx).1, by have := (h.x x hx).2; omega⟩), hs⟩
  have h1 := stp_len (its l) 0 0 (by omega) (by omega) h.c
  have h2 : (its l).length ≤ 60 := by unfold its; rw [List.length_map]; exact h.n
  omega

theorem alive : laws_lsAlive.f = some true := by
  unfold laws_lsAlive.f impl_ListRender.f
  rw [if_pos]
  · simp only [Option.bind_some, Small.toList_data]
    exact congrArg some (show _ = true by decide +kernel)
  · refine ⟨rfl, by decide, ?_, ⟨by decide, by decide, by decide, by decide, by decide, by decide, by decide, by decide⟩⟩
    intro x hx
    simp at hx
    subst hx
    exact .inl ⟨rfl, by intro b hb; simp at hb; subst hb; decide, by simp only; decide⟩
theorem named : impl_ListNamed.f 0 = some (0, d1, d1, d1, d1, d5, d1, d7, e0) := by rfl
theorem law (l : List S33) : ∃ k, laws_FnListPlain.f k l = some true := by
  refine Ev.rounds ?_
  obtain ⟨b1, h1, g1⟩ := fits1 l
  simp only [laws_FnListPlain.f]
  refine Ev.bind h1 ?_
  cases b1 with
  | false => simp only [if_neg (show ¬ (false = true) by decide)]; exact Ev.now _
  | true =>
    simp only [if_true]
    obtain ⟨br, hr, gr⟩ := right l (g1 rfl)
    refine Ev.bind hr ?_
    cases br with
    | false => simp only [if_neg (show ¬ (false = true) by decide)]; exact Ev.now _
    | true =>
      have hR := gr rfl
      have hst := steps l (by have := hR.n; omega) hR.lvs
      have hg := hR.good (fm := 0) rfl small_d
      have r1 : impl_ListPlain.f (stepsL 0 l) = some (R ((stepsL 0 l).map fun x => (x.f0, x.f1)) d1 d1 d1 d1 d5 d1 e0) := by
        unfold impl_ListPlain.f
        exact if_pos ⟨hg.n, hg.ok⟩
      have r2 : impl_ListRender.f (stepsL 0 l) 0 d1 d1 d1 d1 d5 d1 d7 e0 = some (R ((stepsL 0 l).map fun x => (x.f0, x.f1)) d1 d1 d1 d1 d5 d1 e0) := by
        unfold impl_ListRender.f
        exact if_pos hg
      simp only [if_true]
      refine Ev.bind hst ?_
      simp only [r1, Option.bind_some]
      refine Ev.bind hst ?_
      simp only [named, Option.bind_some, r2, if_true, alive]
      exact Ev.now _
#print axioms law
end Go.Proofs.YthjkmjimlhpbfaaGreatDoor.LpeFnListPlain
