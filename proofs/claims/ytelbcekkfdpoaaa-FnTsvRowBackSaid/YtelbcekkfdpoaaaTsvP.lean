/- A row in TSV is read back: in plain Lean. -/
import Derived.Test.YtelbcekkfdpoaaaGTsvBodyx
namespace Go.Proofs.Ytelbcekkfdpoaaa.TsvP
open Go.RowKit Go.Proofs.Ytelbcekkfdpoaaa.GTsvBody Go.Proofs.YtelbcekkfdpoaaaW.PrintWords Go.Proofs.YtelbcekkfdpoaaaW.PrintLast Go.Proofs.YtelbcekkfdpoaaaW.PrintMore Go.Proofs.Ytelbcekkfdpoaaa.Small Go.Proofs.Ytelbcekkfdpoaaa.TsvH Go.Proofs.Ytelbcekkfdpoaaa.TsvW

theorem bt_mid (a b : List UInt8) (x : UInt8) : bt (str (a ++ x :: b)) (a.length : Int) = (x.toNat : Int) := by
  unfold bt
  have h : a.length < (str (a ++ x :: b)).size := by rw [str_size]; simp
  rw [dif_pos (by simpa using h)]
  show (((a ++ x :: b).toArray[((a.length : Int)).toNat]'_).toNat : Int) = _
  simp
theorem ne34 {x : UInt8} (h : x ≠ 34) : ¬ (x.toNat : Int) = 34 := fun e => h (UInt8.toNat_inj.1 (by show x.toNat = 34; omega))
theorem ne9 {x : UInt8} (h : x ≠ 9) : ¬ (x.toNat : Int) = 9 := fun e => h (UInt8.toNat_inj.1 (by show x.toNat = 9; omega))
theorem ne10 {x : UInt8} (h : x ≠ 10) : ¬ (x.toNat : Int) = 10 := fun e => h (UInt8.toNat_inj.1 (by show x.toNat = 10; omega))

def Post (p : List UInt8) : Prop := p = [] ∨ ∃ q, p = 9 :: q

theorem plain_l (p : List UInt8) (hp : Post p) (M : List UInt8) (hM : M.length ≤ 100000000) : ∀ (b P out : List UInt8), M = P ++ b ++ p → (∀ x ∈ b, x ≠ 9 ∧ x ≠ 10 ∧ x ≠ 34) → out.length ≤ P.length →
    Ev (fun k => spec_field.l0 k (str M) (P.length : Int) 9 (nb out)) (str (out ++ b), ((P.length + b.length : Nat) : Int), true) := by
  intro b
  induction b with
  | nil =>
    intro P out hT _ ho
    have fin : Ev (fun k => spec_field.j2 k (str M) (P.length : Int) 9 (nb out) false) (str (out ++ []), ((P.length + ([] : List UInt8).length : Nat) : Int), true) := by
      refine Ev.shift ?_
      simp only [spec_field.j2, Bool.false_eq_true, if_false, strOfNums_nb, List.append_nil, List.length_nil, Nat.add_zero]
      exact Ev.now _
    refine Ev.shift ?_
    rcases hp with rfl | ⟨q, rfl⟩
    · have hsz : (str M).size = P.length := by rw [str_size, hT]; simp
      simp only [spec_field.l0, hsz, if_neg (show ¬ (P.length : Int) < (P.length : Int) by omega)]
      exact fin
    · have hsz : P.length < (str M).size := by rw [str_size, hT]; simp
      have hb : bt (str M) (P.length : Int) = 9 := by rw [hT, List.append_nil]; exact bt_mid P q 9
      simp only [spec_field.l0, if_pos (show (P.length : Int) < ((str M).size : Int) by omega), if_pos (show 0 ≤ (P.length : Int) by omega), hb, if_true]
      exact fin
  | cons x b ih =>
    intro P out hT hx ho
    have hT' : M = P ++ x :: (b ++ p) := by rw [hT]; simp
    have hlen : P.length < M.length := by rw [hT']; simp
    have hb : bt (str M) (P.length : Int) = (x.toNat : Int) := by rw [hT']; exact bt_mid P _ x
    obtain ⟨h9, h10, h34⟩ := hx x (by simp)
    refine Ev.shift ?_
    simp only [spec_field.l0, str_size, if_pos (show (P.length : Int) < (M.length : Int) by omega), if_pos (show 0 ≤ (P.length : Int) by omega), hb, if_neg (ne9 h9)]
    rw [show ((x.toNat : Int) != 10) = true by simpa using ne10 h10]
    refine Ev.shift ?_
    simp only [spec_field.j2, str_size, if_true, if_pos (show (P.length : Int) < (M.length : Int) by omega), if_pos (show 0 ≤ (P.length : Int) by omega), hb, if_neg (ne34 h34), nb_length, if_pos (show out.length < 140737488355328 by omega), wrap_succ P.length (by omega)]
    have := ih (P ++ [x]) (out ++ [x]) (by rw [hT]; simp) (fun y hy => hx y (by simp [hy])) (by simp; omega)
    rw [nb_append, List.length_append, List.length_singleton, List.append_assoc] at this
    have e : P.length + 1 + b.length = P.length + (x :: b).length := by simp; omega
    rw [e] at this
    exact this

theorem quoted_l (p : List UInt8) (hp : Post p) (M : List UInt8) (hM : M.length ≤ 100000000) : ∀ (b P out : List UInt8), M = P ++ twice b ++ 34 :: p → out.length ≤ P.length →
    Ev (fun k => spec_field.l1 k (str M) (P.length : Int) (nb out)) (str (out ++ b), ((P.length + (twice b).length + 1 : Nat) : Int), true) := by
  intro b
  induction b with
  | nil =>
    intro P out hT ho
    have hT' : M = P ++ 34 :: p := by rw [hT]; simp [twice]
    have hlen : P.length < M.length := by rw [hT']; simp
    have hb : bt (str M) (P.length : Int) = 34 := by rw [hT']; exact bt_mid P _ 34
    refine Ev.shift ?_
    simp only [spec_field.l1, str_size, if_pos (show (P.length : Int) < (M.length : Int) by omega), if_pos (show 0 ≤ (P.length : Int) by omega), hb, if_true, wrap_succ P.length (by omega)]
    rcases hp with rfl | ⟨q, rfl⟩
    · have hsz : M.length = P.length + 1 := by rw [hT']; simp
      simp only [hsz, if_neg (show ¬ ((P.length + 1 : Nat) : Int) < ((P.length + 1 : Nat) : Int) by omega), strOfNums_nb, List.append_nil]
      exact Ev.now _
    · have hsz : P.length + 1 < M.length := by rw [hT']; simp
      have hb2 : bt (str M) ((P.length + 1 : Nat) : Int) = 9 := by
        have := bt_mid (P ++ [34]) q 9
        rw [List.length_append, List.length_singleton] at this
        rw [hT']; simpa using this
      simp only [if_pos (show ((P.length + 1 : Nat) : Int) < (M.length : Int) by omega), if_pos (show 0 ≤ ((P.length + 1 : Nat) : Int) by omega), hb2, if_neg (show ¬ (9 : Int) = 34 by omega), strOfNums_nb, List.append_nil]
      exact Ev.now _
  | cons x b ih =>
    intro P out hT ho
    by_cases hx : x = 34
    · subst hx
      have ht : twice (34 :: b) = 34 :: 34 :: twice b := rfl
      have hT' : M = P ++ 34 :: (34 :: (twice b ++ 34 :: p)) := by rw [hT, ht]; simp
      have hlen : P.length + 1 < M.length := by rw [hT']; simp
      have hb : bt (str M) (P.length : Int) = 34 := by rw [hT']; exact bt_mid P _ 34
      have hb2 : bt (str M) ((P.length + 1 : Nat) : Int) = 34 := by
        have := bt_mid (P ++ [34]) (twice b ++ 34 :: p) 34
        rw [List.length_append, List.length_singleton] at this
        rw [hT']; simpa using this
      refine Ev.shift ?_
      simp only [spec_field.l1, str_size, if_pos (show (P.length : Int) < (M.length : Int) by omega), if_pos (show 0 ≤ (P.length : Int) by omega), hb, if_true, wrap_succ P.length (by omega), if_pos (show ((P.length + 1 : Nat) : Int) < (M.length : Int) by omega), if_pos (show 0 ≤ ((P.length + 1 : Nat) : Int) by omega), hb2, nb_length, if_pos (show out.length < 140737488355328 by omega), wrap_succ (P.length + 1) (by omega)]
      have := ih (P ++ [34, 34]) (out ++ [34]) (by rw [hT']; simp) (by simp; omega)
      rw [nb_append, List.length_append, List.append_assoc] at this
      have e : P.length + ([34, 34] : List UInt8).length + (twice b).length + 1 = P.length + (twice (34 :: b)).length + 1 := by rw [ht]; simp; omega
      rw [e] at this
      exact this
    · have ht : twice (x :: b) = x :: twice b := by unfold twice; rw [List.flatMap_cons, if_neg hx]; rfl
      have hT' : M = P ++ x :: (twice b ++ 34 :: p) := by rw [hT, ht]; simp
      have hlen : P.length < M.length := by rw [hT']; simp
      have hb : bt (str M) (P.length : Int) = (x.toNat : Int) := by rw [hT']; exact bt_mid P _ x
      refine Ev.shift ?_
      simp only [spec_field.l1, str_size, if_pos (show (P.length : Int) < (M.length : Int) by omega), if_pos (show 0 ≤ (P.length : Int) by omega), hb, if_neg (ne34 hx), nb_length, if_pos (show out.length < 140737488355328 by omega), wrap_succ P.length (by omega)]
      have := ih (P ++ [x]) (out ++ [x]) (by rw [hT']; simp) (by simp; omega)
      rw [nb_append, List.length_append, List.length_singleton, List.append_assoc] at this
      have e : P.length + 1 + (twice b).length + 1 = P.length + (twice (x :: b)).length + 1 := by rw [ht]; simp; omega
      rw [e] at this
      exact this

/-- a field, whichever way it was written -/
theorem field (c P p : List UInt8) (hc : c.length ≤ 100000) (hp : Post p) (M : List UInt8) (hT : M = P ++ wq c ++ p) (hM : M.length ≤ 100000000) :
    Ev (fun k => spec_field.f k (str M) (P.length : Int) 9) (str c, ((P.length + (wq c).length : Nat) : Int), true) := by
  obtain ⟨hq, _⟩ := qd_spec c hc
  by_cases h : qd c = true
  · have hw : wq c = [34] ++ twice c ++ [34] := by unfold wq; rw [if_pos h]
    have hT' : M = P ++ 34 :: (twice c ++ 34 :: p) := by rw [hT, hw]; simp
    have hlen : P.length < M.length := by rw [hT']; simp
    have hb : bt (str M) (P.length : Int) = 34 := by rw [hT']; exact bt_mid P _ 34
    unfold spec_field.f
    simp only [str_size, if_neg (show ¬ (P.length : Int) ≥ (M.length : Int) by omega), if_pos (show 0 ≤ (P.length : Int) by omega), if_pos (show (P.length : Int) < (M.length : Int) by omega), hb]
    rw [show ((34 : Int) != 34) = false by decide]
    refine Ev.shift ?_
    simp only [spec_field.j0, Bool.false_eq_true, if_false, wrap_succ P.length (by omega)]
    have := quoted_l p hp M hM c (P ++ [34]) [] (by rw [hT']; simp) (by simp)
    rw [List.length_append, List.length_singleton, List.nil_append] at this
    have e : P.length + 1 + (twice c).length + 1 = P.length + (wq c).length := by rw [hw]; simp; omega
    rw [e] at this
    exact this
  · have h' : qd c = false := by simpa using h
    have hw : wq c = c := by unfold wq; rw [if_neg h]
    rw [hw] at hT ⊢
    have main := plain_l p hp M hM c P [] hT (hq h') (by simp)
    rw [List.nil_append] at main
    have main' : Ev (fun k => spec_field.j0 k (str M) (P.length : Int) 9 ([] : List Int) true) (str c, ((P.length + c.length : Nat) : Int), true) := by
      refine Ev.shift ?_
      simp only [spec_field.j0, if_true]
      exact main
    unfold spec_field.f
    have hms : (str M).size = M.length := rfl
    by_cases hge : (P.length : Int) ≥ ((str M).size : Int)
    · simp only [if_pos hge]; exact main'
    · simp only [if_neg hge, if_pos (show 0 ≤ (P.length : Int) by omega), if_pos (show (P.length : Int) < ((str M).size : Int) by omega)]
      have hb : (bt (str M) (P.length : Int) != 34) = true := by
        cases c with
        | cons x c' =>
          rw [show M = P ++ x :: (c' ++ p) by rw [hT]; simp, bt_mid]
          simpa using ne34 (hq h' x (by simp)).2.2
        | nil =>
          rcases hp with rfl | ⟨q, rfl⟩
          · rw [hms, hT] at hge; simp at hge
          · rw [show M = P ++ 9 :: q by rw [hT]; simp, bt_mid]; decide
      rw [hb]
      exact main'

noncomputable def enc : List ByteArray → List UInt8
  | [] => []
  | [c] => wq c.data.toList
  | c :: d :: l => wq c.data.toList ++ 9 :: enc (d :: l)

theorem rows_l (M : List UInt8) (hM : M.length ≤ 100000000) : ∀ (cs : List ByteArray) (P : List UInt8) (l : List ByteArray), cs ≠ [] → (∀ c ∈ cs, c.size ≤ 100000) → M = P ++ enc cs → l.length + cs.length ≤ 100000 →
    Ev (fun k => spec_Rows.l1 k (str M) 9 [] (P.length : Int) l) ([l ++ cs], true) := by
  have hms : (str M).size = M.length := rfl
  intro cs
  induction cs with
  | nil => intro P l h; exact absurd rfl h
  | cons c cs ih =>
    intro P l _ hsz hT hl
    have hcl : c.data.toList.length ≤ 100000 := by rw [size_data]; exact hsz c (by simp)
    refine Ev.shift ?_
    simp only [spec_Rows.l1]
    cases cs with
    | nil =>
      have hT' : M = P ++ wq c.data.toList ++ [] := by rw [hT]; simp [enc]
      refine Ev.bind (field c.data.toList P [] hcl (.inl rfl) M hT' hM) ?_
      have hlen : M.length = P.length + (wq c.data.toList).length := by rw [hT']; simp
      simp only [if_true, str_of, if_pos (show l.length < 8796093022208 by simp at hl; omega), Option.bind_some, if_pos (show ((P.length + (wq c.data.toList).length : Nat) : Int) ≥ ((str M).size : Int) by omega)]
      refine Ev.shift ?_
      simp only [spec_Rows.j2, List.length_nil, if_pos (show 0 < 5864062014805 by omega), Option.bind_some, if_pos (show ((P.length + (wq c.data.toList).length : Nat) : Int) ≥ ((str M).size : Int) by omega), List.nil_append]
      exact Ev.now _
    | cons d cs =>
      have hT' : M = P ++ wq c.data.toList ++ 9 :: enc (d :: cs) := by rw [hT]; simp [enc]
      refine Ev.bind (field c.data.toList P (9 :: enc (d :: cs)) hcl (.inr ⟨_, rfl⟩) M hT' hM) ?_
      have hlen : P.length + (wq c.data.toList).length < M.length := by rw [hT']; simp
      have hb : bt (str M) ((P.length + (wq c.data.toList).length : Nat) : Int) = 9 := by
        have := bt_mid (P ++ wq c.data.toList) (enc (d :: cs)) 9
        rw [List.length_append] at this
        rw [hT']; exact this
      simp only [if_true, str_of, if_pos (show l.length < 8796093022208 by simp at hl; omega), Option.bind_some, if_neg (show ¬ ((P.length + (wq c.data.toList).length : Nat) : Int) ≥ ((str M).size : Int) by omega), if_pos (show 0 ≤ ((P.length + (wq c.data.toList).length : Nat) : Int) by omega), if_pos (show ((P.length + (wq c.data.toList).length : Nat) : Int) < ((str M).size : Int) by omega), hb, wrap_succ _ (show P.length + (wq c.data.toList).length < 9223372036854775807 by omega)]
      have := ih (P ++ wq c.data.toList ++ [9]) (l ++ [c]) (List.cons_ne_nil _ _) (fun x hx => hsz x (by simp [hx])) (by rw [hT']; simp) (by simp at hl ⊢; omega)
      rw [show l ++ [c] ++ d :: cs = l ++ c :: d :: cs by simp] at this
      have e2 : (P ++ wq c.data.toList ++ [9]).length = P.length + (wq c.data.toList).length + 1 := by simp; omega
      rw [e2] at this
      exact this

theorem part_enc (l : List ByteArray) : ∀ d i : Nat, i + d + 1 = l.length → TsvW.part l i ++ (if i = 0 then [] else [9]) ++ enc (l.drop i) = TsvW.part l l.length := by
  intro d
  induction d with
  | zero =>
    intro i hi
    have e : l.drop i = [l.getD i ByteArray.empty] := by
      rw [List.drop_eq_getElem_cons (show i < l.length by omega), List.drop_of_length_le (by omega), getD_at _ _ _ (by omega)]
    rw [e, ← hi]
    rfl
  | succ d ih =>
    intro i hi
    have := ih (i + 1) (by omega)
    rw [← this]
    have e : l.drop i = l.getD i ByteArray.empty :: l.drop (i + 1) := by
      rw [List.drop_eq_getElem_cons (show i < l.length by omega), getD_at _ _ _ (by omega)]
    obtain ⟨x, y, hxy⟩ : ∃ x y, l.drop (i + 1) = x :: y := by rw [List.drop_eq_getElem_cons (show i + 1 < l.length by omega)]; exact ⟨_, _, rfl⟩
    rw [e, hxy]
    simp [enc, TsvW.part]
theorem rows (l : List ByteArray) (hne : l ≠ []) (hl : ∀ c ∈ l, c.size ≤ 2000) (hn : l.length ≤ 2001) : Ev (fun k => spec_Rows.f k (str (TsvW.part l l.length)) 9) ([l], true) := by
  have hpos : 0 < l.length := List.length_pos_iff.2 hne
  have he := part_enc l (l.length - 1) 0 (by omega)
  simp only [TsvW.part, if_true, List.nil_append, List.drop_zero] at he
  unfold spec_Rows.f
  refine Ev.shift ?_
  simp only [spec_Rows.l0]
  have hlen := part_length l hl l.length (Nat.le_refl _)
  have := rows_l (TsvW.part l l.length) (by omega) l [] [] hne (fun c hc => by have := hl c hc; omega) (by rw [he]; rfl) (by simp; omega)
  simpa using this

theorem fits_l (l : List ByteArray) (hn : l.length ≤ 2147483647) : ∀ d i : Nat, i + d = l.length → ∃ b, Ev (fun k => laws_zzFits4.l0 k l (l.length : Int) (i : Int)) b ∧ (b = true → ∀ j, i ≤ j → j < l.length → (l.getD j ByteArray.empty).size ≤ 2147483647) := by
  intro d
  induction d with
  | zero =>
    intro i hi
    refine ⟨true, Ev.shift ?_, fun _ j h1 h2 => by omega⟩
    simp only [laws_zzFits4.l0, if_neg (show ¬ (i : Int) < (l.length : Int) by omega)]
    exact Ev.now _
  | succ d ih =>
    intro i hi
    by_cases hb : ((l.getD i ByteArray.empty).size : Int) > 2147483647
    · refine ⟨false, Ev.shift ?_, fun h => by cases h⟩
      simp only [laws_zzFits4.l0, if_pos (show (i : Int) < (l.length : Int) by omega), if_pos (show 0 ≤ (i : Int) by omega), rdOf_nat, if_pos hb]
      exact Ev.now _
    · obtain ⟨b, h1, h2⟩ := ih (i + 1) (by omega)
      refine ⟨b, Ev.shift ?_, fun hb' j hj1 hj2 => ?_⟩
      · simp only [laws_zzFits4.l0, if_pos (show (i : Int) < (l.length : Int) by omega), if_pos (show 0 ≤ (i : Int) by omega), rdOf_nat, if_neg hb, wrap_succ i (by omega)]
        exact h1
      · rcases Nat.eq_or_lt_of_le hj1 with rfl | h
        · omega
        · exact h2 hb' j h hj2
theorem fits (l : List ByteArray) : ∃ b, Ev (fun k => laws_zzFits4.f k l) b ∧ (b = true → l.length ≤ 2147483647 ∧ ∀ j, j < l.length → (l.getD j ByteArray.empty).size ≤ 2147483647) := by
  unfold laws_zzFits4.f
  by_cases h : (l.length : Int) > 2147483647
  · refine ⟨false, ?_, fun h => by cases h⟩
    simp only [if_pos h]; exact Ev.now _
  · obtain ⟨b, h1, h2⟩ := fits_l l (by omega) l.length 0 (by omega)
    refine ⟨b, ?_, fun hb => ⟨by omega, fun j hj => h2 hb j (by omega) hj⟩⟩
    simp only [if_neg h]; exact h1

theorem texts_l (l : List ByteArray) (hn : l.length ≤ 2147483647) (hs : ∀ j, j < l.length → (l.getD j ByteArray.empty).size ≤ 2147483647) : ∀ d i n : Nat, i + d = l.length → n ≤ 3000000000 →
    ∃ b, Ev (fun k => laws_texts.l0 k l 2000 (n : Int) (i : Int)) b ∧ (b = true → n + d ≤ 2000 ∧ ∀ j, i ≤ j → j < l.length → (l.getD j ByteArray.empty).size ≤ 2000) := by
  intro d
  induction d with
  | zero =>
    intro i n hi h
    refine ⟨decide ((n : Int) ≤ 2000), Ev.shift ?_, fun hb => ⟨by simp at hb; omega, fun j h1 h2 => by omega⟩⟩
    simp only [laws_texts.l0, if_neg (show ¬ (i : Int) < (l.length : Int) by omega)]
    exact Ev.now _
  | succ d ih =>
    intro i n hi h
    by_cases hle : (n : Int) ≤ 2000
    · have hsi := hs i (by omega)
      obtain ⟨b, h1, h2⟩ := ih (i + 1) (n + ((l.getD i ByteArray.empty).size + 1)) (by omega) (by omega)
      refine ⟨b, Ev.shift ?_, fun hb => ?_⟩
      · simp only [laws_texts.l0, if_pos (show (i : Int) < (l.length : Int) by omega), if_pos hle, if_pos (show 0 ≤ (i : Int) by omega), rdOf_nat, wrap_succ i (by omega), wrap_succ _ (show (l.getD i ByteArray.empty).size < 9223372036854775807 by omega)]
        rw [wrap_in (by omega) (by omega)]
        exact h1
      · obtain ⟨h3, h4⟩ := h2 hb
        refine ⟨by omega, fun j hj1 hj2 => ?_⟩
        rcases Nat.eq_or_lt_of_le hj1 with rfl | h
        · omega
        · exact h4 j h hj2
    · refine ⟨false, Ev.shift ?_, fun h => by cases h⟩
      simp only [laws_texts.l0, if_pos (show (i : Int) < (l.length : Int) by omega), if_neg hle, decide_eq_false hle]
      exact Ev.now _
theorem texts (l : List ByteArray) (hn : l.length ≤ 2147483647) (hs : ∀ j, j < l.length → (l.getD j ByteArray.empty).size ≤ 2147483647) :
    ∃ b, Ev (fun k => laws_texts.f k l 2000) b ∧ (b = true → l.length ≤ 2001 ∧ ∀ c ∈ l, c.size ≤ 2000) := by
  obtain ⟨b, h1, h2⟩ := texts_l l hn hs l.length 0 0 (by omega) (by omega)
  refine ⟨b, h1, fun hb => ⟨by have := (h2 hb).1; omega, fun c hc => ?_⟩⟩
  obtain ⟨j, hj, rfl⟩ := List.mem_iff_getElem.1 hc
  have := (h2 hb).2 j (by omega) hj
  rwa [getD_at _ _ _ hj] at this

theorem same_l1 (l : List ByteArray) (hn : l.length ≤ 100000) : ∀ d i : Nat, i + d = l.length → Ev (fun k => spec_SameGrid.l1 k [l] [l] 0 (i : Int)) true := by
  have e : rd_L2 [l] 0 = l := rfl
  intro d
  induction d with
  | zero =>
    intro i hi
    refine Ev.shift ?_
    simp only [spec_SameGrid.l1, e, if_pos (show (0 : Int) ≤ 0 by omega), if_pos (show (0 : Int) < (([l] : List (List ByteArray)).length : Int) by simp), if_neg (show ¬ (i : Int) < (l.length : Int) by omega)]
    refine Ev.shift ?_
    simp only [spec_SameGrid.l0]
    rw [wrap_in (by omega) (by omega)]
    simp only [if_neg (show ¬ (0 : Int) + 1 < (([l] : List (List ByteArray)).length : Int) by simp)]
    exact Ev.now _
  | succ d ih =>
    intro i hi
    refine Ev.shift ?_
    simp only [spec_SameGrid.l1, e, if_pos (show (0 : Int) ≤ 0 by omega), if_pos (show (0 : Int) < (([l] : List (List ByteArray)).length : Int) by simp), if_pos (show (i : Int) < (l.length : Int) by omega), if_pos (show 0 ≤ (i : Int) by omega), if_true, wrap_succ i (by omega)]
    exact ih (i + 1) (by omega)
theorem same (l : List ByteArray) (hn : l.length ≤ 100000) : Ev (fun k => spec_SameGrid.f k [l] [l]) true := by
  unfold spec_SameGrid.f
  simp only [if_true]
  refine Ev.shift ?_
  have e : rd_L2 [l] 0 = l := rfl
  simp only [spec_SameGrid.l0, e, if_pos (show (0 : Int) < (([l] : List (List ByteArray)).length : Int) by simp), if_pos (show (0 : Int) ≤ 0 by omega), if_true]
  exact same_l1 l hn l.length 0 (by omega)
end Go.Proofs.Ytelbcekkfdpoaaa.TsvP
