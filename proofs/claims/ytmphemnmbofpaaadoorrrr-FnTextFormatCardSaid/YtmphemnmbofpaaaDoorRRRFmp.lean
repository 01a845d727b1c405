/- The law of formats, in plain Lean. -/
import Derived.Test.YtmphemnmbofpaaaDoorRRRGFnTextFormatx
import Derived.Test.YtmphemnmbofpaaaDoorRRRSqa
import Derived.Test.YtmphemnmbofpaaaDoorRRRMpx
namespace Go.Proofs.YtmphemnmbofpaaaDoorRRR.Fmp
open Go Go.RowKit Go.Lib Go.Proofs.YtmphemnmbofpaaaDoorRRR.GFnTextFormat Go.Proofs.YtmphemnmbofpaaaDoorRRRW.PrintWords Go.Proofs.YtmphemnmbofpaaaDoorRRRW.PrintLast Go.Proofs.YtmphemnmbofpaaaDoorRRRW.PrintMore Go.Proofs.YtmphemnmbofpaaaDoorRRR.Small Go.Proofs.YtmphemnmbofpaaaDoorRRR.Sqa Go.Proofs.YtmphemnmbofpaaaDoorRRR.Itr Go.Proofs.YtmphemnmbofpaaaDoorRRR.Dec Go.Proofs.YtmphemnmbofpaaaDoorRRR.Mpw

theorem more_at (s : ByteArray) (p : Nat) (hp : p < s.size) : itr_more.f s (p : Int) = some ((p : Int), ((Utf8.decode s p).1 : Int), ((p + (Utf8.decode s p).2 : Nat) : Int)) := by
  unfold itr_more.f Itr.runeAt Itr.runeLen
  rw [if_pos (by omega), if_pos (by omega)]
  simp
theorem end_at (s : ByteArray) : itr_end.f s (s.size : Int) = some (s.size : Int) := by
  unfold itr_end.f
  rw [if_pos (by omega), if_neg (by omega)]
theorem rd32 (l : List S32) (i : Nat) (h : i < l.length) : rd_T32 l (i : Int) = l[i] := by unfold rd_T32; rw [Int.toNat_natCast]; exact Small.getD_at _ _ _ h
theorem drop_at {α : Type} (l : List α) (i : Nat) (h : i < l.length) : l.drop i = l[i] :: l.drop (i + 1) := List.drop_eq_getElem_cons h
theorem attr (c : Int) : ∃ b, spec_TxAttribute.f c = some b ∧ (b = true → 1 ≤ c ∧ c ≤ 107) := by
  unfold spec_TxAttribute.f
  repeat' split
  all_goals first
    | exact ⟨_, rfl, fun _ => by omega⟩
    | exact ⟨_, rfl, fun h => by simp at h; omega⟩
    | exact ⟨_, rfl, fun h => by cases h⟩
theorem boxed (r : Int) : ∃ b, spec_TxBoxed.f r = some b ∧ (b = true → 128 ≤ r) := by
  unfold spec_TxBoxed.f
  split
  · exact ⟨_, rfl, fun _ => by omega⟩
  · exact ⟨_, rfl, fun h => by cases h⟩
theorem wide (r : Int) : ∃ b, spec_TxWide.f r = some b ∧ (b = true → 128 ≤ r) := by
  by_cases h : 12353 ≤ r
  · unfold spec_TxWide.f
    repeat' split
    all_goals exact ⟨_, rfl, fun _ => by omega⟩
  · unfold spec_TxWide.f
    repeat rw [if_neg (by omega)]
    exact ⟨_, rfl, fun h => by cases h⟩
theorem known (r : Int) : ∃ b, spec_TxKnown.f r = some b ∧ (b = true → r ≠ 27) := by
  obtain ⟨b1, h1, g1⟩ := boxed r
  obtain ⟨b2, h2, g2⟩ := wide r
  unfold spec_TxKnown.f
  simp only [h1, h2, Option.bind_some]
  by_cases a : r ≥ 32
  · rw [if_pos a]
    by_cases b : r ≤ 126
    · rw [if_pos b]; exact ⟨_, rfl, fun _ => by omega⟩
    · rw [if_neg b]
      split
      · exact ⟨_, rfl, fun _ => by omega⟩
      · exact ⟨_, rfl, fun _ => by omega⟩
  · rw [if_neg a]
    split
    · rename_i h
      exact ⟨_, rfl, fun _ => by have := g1 h; omega⟩
    · exact ⟨_, rfl, fun h => by have := g2 h; omega⟩

theorem simple_l (s : ByteArray) : ∀ d p : Nat, p + d = s.size → ∃ b, Ev (fun k => spec_TxSimple.l0 k true s (p : Int)) b := by
  intro d
  induction d using Nat.strongRecOn with
  | ind d ih =>
    intro p hp
    rcases Nat.eq_zero_or_pos d with rfl | hd
    · obtain rfl : p = s.size := by omega
      refine ⟨true, Ev.shift ?_⟩
      simp only [spec_TxSimple.l0, if_neg (show ¬ (s.size : Int) < (s.size : Int) by omega), end_at, Option.bind_some]
      exact Ev.now _
    · obtain ⟨h1, h2, hc⟩ := dec s p (by omega)
      obtain ⟨b, hb⟩ := ih (s.size - (p + (Utf8.decode s p).2)) (by omega) (p + (Utf8.decode s p).2) (by omega)
      obtain ⟨kb, hk, hk27⟩ := known ((Utf8.decode s p).1 : Int)
      cases kb with
      | false =>
        by_cases h10 : ((Utf8.decode s p).1 : Int) = 10
        · refine ⟨b, Ev.shift ?_⟩
          simp only [spec_TxSimple.l0, if_pos (show (p : Int) < (s.size : Int) by omega), more_at s p (by omega), Option.bind_some, hk, if_neg (show ¬ (false = true) by decide), if_true, if_pos h10]
          exact hb
        · refine ⟨false, Ev.shift ?_⟩
          simp only [spec_TxSimple.l0, if_pos (show (p : Int) < (s.size : Int) by omega), more_at s p (by omega), Option.bind_some, hk, if_neg (show ¬ (false = true) by decide), if_true, if_neg h10]
          exact Ev.now _
      | true =>
        refine ⟨b, Ev.shift ?_⟩
        simp only [spec_TxSimple.l0, if_pos (show (p : Int) < (s.size : Int) by omega), more_at s p (by omega), Option.bind_some, hk, if_true]
        exact hb
theorem simple (s : ByteArray) : ∃ b, Ev (fun k => spec_TxSimple.f k s true) b := by
  obtain ⟨b, hb⟩ := simple_l s s.size 0 (by omega)
  refine ⟨b, ?_⟩
  simp only [spec_TxSimple.f, itr_make.f, Option.bind_some]
  exact hb

/-! ### what is not too long -/
def Fit (x : S32) : Prop := x.f0.length ≤ 2147483647 ∧ x.f1.size ≤ 2147483647
theorem fits16 (x : S32) : ∃ b, laws_zzFits16.f x.f0 x.f1 = some b ∧ (b = true → Fit x) := by
  unfold laws_zzFits16.f
  by_cases h1 : (x.f0.length : Int) > 2147483647
  · rw [if_pos h1]; exact ⟨_, rfl, fun h => by cases h⟩
  · rw [if_neg h1]
    by_cases h2 : (x.f1.size : Int) > 2147483647
    · rw [if_pos h2]; exact ⟨_, rfl, fun h => by cases h⟩
    · rw [if_neg h2]; exact ⟨_, rfl, fun _ => ⟨by omega, by omega⟩⟩
theorem fits15_l (l : List S32) (hl : l.length ≤ 2147483647) : ∀ d i : Nat, i + d = l.length → ∃ b, Ev (fun k => laws_zzFits15.l0 k l (l.length : Int) (i : Int)) b ∧ (b = true → ∀ x ∈ l.drop i, Fit x) := by
  intro d
  induction d with
  | zero =>
    intro i hi
    refine ⟨true, Ev.shift ?_, fun _ x hx => ?_⟩
    · simp only [laws_zzFits15.l0, if_neg (show ¬ (i : Int) < (l.length : Int) by omega)]
      exact Ev.now _
    · rw [List.drop_of_length_le (by omega)] at hx; cases hx
  | succ d ih =>
    intro i hi
    have hil : i < l.length := by omega
    obtain ⟨b, hb, hbt⟩ := ih (i + 1) (by omega)
    obtain ⟨c, hc, hct⟩ := fits16 l[i]
    cases c with
    | false =>
      refine ⟨false, Ev.shift ?_, fun h => by cases h⟩
      simp only [laws_zzFits15.l0, if_pos (show (i : Int) < (l.length : Int) by omega), if_pos (show 0 ≤ (i : Int) by omega), rd32 l i hil, hc, Option.bind_some, if_neg (show ¬ (false = true) by decide)]
      exact Ev.now _
    | true =>
      refine ⟨b, Ev.shift ?_, fun h x hx => ?_⟩
      · simp only [laws_zzFits15.l0, if_pos (show (i : Int) < (l.length : Int) by omega), if_pos (show 0 ≤ (i : Int) by omega), rd32 l i hil, hc, Option.bind_some, if_true, wrap_succ i (by omega)]
        exact hb
      · rw [drop_at l i hil] at hx
        rcases List.mem_cons.1 hx with rfl | hx
        · exact hct rfl
        · exact hbt h x hx
theorem fits15 (l : List S32) : ∃ b, Ev (fun k => laws_zzFits15.f k l) b ∧ (b = true → l.length ≤ 2147483647 ∧ ∀ x ∈ l, Fit x) := by
  by_cases h : (l.length : Int) > 2147483647
  · refine ⟨false, ?_, fun h => by cases h⟩
    simp only [laws_zzFits15.f, if_pos h]
    exact Ev.now _
  · obtain ⟨b, hb, hbt⟩ := fits15_l l (by omega) l.length 0 (by omega)
    refine ⟨b, ?_, fun hh => ⟨by omega, fun x hx => hbt hh x hx⟩⟩
    simp only [laws_zzFits15.f, if_neg h]
    exact hb

/-! ### good pieces -/
def Good (x : S32) : Prop := x.f1.size ≤ 500 ∧ x.f0.length ≤ 4 ∧ ∀ c ∈ x.f0, (1 ≤ c ∧ c ≤ 107) ∨ c = 0
theorem codes_l (l : List S32) (n : Int) (i : Nat) (cs : List Int) (t : ByteArray) (hcs : cs.length ≤ 2147483647) (r : Bool) (hr : Ev (fun k => spec_TxGood.l0 k l true l n (wrap64 ((i : Int) + 1))) r) :
    ∀ d j : Nat, j + d = cs.length → ∃ b, Ev (fun k => spec_TxGood.l1 k l true l n (i : Int) cs (cs.length : Int) (j : Int) cs t) b ∧ (b = true → r = true ∧ ∀ c ∈ cs.drop j, (1 ≤ c ∧ c ≤ 107) ∨ c = 0) := by
  intro d
  induction d with
  | zero =>
    intro j hj
    refine ⟨r, Ev.shift ?_, fun h => ⟨h, fun x hx => ?_⟩⟩
    · simp only [spec_TxGood.l1, if_neg (show ¬ (j : Int) < (cs.length : Int) by omega)]
      exact hr
    · rw [List.drop_of_length_le (by omega)] at hx; cases hx
  | succ d ih =>
    intro j hj
    have hjl : j < cs.length := by omega
    obtain ⟨b, hb, hbt⟩ := ih (j + 1) (by omega)
    obtain ⟨a, ha, hat⟩ := attr cs[j]
    cases a with
    | true =>
      refine ⟨b, Ev.shift ?_, fun h => ⟨(hbt h).1, fun x hx => ?_⟩⟩
      · simp only [spec_TxGood.l1, if_pos (show (j : Int) < (cs.length : Int) by omega), if_pos (show 0 ≤ (j : Int) by omega), rd_nat, Small.getD_at 0 cs j hjl, ha, Option.bind_some, if_true, wrap_succ j (by omega)]
        exact hb
      · rw [drop_at cs j hjl] at hx
        rcases List.mem_cons.1 hx with rfl | hx
        · exact Or.inl (hat rfl)
        · exact (hbt h).2 x hx
    | false =>
      by_cases h0 : cs[j] = 0
      · by_cases h1 : (cs.length : Int) > 1
        · refine ⟨false, Ev.shift ?_, fun h => by cases h⟩
          simp only [spec_TxGood.l1, if_pos (show (j : Int) < (cs.length : Int) by omega), if_pos (show 0 ≤ (j : Int) by omega), rd_nat, Small.getD_at 0 cs j hjl, ha, Option.bind_some, if_neg (show ¬ (false = true) by decide), if_pos h0, if_pos h1]
          exact Ev.now _
        · refine ⟨b, Ev.shift ?_, fun h => ⟨(hbt h).1, fun x hx => ?_⟩⟩
          · simp only [spec_TxGood.l1, if_pos (show (j : Int) < (cs.length : Int) by omega), if_pos (show 0 ≤ (j : Int) by omega), rd_nat, Small.getD_at 0 cs j hjl, ha, Option.bind_some, if_neg (show ¬ (false = true) by decide), if_pos h0, if_neg h1, wrap_succ j (by omega)]
            exact hb
          · rw [drop_at cs j hjl] at hx
            rcases List.mem_cons.1 hx with rfl | hx
            · exact Or.inr h0
            · exact (hbt h).2 x hx
      · refine ⟨false, Ev.shift ?_, fun h => by cases h⟩
        simp only [spec_TxGood.l1, if_pos (show (j : Int) < (cs.length : Int) by omega), if_pos (show 0 ≤ (j : Int) by omega), rd_nat, Small.getD_at 0 cs j hjl, ha, Option.bind_some, if_neg (show ¬ (false = true) by decide), if_neg h0]
        exact Ev.now _
theorem good_l (l : List S32) (hl : l.length ≤ 2147483647) (hf : ∀ x ∈ l, Fit x) : ∀ d i : Nat, i + d = l.length → ∃ b, Ev (fun k => spec_TxGood.l0 k l true l (l.length : Int) (i : Int)) b ∧ (b = true → l.length ≤ 40 ∧ ∀ x ∈ l.drop i, Good x) := by
  intro d
  induction d with
  | zero =>
    intro i hi
    refine ⟨decide ((l.length : Int) ≤ 40), Ev.shift ?_, fun h => ⟨?_, fun x hx => ?_⟩⟩
    · simp only [spec_TxGood.l0, if_neg (show ¬ (i : Int) < (l.length : Int) by omega)]
      exact Ev.now _
    · simp at h; omega
    · rw [List.drop_of_length_le (by omega)] at hx; cases hx
  | succ d ih =>
    intro i hi
    have hil : i < l.length := by omega
    obtain ⟨b, hb, hbt⟩ := ih (i + 1) (by omega)
    have hfi := hf l[i] (List.getElem_mem _)
    obtain ⟨sb, hs⟩ := simple l[i].f1
    have go : ∀ r : Bool, Ev (fun k => spec_TxGood.j1 k l true l (l.length : Int) (i : Int) r l[i].f0 l[i].f1) false ∨ r = false := fun r => by
      cases r with
      | true => exact Or.inl (Ev.shift (by simp only [spec_TxGood.j1, if_true]; exact Ev.now _))
      | false => exact Or.inr rfl
    cases sb with
    | false =>
      refine ⟨false, Ev.shift ?_, fun h => by cases h⟩
      simp only [spec_TxGood.l0, if_pos (show (i : Int) < (l.length : Int) by omega), if_pos (show 0 ≤ (i : Int) by omega), rd32 l i hil]
      refine Ev.bind hs ?_
      simp only [if_neg (show ¬ (false = true) by decide)]
      exact (go true).resolve_right (by decide)
    | true =>
      by_cases h5 : ((l[i].f1.size : Nat) : Int) > 500
      · refine ⟨false, Ev.shift ?_, fun h => by cases h⟩
        simp only [spec_TxGood.l0, if_pos (show (i : Int) < (l.length : Int) by omega), if_pos (show 0 ≤ (i : Int) by omega), rd32 l i hil]
        refine Ev.bind hs ?_
        simp only [if_true, if_pos h5]
        exact (go true).resolve_right (by decide)
      · by_cases h4 : ((l[i].f0.length : Nat) : Int) > 4
        · refine ⟨false, Ev.shift ?_, fun h => by cases h⟩
          simp only [spec_TxGood.l0, if_pos (show (i : Int) < (l.length : Int) by omega), if_pos (show 0 ≤ (i : Int) by omega), rd32 l i hil]
          refine Ev.bind hs ?_
          simp only [if_true, if_neg h5, decide_eq_true h4]
          exact (go true).resolve_right (by decide)
        · obtain ⟨b2, hb2, hb2t⟩ := codes_l l (l.length : Int) i l[i].f0 l[i].f1 hfi.1 b (by rw [wrap_succ i (by omega)]; exact hb) l[i].f0.length 0 (by omega)
          refine ⟨b2, Ev.shift ?_, fun h => ⟨(hbt (hb2t h).1).1, fun x hx => ?_⟩⟩
          · simp only [spec_TxGood.l0, if_pos (show (i : Int) < (l.length : Int) by omega), if_pos (show 0 ≤ (i : Int) by omega), rd32 l i hil]
            refine Ev.bind hs ?_
            simp only [if_true, if_neg h5, decide_eq_false h4]
            refine Ev.shift ?_
            simp only [spec_TxGood.j1, if_neg (show ¬ (false = true) by decide)]
            exact hb2
          · rw [drop_at l i hil] at hx
            rcases List.mem_cons.1 hx with rfl | hx
            · exact ⟨by omega, by omega, fun c hc => (hb2t h).2 c hc⟩
            · exact (hbt (hb2t h).1).2 x hx
theorem good (l : List S32) (hl : l.length ≤ 2147483647) (hf : ∀ x ∈ l, Fit x) : ∃ b, Ev (fun k => spec_TxGood.f k l true) b ∧ (b = true → l.length ≤ 40 ∧ ∀ x ∈ l, Good x) := by
  obtain ⟨b, hb, hbt⟩ := good_l l hl hf l.length 0 (by omega)
  exact ⟨b, by simp only [spec_TxGood.f]; exact hb, fun h => hbt h⟩

/-! ### the text that is written -/
def piece (x : S32) : List UInt8 := (seqA x.f0).data.toList ++ x.f1.data.toList
def wr (l : List S32) : List UInt8 := l.flatMap piece
def Codes64 (x : S32) : Prop := ∀ c ∈ x.f0, In64 c
theorem seqA_len (cs : List Int) (h : ∀ c ∈ cs, In64 c) : (seqA cs).size ≤ 22 * cs.length + 3 := by
  unfold seqA
  split
  · simp [str_size]
  · have := bodyA_len cs h cs.length (Nat.le_refl _)
    simp only [str_size, List.length_append, List.length_cons, List.length_nil]
    omega
theorem seq_f (cs : List Int) (hl : cs.length ≤ 2147483647) (h : ∀ c ∈ cs, In64 c) : spec_TxSequence.f cs = some (seqA cs) := by
  unfold spec_TxSequence.f
  rw [if_pos hl, if_pos h]
theorem written_l (l : List S32) (hl : l.length ≤ 2147483647) (hf : ∀ x ∈ l, Fit x) (hc : ∀ x ∈ l, Codes64 x) (hw : (wr l).length ≤ 4611686018427387904) : ∀ d i : Nat, i + d = l.length → Ev (fun k => spec_TxWritten.l0 k (str (wr (l.take i))) l (l.length : Int) (i : Int)) (str (wr l)) := by
  intro d
  induction d with
  | zero =>
    intro i hi
    have e : l.take i = l := List.take_of_length_le (by omega)
    rw [e]
    refine Ev.shift ?_
    simp only [spec_TxWritten.l0, if_neg (show ¬ (i : Int) < (l.length : Int) by omega)]
    exact Ev.now _
  | succ d ih =>
    intro i hi
    have hil : i < l.length := by omega
    have hx : l[i] ∈ l := List.getElem_mem _
    have hfi := hf _ hx
    have hs1 := seqA_len l[i].f0 (hc _ hx)
    have hstep : wr (l.take (i + 1)) = wr (l.take i) ++ piece l[i] := by
      rw [take_succ_at l i hil]; unfold wr; rw [List.flatMap_append]; simp
    have hle : (wr (l.take (i + 1))).length ≤ (wr l).length := by
      have : wr l = wr (l.take (i + 1)) ++ wr (l.drop (i + 1)) := by unfold wr; rw [← List.flatMap_append, List.take_append_drop]
      rw [this, List.length_append]; omega
    rw [hstep, List.length_append] at hle
    have hp : (seqA l[i].f0 ++ l[i].f1).size = (piece l[i]).length := by unfold piece; rw [ByteArray.size_append, List.length_append]; rfl
    have e2 : str (wr (l.take i)) ++ (seqA l[i].f0 ++ l[i].f1) = str (wr (l.take (i + 1))) := by
      rw [hstep, str_append]; unfold piece; rw [str_append, str_of, str_of]
    have g1 : (seqA l[i].f0).size + l[i].f1.size ≤ 9223372036854775807 := by have := hfi.1; have := hfi.2; omega
    have g2 : (str (wr (l.take i))).size + (seqA l[i].f0 ++ l[i].f1).size ≤ 9223372036854775807 := by rw [str_size, hp]; omega
    refine Ev.shift ?_
    simp only [spec_TxWritten.l0, if_pos (show (i : Int) < (l.length : Int) by omega), if_pos (show 0 ≤ (i : Int) by omega), rd32 l i hil, seq_f _ hfi.1 (hc _ hx), Option.bind_some, if_pos g1, if_pos g2, e2, wrap_succ i (by omega)]
    exact ih (i + 1) (by omega)
theorem written (l : List S32) (hl : l.length ≤ 2147483647) (hf : ∀ x ∈ l, Fit x) (hc : ∀ x ∈ l, Codes64 x) (hw : (wr l).length ≤ 4611686018427387904) : Ev (fun k => spec_TxWritten.f k l) (str (wr l)) := by
  have := written_l l hl hf hc hw l.length 0 (by omega)
  simp only [spec_TxWritten.f]
  exact this


/-! ### the text without sequences -/
def pl (l : List S32) : List UInt8 := l.flatMap fun x => x.f1.data.toList
theorem pl_len (l : List S32) (hg : ∀ x ∈ l, Good x) : (pl l).length ≤ 500 * l.length := by
  induction l with
  | nil => simp [pl]
  | cons x l ih =>
    have e : pl (x :: l) = x.f1.data.toList ++ pl l := rfl
    have h1 := ih (fun y hy => hg y (by simp [hy]))
    have h2 := (hg x (by simp)).1
    rw [e, List.length_append, List.length_cons, size_data]
    omega
theorem plain_l (l : List S32) (hl : l.length ≤ 40) (hg : ∀ x ∈ l, Good x) : ∀ d i : Nat, i + d = l.length → Ev (fun k => spec_TxPlain.l0 k (str (pl (l.take i))) l (l.length : Int) (i : Int)) (str (pl l)) := by
  intro d
  induction d with
  | zero =>
    intro i hi
    have e : l.take i = l := List.take_of_length_le (by omega)
    rw [e]
    refine Ev.shift ?_
    simp only [spec_TxPlain.l0, if_neg (show ¬ (i : Int) < (l.length : Int) by omega)]
    exact Ev.now _
  | succ d ih =>
    intro i hi
    have hil : i < l.length := by omega
    have hx : l[i] ∈ l := List.getElem_mem _
    have h5 := (hg _ hx).1
    have hstep : pl (l.take (i + 1)) = pl (l.take i) ++ l[i].f1.data.toList := by
      rw [take_succ_at l i hil]; unfold pl; rw [List.flatMap_append]; simp
    have hle := pl_len (l.take i) (fun x hx => hg x (List.mem_of_mem_take hx))
    rw [List.length_take] at hle
    have e2 : str (pl (l.take i)) ++ l[i].f1 = str (pl (l.take (i + 1))) := by
      rw [hstep, str_append, str_of]
    have g2 : (str (pl (l.take i))).size + l[i].f1.size ≤ 9223372036854775807 := by rw [str_size]; omega
    refine Ev.shift ?_
    simp only [spec_TxPlain.l0, if_pos (show (i : Int) < (l.length : Int) by omega), if_pos (show 0 ≤ (i : Int) by omega), rd32 l i hil, if_pos g2, e2, wrap_succ i (by omega)]
    exact ih (i + 1) (by omega)
theorem plain (l : List S32) (hl : l.length ≤ 40) (hg : ∀ x ∈ l, Good x) : Ev (fun k => spec_TxPlain.f k l) (str (pl l)) := by
  have := plain_l l hl hg l.length 0 (by omega)
  simp only [spec_TxPlain.f]
  exact this

/-! ### ASCII -/
def Asc (x : UInt8) : Prop := (32 ≤ x.toNat ∧ x.toNat ≤ 126) ∨ x.toNat = 10
theorem bt_str (s : List UInt8) (i : Nat) (h : i < s.length) : bt (str s) (i : Int) = (s[i].toNat : Int) := by
  unfold bt
  rw [dif_pos (by rw [str_size]; simpa using h)]
  congr 2
theorem ascii_l (s : List UInt8) (hs : s.length ≤ 100000) : ∀ d i : Nat, i + d = s.length → ∃ b, Ev (fun k => spec_TxASCII.l0 k (str s) true (i : Int)) b ∧ (b = true → ∀ x ∈ s.drop i, Asc x) := by
  intro d
  induction d with
  | zero =>
    intro i hi
    refine ⟨true, Ev.shift ?_, fun _ x hx => ?_⟩
    · simp only [spec_TxASCII.l0, str_size, if_neg (show ¬ (i : Int) < (s.length : Int) by omega)]
      exact Ev.now _
    · rw [List.drop_of_length_le (by omega)] at hx; cases hx
  | succ d ih =>
    intro i hi
    have hil : i < s.length := by omega
    obtain ⟨b, hb, hbt⟩ := ih (i + 1) (by omega)
    have hmem : ∀ x ∈ s.drop i, x = s[i] ∨ x ∈ s.drop (i + 1) := fun x hx => by
      rw [drop_at s i hil] at hx
      exact List.mem_cons.1 hx
    by_cases h10 : (s[i].toNat : Int) = 10
    · refine ⟨b, Ev.shift ?_, fun h x hx => ?_⟩
      · simp only [spec_TxASCII.l0, str_size, if_pos (show (i : Int) < (s.length : Int) by omega), if_pos (show 0 ≤ (i : Int) by omega), bt_str s i hil, if_pos (show (s[i].toNat : Int) < 32 by omega), if_true, if_pos h10, wrap_succ i (by omega)]
        exact hb
      · rcases hmem x hx with rfl | hx
        · exact Or.inr (by omega)
        · exact hbt h x hx
    · by_cases h32 : (s[i].toNat : Int) < 32
      · refine ⟨false, Ev.shift ?_, fun h => by cases h⟩
        simp only [spec_TxASCII.l0, str_size, if_pos (show (i : Int) < (s.length : Int) by omega), if_pos (show 0 ≤ (i : Int) by omega), bt_str s i hil, if_pos h32, if_true, if_neg h10]
        exact Ev.now _
      · by_cases h126 : (s[i].toNat : Int) > 126
        · refine ⟨false, Ev.shift ?_, fun h => by cases h⟩
          simp only [spec_TxASCII.l0, str_size, if_pos (show (i : Int) < (s.length : Int) by omega), if_pos (show 0 ≤ (i : Int) by omega), bt_str s i hil, if_neg h32, if_pos h126, if_true, if_neg h10]
          exact Ev.now _
        · refine ⟨b, Ev.shift ?_, fun h x hx => ?_⟩
          · simp only [spec_TxASCII.l0, str_size, if_pos (show (i : Int) < (s.length : Int) by omega), if_pos (show 0 ≤ (i : Int) by omega), bt_str s i hil, if_neg h32, if_neg h126, wrap_succ i (by omega)]
            exact hb
          · rcases hmem x hx with rfl | hx
            · exact Or.inl (by omega)
            · exact hbt h x hx
theorem ascii (s : List UInt8) (hs : s.length ≤ 100000) : ∃ b, Ev (fun k => spec_TxASCII.f k (str s) true) b ∧ (b = true → ∀ x ∈ s, Asc x) := by
  obtain ⟨b, hb, hbt⟩ := ascii_l s hs s.length 0 (by omega)
  exact ⟨b, by simp only [spec_TxASCII.f]; exact hb, fun h x hx => hbt h x hx⟩

/-! ### the text in a case -/
/-- an octet in a case -/
def cb (m : Int) (x : UInt8) : UInt8 := if m = 1 then lowerB x else if m = 3 then Mpw.up x else x
def csP (m : Int) (x : S32) : List UInt8 := (seqA x.f0).data.toList ++ x.f1.data.toList.map (cb m)
def cs (m : Int) (l : List S32) : List UInt8 := l.flatMap (csP m)
theorem lower_nat (x : UInt8) : (lowerB x).toNat = if 65 ≤ x.toNat ∧ x.toNat ≤ 90 then x.toNat + 32 else x.toNat := by
  have e : isUpperB x = decide (65 ≤ x.toNat ∧ x.toNat ≤ 90) := by unfold isUpperB; simp [UInt8.le_iff_toNat_le]
  unfold lowerB
  rw [e]
  by_cases h : 65 ≤ x.toNat ∧ x.toNat ≤ 90
  · rw [if_pos h, if_pos (by simpa using h), UInt8.toNat_add]
    have : (32 : UInt8).toNat = 32 := rfl
    omega
  · rw [if_neg h, if_neg (by simpa using h)]
theorem up_nat (x : UInt8) : (Mpw.up x).toNat = if 97 ≤ x.toNat ∧ x.toNat ≤ 122 then x.toNat - 32 else x.toNat := by
  unfold Mpw.up
  by_cases h : 97 ≤ x.toNat ∧ x.toNat ≤ 122
  · rw [if_pos h, if_pos h, UInt8.toNat_ofNat']; omega
  · rw [if_neg h, if_neg h]
theorem w32 (n : Int) (h0 : 0 ≤ n) (h1 : n ≤ 1000) : wrap32 n = n := by unfold wrap32; omega
theorem ev_of {α : Type} {g : Nat → Option α} {r : α} (h : g 1 = some r) (hm : ∀ k, LeO (g k) (g (k + 1))) : Ev g r :=
  ⟨1, fun k hk => by
    induction hk with
    | refl => exact h
    | step _ ih => exact hm _ _ ih⟩
theorem case_f (m : Int) (hm : m = 0 ∨ m = 1 ∨ m = 3) (x : UInt8) : spec_TxCase.f 1 (x.toNat : Int) m = some ((cb m x).toNat : Int) := by
  have hx : x.toNat < 256 := UInt8.toNat_lt x
  rcases hm with rfl | rfl | rfl
  · unfold spec_TxCase.f cb
    rw [if_neg (by decide), if_neg (by decide), if_neg (by decide)]
    simp only [spec_TxCase.j0, if_neg (show ¬ (false = true) by decide), if_neg (show ¬ ((0 : Int) = 3) by decide)]
  · unfold spec_TxCase.f cb
    rw [if_pos rfl, if_pos rfl, lower_nat]
    by_cases h1 : (x.toNat : Int) ≥ 65
    · rw [if_pos h1]
      by_cases h2 : (x.toNat : Int) ≤ 90
      · rw [decide_eq_true h2, if_pos (by omega)]
        simp only [spec_TxCase.j0, if_true, w32 ((x.toNat : Int) + 32) (by omega) (by omega)]
        rfl
      · rw [decide_eq_false h2, if_neg (by omega)]
        simp only [spec_TxCase.j0, if_neg (show ¬ (false = true) by decide), if_neg (show ¬ ((1 : Int) = 3) by decide)]
    · rw [if_neg h1, if_neg (by omega)]
      simp only [spec_TxCase.j0, if_neg (show ¬ (false = true) by decide), if_neg (show ¬ ((1 : Int) = 3) by decide)]
  · unfold spec_TxCase.f cb
    rw [if_neg (by decide), if_neg (by decide), if_pos rfl, up_nat]
    simp only [spec_TxCase.j0, if_neg (show ¬ (false = true) by decide), if_true]
    by_cases h1 : (x.toNat : Int) ≥ 97
    · rw [if_pos h1]
      by_cases h2 : (x.toNat : Int) ≤ 122
      · rw [if_pos h2, if_pos (by omega), w32 ((x.toNat : Int) - 32) (by omega) (by omega)]
        congr 1; omega
      · rw [if_neg h2, if_neg (by omega)]
    · rw [if_neg h1, if_neg (by omega)]
theorem cb_lt (m : Int) (x : UInt8) (h : x.toNat < 128) : (cb m x).toNat < 128 := by
  unfold cb
  split
  · rw [lower_nat]; split <;> omega
  · split
    · exact up_lt x h
    · exact h
theorem enc_ascii (x : UInt8) (h : x.toNat < 128) : Utf8.encode (x.toNat : Int) = str [x] := by
  have : ∀ i : Fin 128, Utf8.encode ((UInt8.ofNat i.val).toNat : Int) = str [UInt8.ofNat i.val] := by decide
  have h2 := this ⟨x.toNat, h⟩
  simpa using h2
theorem Asc.lt {x : UInt8} (h : Asc x) : x.toNat < 128 := by unfold Asc at h; omega
theorem cased_in (m : Int) (hm : m = 0 ∨ m = 1 ∨ m = 3) (l : List S32) (i : Nat) (t : ByteArray) (ht : ∀ x ∈ t.data.toList, x.toNat < 128) (hts : t.size ≤ 500) (R : ByteArray) (out : List UInt8) (ho : out.length ≤ 1000000)
    (hr : Ev (fun k => spec_TxCased.l0 k m (str (out ++ t.data.toList.map (cb m))) l (l.length : Int) (wrap64 ((i : Int) + 1))) R) :
    ∀ d p : Nat, p + d = t.size → Ev (fun k => spec_TxCased.l1 k m (str (out ++ (t.data.toList.take p).map (cb m))) l (l.length : Int) (i : Int) t (p : Int)) R := by
  intro d
  induction d with
  | zero =>
    intro p hp
    obtain rfl : p = t.size := by omega
    have e : t.data.toList.take t.size = t.data.toList := List.take_of_length_le (by rw [size_data]; omega)
    rw [e]
    refine Ev.shift ?_
    simp only [spec_TxCased.l1, if_neg (show ¬ (t.size : Int) < (t.size : Int) by omega), end_at, Option.bind_some]
    exact hr
  | succ d ih =>
    intro p hp
    have hpl : p < t.data.toList.length := by rw [size_data]; omega
    have hx := ht t.data.toList[p] (List.getElem_mem _)
    have hd := Mpx.dec_ascii t p (by omega) (by rw [Small.getD_at 0 _ p hpl]; exact hx)
    rw [Small.getD_at 0 _ p hpl] at hd
    have hm1 := more_at t p (by omega)
    rw [hd] at hm1
    have h := ih (p + 1) (by omega)
    rw [take_succ_at t.data.toList p hpl, List.map_append, ← List.append_assoc, List.map_singleton, str_append] at h
    have he := enc_ascii (cb m t.data.toList[p]) (cb_lt m _ hx)
    have g2 : (str (out ++ (t.data.toList.take p).map (cb m))).size + (str [cb m t.data.toList[p]]).size ≤ 9223372036854775807 := by
      rw [str_size, str_size, List.length_append, List.length_map, List.length_take, List.length_singleton, size_data]; omega
    refine Ev.shift ?_
    simp only [spec_TxCased.l1, if_pos (show (p : Int) < (t.size : Int) by omega), hm1, Option.bind_some]
    refine Ev.bind (ev_of (g := fun k => spec_TxCase.f k (t.data.toList[p].toNat : Int) m) (case_f m hm t.data.toList[p]) (fun k => spec_TxCase.mono _ _ k)) ?_
    simp only [he, if_pos g2]
    exact h
theorem cs_len (m : Int) (l : List S32) (hg : ∀ x ∈ l, Good x) (hc : ∀ x ∈ l, Codes64 x) : (cs m l).length ≤ 600 * l.length := by
  induction l with
  | nil => simp [cs]
  | cons x l ih =>
    have e : cs m (x :: l) = csP m x ++ cs m l := rfl
    have h1 := ih (fun y hy => hg y (by simp [hy])) (fun y hy => hc y (by simp [hy]))
    have h2 := seqA_len x.f0 (hc x (by simp))
    have h3 := hg x (by simp)
    have h5 : (csP m x).length = (seqA x.f0).size + x.f1.size := by unfold csP; rw [List.length_append, List.length_map]; rfl
    have h6 := h3.1; have h7 := h3.2.1
    rw [e, List.length_append, h5, List.length_cons]
    omega
theorem cased_l (m : Int) (hm : m = 0 ∨ m = 1 ∨ m = 3) (l : List S32) (hl : l.length ≤ 40) (hf : ∀ x ∈ l, Fit x) (hg : ∀ x ∈ l, Good x) (hc : ∀ x ∈ l, Codes64 x) (ha : ∀ x ∈ l, ∀ b ∈ x.f1.data.toList, b.toNat < 128) :
    ∀ d i : Nat, i + d = l.length → Ev (fun k => spec_TxCased.l0 k m (str (cs m (l.take i))) l (l.length : Int) (i : Int)) (str (cs m l)) := by
  intro d
  induction d with
  | zero =>
    intro i hi
    have e : l.take i = l := List.take_of_length_le (by omega)
    rw [e]
    refine Ev.shift ?_
    simp only [spec_TxCased.l0, if_neg (show ¬ (i : Int) < (l.length : Int) by omega)]
    exact Ev.now _
  | succ d ih =>
    intro i hi
    have hil : i < l.length := by omega
    have hx : l[i] ∈ l := List.getElem_mem _
    have h5 := hg _ hx
    have hs1 := seqA_len l[i].f0 (hc _ hx)
    have h4 := h5.2.1
    have hstep : cs m (l.take (i + 1)) = cs m (l.take i) ++ csP m l[i] := by
      rw [take_succ_at l i hil]; unfold cs; rw [List.flatMap_append]; simp
    have hle := cs_len m (l.take i) (fun x hx => hg x (List.mem_of_mem_take hx)) (fun x hx => hc x (List.mem_of_mem_take hx))
    rw [List.length_take] at hle
    have e2 : str (cs m (l.take i)) ++ seqA l[i].f0 = str (cs m (l.take i) ++ (seqA l[i].f0).data.toList) := by rw [str_append, str_of]
    have g2 : (str (cs m (l.take i))).size + (seqA l[i].f0).size ≤ 9223372036854775807 := by rw [str_size]; omega
    have hin := cased_in m hm l i l[i].f1 (ha _ hx) h5.1 (str (cs m l)) (cs m (l.take i) ++ (seqA l[i].f0).data.toList) (by rw [List.length_append, size_data]; omega)
      (by rw [wrap_succ i (by omega), List.append_assoc]; have := ih (i + 1) (by omega); rw [hstep] at this; exact this) l[i].f1.size 0 (by omega)
    rw [List.take_zero, List.map_nil, List.append_nil] at hin
    refine Ev.shift ?_
    simp only [spec_TxCased.l0, if_pos (show (i : Int) < (l.length : Int) by omega), if_pos (show 0 ≤ (i : Int) by omega), rd32 l i hil, seq_f _ (hf _ hx).1 (hc _ hx), Option.bind_some, if_pos g2, itr_make.f, e2]
    exact hin
theorem cased (m : Int) (hm : m = 0 ∨ m = 1 ∨ m = 3) (l : List S32) (hl : l.length ≤ 40) (hf : ∀ x ∈ l, Fit x) (hg : ∀ x ∈ l, Good x) (hc : ∀ x ∈ l, Codes64 x) (ha : ∀ x ∈ l, ∀ b ∈ x.f1.data.toList, b.toNat < 128) : Ev (fun k => spec_TxCased.f k l m) (str (cs m l)) := by
  have := cased_l m hm l hl hf hg hc ha l.length 0 (by omega)
  simp only [spec_TxCased.f]
  exact this

/-! ### what the formats make of a text with sequences -/
theorem dig_range : ∀ u : Nat, ∀ b ∈ decDigits u, 48 ≤ b.toNat ∧ b.toNat ≤ 57 := by
  intro u
  induction u using Nat.strongRecOn with
  | ind u ih =>
    have step : (0 < u / 10 → decDigits u = decDigits (u / 10) ++ [UInt8.ofNat (48 + u % 10)]) ∧ (u / 10 = 0 → decDigits u = [UInt8.ofNat (48 + u % 10)]) := by
      rw [decDigits]
      constructor
      · intro h; rw [dif_neg (by omega)]
      · intro h; rw [dif_pos (by omega), show u % 10 = u by omega]
    have hd : 48 ≤ (UInt8.ofNat (48 + u % 10)).toNat ∧ (UInt8.ofNat (48 + u % 10)).toNat ≤ 57 := by rw [UInt8.toNat_ofNat']; omega
    rcases Nat.eq_zero_or_pos (u / 10) with h | h
    · rw [step.2 h]
      intro b hb
      rw [List.mem_singleton.1 hb]; exact hd
    · rw [step.1 h]
      intro b hb
      rcases List.mem_append.1 hb with hb | hb
      · exact ih (u / 10) (by omega) b hb
      · rw [List.mem_singleton.1 hb]; exact hd
/-- the octets between a sequence's beginning and its end -/
def Mid (b : UInt8) : Prop := (48 ≤ b.toNat ∧ b.toNat ≤ 59) ∨ b.toNat = 91
theorem body_mid (l : List Int) (h : ∀ c ∈ l, 0 ≤ c) : ∀ j, j ≤ l.length → ∀ b ∈ bodyA l j, Mid b
  | 0, _ => fun b hb => by cases hb
  | j + 1, hj => fun b hb => by
    simp only [bodyA, List.mem_append] at hb
    rcases hb with (hb | hb) | hb
    · exact body_mid l h j (by omega) b hb
    · split at hb
      · cases hb
      · rw [List.mem_singleton.1 hb]; exact Or.inl ⟨by decide, by decide⟩
    · have hc := h l[j] (List.getElem_mem _)
      rw [Small.getD_at 0 l j (by omega)] at hb
      unfold Lib.itoa at hb
      rw [if_neg (by omega)] at hb
      have := dig_range _ b hb
      exact Or.inl (by omega)
theorem seq_shape (l : List Int) (h : ∀ c ∈ l, 0 ≤ c) : (seqA l).data.toList = [] ∨ ∃ m : List UInt8, (seqA l).data.toList = 27 :: (m ++ [109]) ∧ ∀ b ∈ m, Mid b := by
  unfold seqA
  by_cases h0 : l = []
  · rw [if_pos h0]; exact Or.inl rfl
  · rw [if_neg h0]
    refine Or.inr ⟨91 :: bodyA l l.length, rfl, fun b hb => ?_⟩
    rcases List.mem_cons.1 hb with rfl | hb
    · exact Or.inr rfl
    · exact body_mid l h _ (Nat.le_refl _) b hb
theorem lower_mid (b : UInt8) (h : Mid b ∨ b = 27 ∨ b = 109) : lowerB b = b := by
  apply UInt8.toNat_inj.1
  rw [lower_nat, if_neg]
  rcases h with h | rfl | rfl
  · unfold Mid at h
    intro ⟨h1, h2⟩
    omega
  · decide
  · decide
theorem st_mid (b : UInt8) (h : Mid b) : st true b = (b, true) := by
  unfold st
  rw [if_pos (Or.inl rfl)]
  have : b ≠ 109 := fun e => by subst e; unfold Mid at h; revert h; decide
  simp [this]
theorem out_mid (m t : List UInt8) (h : ∀ b ∈ m, Mid b) : out true (m ++ 109 :: t) = m ++ 109 :: out false t := by
  induction m with
  | nil =>
    have e : st true 109 = (109, false) := by unfold st; rw [if_pos (Or.inl rfl)]; simp
    show (st true 109).1 :: out (st true 109).2 t = _
    rw [e]; rfl
  | cons b m ih =>
    show (st true b).1 :: out (st true b).2 (m ++ 109 :: t) = _
    rw [st_mid b (h b (by simp))]
    show b :: out true (m ++ 109 :: t) = _
    rw [ih (fun c hc => h c (by simp [hc]))]
    rfl
theorem out_text (s t : List UInt8) (h : ∀ b ∈ s, b ≠ 27) : out false (s ++ t) = s.map Mpw.up ++ out false t := by
  induction s with
  | nil => rfl
  | cons b s ih =>
    have e : st false b = (Mpw.up b, false) := by unfold st; rw [if_neg (by simp [h b (by simp)])]
    show (st false b).1 :: out (st false b).2 (s ++ t) = _
    rw [e]
    show Mpw.up b :: out false (s ++ t) = _
    rw [ih (fun c hc => h c (by simp [hc]))]
    rfl
theorem out_wr (l : List S32) (hn : ∀ x ∈ l, ∀ c ∈ x.f0, 0 ≤ c) (ha : ∀ x ∈ l, ∀ b ∈ x.f1.data.toList, b ≠ 27) : out false (wr l) = cs 3 l := by
  induction l with
  | nil => rfl
  | cons x l ih =>
    have hI := ih (fun y hy => hn y (by simp [hy])) (fun y hy => ha y (by simp [hy]))
    have e1 : wr (x :: l) = (seqA x.f0).data.toList ++ (x.f1.data.toList ++ wr l) := by show piece x ++ wr l = _; unfold piece; rw [List.append_assoc]
    have e2 : cs 3 (x :: l) = (seqA x.f0).data.toList ++ (x.f1.data.toList.map Mpw.up ++ cs 3 l) := by show csP 3 x ++ cs 3 l = _; unfold csP; rw [List.append_assoc]; rfl
    have e3 : out false (x.f1.data.toList ++ wr l) = x.f1.data.toList.map Mpw.up ++ cs 3 l := by rw [out_text _ _ (ha x (by simp)), hI]
    rw [e1, e2]
    rcases seq_shape x.f0 (hn x (by simp)) with h | ⟨m, h, hm⟩
    · rw [h, List.nil_append, List.nil_append]; exact e3
    · rw [h]
      have e4 : (27 :: (m ++ [109])) ++ (x.f1.data.toList ++ wr l) = 27 :: (m ++ 109 :: (x.f1.data.toList ++ wr l)) := by simp
      rw [e4]
      have e5 : st false 27 = (27, true) := by unfold st; rw [if_pos (Or.inr rfl)]; simp
      show (st false 27).1 :: out (st false 27).2 _ = _
      rw [e5]
      show 27 :: out true _ = _
      rw [out_mid m _ hm, e3]
      simp
theorem lower_wr (l : List S32) (hn : ∀ x ∈ l, ∀ c ∈ x.f0, 0 ≤ c) : toLowerA (wr l) = cs 1 l := by
  induction l with
  | nil => rfl
  | cons x l ih =>
    have hI := ih (fun y hy => hn y (by simp [hy]))
    have e1 : toLowerA (wr (x :: l)) = toLowerA (seqA x.f0).data.toList ++ (toLowerA x.f1.data.toList ++ toLowerA (wr l)) := by show toLowerA (piece x ++ wr l) = _; unfold piece toLowerA; rw [List.append_assoc, List.map_append, List.map_append]
    have e2 : cs 1 (x :: l) = (seqA x.f0).data.toList ++ (toLowerA x.f1.data.toList ++ cs 1 l) := by show csP 1 x ++ cs 1 l = _; unfold csP; rw [List.append_assoc]; rfl
    have e3 : toLowerA (seqA x.f0).data.toList = (seqA x.f0).data.toList := by
      rcases seq_shape x.f0 (hn x (by simp)) with h | ⟨m, h, hm⟩
      · rw [h]; rfl
      · rw [h]
        unfold toLowerA
        have : ∀ b ∈ (27 :: (m ++ [109]) : List UInt8), lowerB b = b := fun b hb => by
          rcases List.mem_cons.1 hb with rfl | hb
          · exact lower_mid _ (Or.inr (Or.inl rfl))
          · rcases List.mem_append.1 hb with hb | hb
            · exact lower_mid _ (Or.inl (hm b hb))
            · rw [List.mem_singleton.1 hb]; exact lower_mid _ (Or.inr (Or.inr rfl))
        exact (List.map_congr_left (g := id) this).trans (List.map_id _)
    rw [e1, e2, e3, hI]
theorem same_wr (l : List S32) : wr l = cs 0 l := by
  unfold wr cs
  congr 1
  funext x
  unfold piece csP
  congr 1
  have : ∀ b : UInt8, cb 0 b = b := fun b => by unfold cb; rw [if_neg (by decide), if_neg (by decide)]
  exact ((List.map_congr_left (g := id) (fun b _ => this b)).trans (List.map_id _)).symm
theorem seq_lt (l : List Int) (h : ∀ c ∈ l, 0 ≤ c) : ∀ b ∈ (seqA l).data.toList, b.toNat < 128 := by
  intro b hb
  rcases seq_shape l h with h | ⟨m, h, hm⟩
  · rw [h] at hb; cases hb
  · rw [h] at hb
    rcases List.mem_cons.1 hb with rfl | hb
    · decide
    · rcases List.mem_append.1 hb with hb | hb
      · have := hm b hb
        unfold Mid at this; omega
      · rw [List.mem_singleton.1 hb]; decide
theorem format (m : Int) (hm : m = 0 ∨ m = 1 ∨ m = 3) (l : List S32) (hl : l.length ≤ 40) (hg : ∀ x ∈ l, Good x) (hn : ∀ x ∈ l, ∀ c ∈ x.f0, 0 ≤ c) (hc : ∀ x ∈ l, Codes64 x) (ha : ∀ x ∈ l, ∀ b ∈ x.f1.data.toList, Asc b) : impl_TextFormat.f m (str (wr l)) = some (str (cs m l)) := by
  have hsz : (str (wr l)).size ≤ 1000000 := by
    rw [str_size, same_wr]
    have := cs_len 0 l hg hc; omega
  have hlt : ∀ b ∈ (str (wr l)).data.toList, b.toNat < 128 := fun b hb => by
    rw [str_data] at hb
    obtain ⟨x, hx, hb⟩ := List.mem_flatMap.1 hb
    unfold piece at hb
    rcases List.mem_append.1 hb with hb | hb
    · exact seq_lt _ (hn x hx) b hb
    · exact (ha x hx b hb).lt
  rcases hm with rfl | rfl | rfl
  · unfold impl_TextFormat.f text_Format_Apply.f
    rw [if_neg (by decide), if_neg (by decide), if_neg (by decide), same_wr]
    rfl
  · unfold impl_TextFormat.f text_Format_Apply.f strings_ToLower.f
    rw [if_pos rfl, if_pos hsz, if_pos hlt, str_data, lower_wr l hn]
    rfl
  · unfold impl_TextFormat.f text_Format_Apply.f text_toUpper.f
    rw [if_neg (by decide), if_neg (by decide), if_pos rfl, if_pos hsz, if_pos hlt, str_data, out_wr l hn (fun x hx b hb e => by
      have := ha x hx b hb
      subst e
      unfold Asc at this; revert this; decide)]
    rfl

/-! ### the law -/
theorem law (a0 : Int) (h0 : 0 ≤ a0) (h1 : a0 ≤ 255) (l : List S32) (hc : ∀ x ∈ l, Codes64 x) : ∃ k, laws_FnTextFormat.f k a0 l = some true := by
  have hj : Ev (fun k => laws_FnTextFormat.j0 k a0 l true) true := Ev.shift (by simp only [laws_FnTextFormat.j0, if_true]; exact Ev.now _)
  have : Ev (fun k => laws_FnTextFormat.f k a0 l) true := by
    obtain ⟨b, hb, hbt⟩ := fits15 l
    simp only [laws_FnTextFormat.f]
    refine Ev.bind hb ?_
    cases b with
    | false =>
      simp only [if_neg (show ¬ (false = true) by decide)]
      exact Ev.now _
    | true =>
      obtain ⟨hl, hf⟩ := hbt rfl
      simp only [if_true]
      obtain ⟨g, hg, hgt⟩ := good l hl hf
      refine Ev.bind hg ?_
      cases g with
      | false =>
        simp only [if_neg (show ¬ (false = true) by decide)]
        exact hj
      | true =>
        obtain ⟨h40, hG⟩ := hgt rfl
        simp only [if_true]
        refine Ev.bind (plain l h40 hG) ?_
        have hpl := pl_len l hG
        obtain ⟨a, ha, hat⟩ := ascii (pl l) (by omega)
        refine Ev.bind ha ?_
        cases a with
        | false =>
          simp only [if_neg (show ¬ (false = true) by decide)]
          exact hj
        | true =>
          simp only [if_true]
          by_cases h2 : Int.tmod a0 4 = 2
          · rw [show (Int.tmod a0 4 == 2) = true from by rw [h2]; rfl]
            exact hj
          · rw [show (Int.tmod a0 4 == 2) = false from by rw [beq_eq_false_iff_ne]; exact h2]
            have ht : Int.tmod a0 4 = a0 % 4 := Int.tmod_eq_emod_of_nonneg h0
            have hm : wrap64 (Int.tmod a0 4) = 0 ∨ wrap64 (Int.tmod a0 4) = 1 ∨ wrap64 (Int.tmod a0 4) = 3 := by
              rw [ht] at h2 ⊢
              rw [wrap_in (by omega) (by omega)]
              omega
            have hA : ∀ x ∈ l, ∀ b ∈ x.f1.data.toList, Asc b := fun x hx b hb => hat rfl b (List.mem_flatMap.2 ⟨x, hx, hb⟩)
            have hN : ∀ x ∈ l, ∀ c ∈ x.f0, 0 ≤ c := fun x hx c hcc => by
              have := (hG x hx).2.2 c hcc
              omega
            have hw : (wr l).length ≤ 4611686018427387904 := by
              rw [same_wr]
              have := cs_len 0 l hG hc; omega
            refine Ev.shift ?_
            simp only [laws_FnTextFormat.j0, if_neg (show ¬ (false = true) by decide)]
            refine Ev.bind (written l hl hf hc hw) ?_
            generalize wrap64 (Int.tmod a0 4) = m at hm ⊢
            simp only [format m hm l h40 hG hN hc hA, Option.bind_some]
            refine Ev.bind (cased m hm l h40 hf hG hc (fun x hx b hb => (hA x hx b hb).lt)) ?_
            simp only [toList_beq]
            exact Ev.now _
  obtain ⟨K, hK⟩ := this
  exact ⟨K, hK K (Nat.le_refl _)⟩
end Go.Proofs.YtmphemnmbofpaaaDoorRRR.Fmp
