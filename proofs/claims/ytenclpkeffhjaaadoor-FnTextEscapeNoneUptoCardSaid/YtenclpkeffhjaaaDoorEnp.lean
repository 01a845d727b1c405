/- The law of an empty sequence, in plain Lean. -/
import Derived.Test.YtenclpkeffhjaaaDoorGFnTextEscapeNonex
import Derived.Test.YtenclpkeffhjaaaDoorEse
import Derived.Test.YtenclpkeffhjaaaDoorOpensB
import Derived.KernelRfl
namespace Go.Proofs.YtenclpkeffhjaaaDoor.Enp
open Go Go.RowKit Go.Lib Go.Proofs.YtenclpkeffhjaaaDoor.GFnTextEscapeNone Go.Proofs.YtenclpkeffhjaaaDoorW.PrintWords Go.Proofs.YtenclpkeffhjaaaDoorW.PrintLast Go.Proofs.YtenclpkeffhjaaaDoorW.PrintMore Go.Proofs.YtenclpkeffhjaaaDoor.Small Go.Proofs.YtenclpkeffhjaaaDoor.Esp Go.Proofs.YtenclpkeffhjaaaDoor.Esq Go.Proofs.YtenclpkeffhjaaaDoor.Esr Go.Proofs.YtenclpkeffhjaaaDoor.Sqa Go.Proofs.YtenclpkeffhjaaaDoor.OpnB Go.Proofs.YtenclpkeffhjaaaDoor.Itr Go.Proofs.YtenclpkeffhjaaaDoor.Dec

theorem boxed (r : Int) : ∃ b, spec_TxBoxed.f r = some b ∧ (b = true → 128 ≤ r) := by
  unfold spec_TxBoxed.f
  split
  · exact ⟨_, rfl, fun _ => by omega⟩
  · exact ⟨_, rfl, fun h => by cases h⟩
theorem wide (r : Int) : ∃ b, spec_TxWide.f r = some b ∧ (b = true → 128 ≤ r) := by
  by_cases h : 12353 ≤ r
  · unfold spec_TxWide.f
    repeat' split
    all_goals exact ⟨_, rfl, fun _ => by omega⟩
  · unfold spec_TxWide.f
    repeat rw [if_neg (by omega)]
    exact ⟨_, rfl, fun h => by cases h⟩
theorem known (r : Int) : ∃ b, spec_TxKnown.f r = some b ∧ (b = true → r ≠ 27) := by
  obtain ⟨b1, h1, g1⟩ := boxed r
  obtain ⟨b2, h2, g2⟩ := wide r
  unfold spec_TxKnown.f
  simp only [h1, h2, Option.bind_some]
  by_cases a : r ≥ 32
  · rw [if_pos a]
    by_cases b : r ≤ 126
    · rw [if_pos b]; exact ⟨_, rfl, fun _ => by omega⟩
    · rw [if_neg b]
      split
      · exact ⟨_, rfl, fun _ => by omega⟩
      · exact ⟨_, rfl, fun _ => by omega⟩
  · rw [if_neg a]
    split
    · rename_i h
      exact ⟨_, rfl, fun _ => by have := g1 h; omega⟩
    · exact ⟨_, rfl, fun h => by have := g2 h; omega⟩
theorem simple_l (s : ByteArray) : ∀ d p : Nat, p + d = s.size → ∃ b, Ev (fun k => spec_TxSimple.l0 k false s (p : Int)) b ∧ (b = true → ∀ j, p ≤ j → j < s.size → at_ s j ≠ 27) := by
  intro d
  induction d using Nat.strongRecOn with
  | ind d ih =>
    intro p hp
    rcases Nat.eq_zero_or_pos d with rfl | hd
    · obtain rfl : p = s.size := by omega
      refine ⟨true, Ev.shift ?_, fun _ j h1 h2 => by omega⟩
      simp only [spec_TxSimple.l0, if_neg (show ¬ (s.size : Int) < (s.size : Int) by omega), end_at, Option.bind_some]
      exact Ev.now _
    · obtain ⟨h1, h2, hc⟩ := dec s p (by omega)
      obtain ⟨b, hb, hn⟩ := ih (s.size - (p + (Utf8.decode s p).2)) (by omega) (p + (Utf8.decode s p).2) (by omega)
      obtain ⟨kb, hk, hk27⟩ := known ((Utf8.decode s p).1 : Int)
      cases kb with
      | false =>
        refine ⟨false, Ev.shift ?_, fun h => by cases h⟩
        simp only [spec_TxSimple.l0, if_pos (show (p : Int) < (s.size : Int) by omega), more_at s p (by omega), Option.bind_some, hk, if_neg (show ¬ (false = true) by decide)]
        exact Ev.now _
      | true =>
        refine ⟨b, Ev.shift ?_, fun hbt j hj1 hj2 => ?_⟩
        · simp only [spec_TxSimple.l0, if_pos (show (p : Int) < (s.size : Int) by omega), more_at s p (by omega), Option.bind_some, hk, if_true]
          exact hb
        · by_cases hlt : j < p + (Utf8.decode s p).2
          · rcases hc with ⟨ha, he⟩ | ⟨_, _, ha⟩
            · rw [he] at hlt
              obtain rfl : j = p := by have : j < p + 1 := hlt; omega
              have := hk27 rfl
              rw [he] at this
              have h3 : ((at_ s j : Nat) : Int) ≠ 27 := this
              omega
            · have := ha j hj1 hlt; omega
          · exact hn hbt j (by omega) hj2
theorem simple (s : ByteArray) : ∃ b, Ev (fun k => spec_TxSimple.f k s false) b ∧ (b = true → Esp.Clean s.data.toList) := by
  obtain ⟨b, hb, h⟩ := simple_l s s.size 0 (by omega)
  refine ⟨b, ?_, fun hbt x hx he => ?_⟩
  · unfold spec_TxSimple.f
    simp only [itr_make.f, Option.bind_some]
    exact hb
  · obtain ⟨j, hj, hjx⟩ := List.mem_iff_getElem.1 hx
    have := h hbt j (Nat.zero_le _) hj
    unfold at_ at this
    rw [getD_at _ _ _ hj, hjx, he] at this
    exact this rfl

theorem rd26 (l : List S26) (i : Nat) (h : i < l.length) : rd_T26 l (i : Int) = l[i] := by unfold rd_T26; rw [Int.toNat_natCast]; exact Small.getD_at _ _ _ h
theorem drop_at {α : Type} (l : List α) (i : Nat) (h : i < l.length) : l.drop i = l[i] :: l.drop (i + 1) := List.drop_eq_getElem_cons h
theorem attr (c : Int) : ∃ b, spec_TxAttribute.f c = some b ∧ (b = true → 1 ≤ c ∧ c ≤ 107) := by
  unfold spec_TxAttribute.f
  repeat' split
  all_goals first
    | exact ⟨_, rfl, fun _ => by omega⟩
    | exact ⟨_, rfl, fun h => by simp at h; omega⟩
    | exact ⟨_, rfl, fun h => by cases h⟩

/-! ### what is not too long -/
def Fit (x : S26) : Prop := x.f0.length ≤ 2147483647 ∧ x.f1.size ≤ 2147483647
theorem fits16 (x : S26) : ∃ b, laws_zzFits16.f x.f0 x.f1 = some b ∧ (b = true → Fit x) := by
  unfold laws_zzFits16.f
  by_cases h1 : (x.f0.length : Int) > 2147483647
  · rw [if_pos h1]; exact ⟨_, rfl, fun h => by cases h⟩
  · rw [if_neg h1]
    by_cases h2 : (x.f1.size : Int) > 2147483647
    · rw [if_pos h2]; exact ⟨_, rfl, fun h => by cases h⟩
    · rw [if_neg h2]; exact ⟨_, rfl, fun _ => ⟨by omega, by omega⟩⟩
theorem fits15_l (l : List S26) (hl : l.length ≤ 2147483647) : ∀ d i : Nat, i + d = l.length → ∃ b, Ev (fun k => laws_zzFits15.l0 k l (l.length : Int) (i : Int)) b ∧ (b = true → ∀ x ∈ l.drop i, Fit x) := by
  intro d
  induction d with
  | zero =>
    intro i hi
    refine ⟨true, Ev.shift ?_, fun _ x hx => ?_⟩
    · simp only [laws_zzFits15.l0, if_neg (show ¬ (i : Int) < (l.length : Int) by omega)]
      exact Ev.now _
    · rw [List.drop_of_length_le (by omega)] at hx; cases hx
  | succ d ih =>
    intro i hi
    have hil : i < l.length := by omega
    obtain ⟨b, hb, hbt⟩ := ih (i + 1) (by omega)
    obtain ⟨c, hc, hct⟩ := fits16 l[i]
    cases c with
    | false =>
      refine ⟨false, Ev.shift ?_, fun h => by cases h⟩
      simp only [laws_zzFits15.l0, if_pos (show (i : Int) < (l.length : Int) by omega), if_pos (show 0 ≤ (i : Int) by omega), rd26 l i hil, hc, Option.bind_some, if_neg (show ¬ (false = true) by decide)]
      exact Ev.now _
    | true =>
      refine ⟨b, Ev.shift ?_, fun h x hx => ?_⟩
      · simp only [laws_zzFits15.l0, if_pos (show (i : Int) < (l.length : Int) by omega), if_pos (show 0 ≤ (i : Int) by omega), rd26 l i hil, hc, Option.bind_some, if_true, wrap_succ i (by omega)]
        exact hb
      · rw [drop_at l i hil] at hx
        rcases List.mem_cons.1 hx with rfl | hx
        · exact hct rfl
        · exact hbt h x hx
theorem fits15 (l : List S26) : ∃ b, Ev (fun k => laws_zzFits15.f k l) b ∧ (b = true → l.length ≤ 2147483647 ∧ ∀ x ∈ l, Fit x) := by
  by_cases h : (l.length : Int) > 2147483647
  · refine ⟨false, ?_, fun h => by cases h⟩
    simp only [laws_zzFits15.f, if_pos h]
    exact Ev.now _
  · obtain ⟨b, hb, hbt⟩ := fits15_l l (by omega) l.length 0 (by omega)
    refine ⟨b, ?_, fun hh => ⟨by omega, fun x hx => hbt hh x hx⟩⟩
    simp only [laws_zzFits15.f, if_neg h]
    exact hb

/-! ### whether a code turns all off -/
theorem among_l (cs : List Int) (hl : cs.length ≤ 2147483647) : ∀ d i : Nat, i + d = cs.length → ∃ b, Ev (fun k => spec_TxAmong.l0 k 0 cs (cs.length : Int) (i : Int)) b ∧ (b = false → ∀ c ∈ cs.drop i, c ≠ 0) := by
  intro d
  induction d with
  | zero =>
    intro i hi
    refine ⟨false, Ev.shift ?_, fun _ x hx => ?_⟩
    · simp only [spec_TxAmong.l0, if_neg (show ¬ (i : Int) < (cs.length : Int) by omega)]
      exact Ev.now _
    · rw [List.drop_of_length_le (by omega)] at hx; cases hx
  | succ d ih =>
    intro i hi
    have hil : i < cs.length := by omega
    obtain ⟨b, hb, hbt⟩ := ih (i + 1) (by omega)
    by_cases hc : cs[i] = 0
    · refine ⟨true, Ev.shift ?_, fun h => by cases h⟩
      simp only [spec_TxAmong.l0, if_pos (show (i : Int) < (cs.length : Int) by omega), if_pos (show 0 ≤ (i : Int) by omega), rd_nat, Small.getD_at 0 cs i hil, if_pos hc]
      exact Ev.now _
    · refine ⟨b, Ev.shift ?_, fun h x hx => ?_⟩
      · simp only [spec_TxAmong.l0, if_pos (show (i : Int) < (cs.length : Int) by omega), if_pos (show 0 ≤ (i : Int) by omega), rd_nat, Small.getD_at 0 cs i hil, if_neg hc, wrap_succ i (by omega)]
        exact hb
      · rw [drop_at cs i hil] at hx
        rcases List.mem_cons.1 hx with rfl | hx
        · exact hc
        · exact hbt h x hx
theorem among (cs : List Int) (hl : cs.length ≤ 2147483647) : ∃ b, Ev (fun k => spec_TxAmong.f k cs 0) b ∧ (b = false → ∀ c ∈ cs, c ≠ 0) := by
  obtain ⟨b, hb, hbt⟩ := among_l cs hl cs.length 0 (by omega)
  exact ⟨b, by simp only [spec_TxAmong.f]; exact hb, fun h c hc => hbt h c hc⟩

/-! ### good pieces -/
def Good (x : S26) : Prop := Esp.Clean x.f1.data.toList ∧ x.f1.size ≤ 500 ∧ x.f0.length ≤ 4 ∧ ∀ c ∈ x.f0, (1 ≤ c ∧ c ≤ 107) ∨ c = 0
theorem codes_l (l : List S26) (n : Int) (i : Nat) (cs : List Int) (t : ByteArray) (hcs : cs.length ≤ 2147483647) (r : Bool) (hr : Ev (fun k => spec_TxGood.l0 k l false l n (wrap64 ((i : Int) + 1))) r) :
    ∀ d j : Nat, j + d = cs.length → ∃ b, Ev (fun k => spec_TxGood.l1 k l false l n (i : Int) cs (cs.length : Int) (j : Int) cs t) b ∧ (b = true → r = true ∧ ∀ c ∈ cs.drop j, (1 ≤ c ∧ c ≤ 107) ∨ c = 0) := by
  intro d
  induction d with
  | zero =>
    intro j hj
    refine ⟨r, Ev.shift ?_, fun h => ⟨h, fun x hx => ?_⟩⟩
    · simp only [spec_TxGood.l1, if_neg (show ¬ (j : Int) < (cs.length : Int) by omega)]
      exact hr
    · rw [List.drop_of_length_le (by omega)] at hx; cases hx
  | succ d ih =>
    intro j hj
    have hjl : j < cs.length := by omega
    obtain ⟨b, hb, hbt⟩ := ih (j + 1) (by omega)
    obtain ⟨a, ha, hat⟩ := attr cs[j]
    cases a with
    | true =>
      refine ⟨b, Ev.shift ?_, fun h => ⟨(hbt h).1, fun x hx => ?_⟩⟩
      · simp only [spec_TxGood.l1, if_pos (show (j : Int) < (cs.length : Int) by omega), if_pos (show 0 ≤ (j : Int) by omega), rd_nat, Small.getD_at 0 cs j hjl, ha, Option.bind_some, if_true, wrap_succ j (by omega)]
        exact hb
      · rw [drop_at cs j hjl] at hx
        rcases List.mem_cons.1 hx with rfl | hx
        · exact Or.inl (hat rfl)
        · exact (hbt h).2 x hx
    | false =>
      by_cases h0 : cs[j] = 0
      · by_cases h1 : (cs.length : Int) > 1
        · refine ⟨false, Ev.shift ?_, fun h => by cases h⟩
          simp only [spec_TxGood.l1, if_pos (show (j : Int) < (cs.length : Int) by omega), if_pos (show 0 ≤ (j : Int) by omega), rd_nat, Small.getD_at 0 cs j hjl, ha, Option.bind_some, if_neg (show ¬ (false = true) by decide), if_pos h0, if_pos h1]
          exact Ev.now _
        · refine ⟨b, Ev.shift ?_, fun h => ⟨(hbt h).1, fun x hx => ?_⟩⟩
          · simp only [spec_TxGood.l1, if_pos (show (j : Int) < (cs.length : Int) by omega), if_pos (show 0 ≤ (j : Int) by omega), rd_nat, Small.getD_at 0 cs j hjl, ha, Option.bind_some, if_neg (show ¬ (false = true) by decide), if_pos h0, if_neg h1, wrap_succ j (by omega)]
            exact hb
          · rw [drop_at cs j hjl] at hx
            rcases List.mem_cons.1 hx with rfl | hx
            · exact Or.inr h0
            · exact (hbt h).2 x hx
      · refine ⟨false, Ev.shift ?_, fun h => by cases h⟩
        simp only [spec_TxGood.l1, if_pos (show (j : Int) < (cs.length : Int) by omega), if_pos (show 0 ≤ (j : Int) by omega), rd_nat, Small.getD_at 0 cs j hjl, ha, Option.bind_some, if_neg (show ¬ (false = true) by decide), if_neg h0]
        exact Ev.now _
theorem good_l (l : List S26) (hl : l.length ≤ 2147483647) (hf : ∀ x ∈ l, Fit x) : ∀ d i : Nat, i + d = l.length → ∃ b, Ev (fun k => spec_TxGood.l0 k l false l (l.length : Int) (i : Int)) b ∧ (b = true → l.length ≤ 40 ∧ ∀ x ∈ l.drop i, Good x) := by
  intro d
  induction d with
  | zero =>
    intro i hi
    refine ⟨decide ((l.length : Int) ≤ 40), Ev.shift ?_, fun h => ⟨?_, fun x hx => ?_⟩⟩
    · simp only [spec_TxGood.l0, if_neg (show ¬ (i : Int) < (l.length : Int) by omega)]
      exact Ev.now _
    · simp at h; omega
    · rw [List.drop_of_length_le (by omega)] at hx; cases hx
  | succ d ih =>
    intro i hi
    have hil : i < l.length := by omega
    obtain ⟨b, hb, hbt⟩ := ih (i + 1) (by omega)
    have hfi := hf l[i] (List.getElem_mem _)
    obtain ⟨sb, hs, hst⟩ := simple l[i].f1
    have go : ∀ r : Bool, Ev (fun k => spec_TxGood.j1 k l false l (l.length : Int) (i : Int) r l[i].f0 l[i].f1) false ∨ r = false := fun r => by
      cases r with
      | true => exact Or.inl (Ev.shift (by simp only [spec_TxGood.j1, if_true]; exact Ev.now _))
      | false => exact Or.inr rfl
    cases sb with
    | false =>
      refine ⟨false, Ev.shift ?_, fun h => by cases h⟩
      simp only [spec_TxGood.l0, if_pos (show (i : Int) < (l.length : Int) by omega), if_pos (show 0 ≤ (i : Int) by omega), rd26 l i hil]
      refine Ev.bind hs ?_
      simp only [if_neg (show ¬ (false = true) by decide)]
      exact (go true).resolve_right (by decide)
    | true =>
      by_cases h5 : ((l[i].f1.size : Nat) : Int) > 500
      · refine ⟨false, Ev.shift ?_, fun h => by cases h⟩
        simp only [spec_TxGood.l0, if_pos (show (i : Int) < (l.length : Int) by omega), if_pos (show 0 ≤ (i : Int) by omega), rd26 l i hil]
        refine Ev.bind hs ?_
        simp only [if_true, if_pos h5]
        exact (go true).resolve_right (by decide)
      · by_cases h4 : ((l[i].f0.length : Nat) : Int) > 4
        · refine ⟨false, Ev.shift ?_, fun h => by cases h⟩
          simp only [spec_TxGood.l0, if_pos (show (i : Int) < (l.length : Int) by omega), if_pos (show 0 ≤ (i : Int) by omega), rd26 l i hil]
          refine Ev.bind hs ?_
          simp only [if_true, if_neg h5, decide_eq_true h4]
          exact (go true).resolve_right (by decide)
        · obtain ⟨b2, hb2, hb2t⟩ := codes_l l (l.length : Int) i l[i].f0 l[i].f1 hfi.1 b (by rw [wrap_succ i (by omega)]; exact hb) l[i].f0.length 0 (by omega)
          refine ⟨b2, Ev.shift ?_, fun h => ⟨(hbt (hb2t h).1).1, fun x hx => ?_⟩⟩
          · simp only [spec_TxGood.l0, if_pos (show (i : Int) < (l.length : Int) by omega), if_pos (show 0 ≤ (i : Int) by omega), rd26 l i hil]
            refine Ev.bind hs ?_
            simp only [if_true, if_neg h5, decide_eq_false h4]
            refine Ev.shift ?_
            simp only [spec_TxGood.j1, if_neg (show ¬ (false = true) by decide)]
            exact hb2
          · rw [drop_at l i hil] at hx
            rcases List.mem_cons.1 hx with rfl | hx
            · exact ⟨hst rfl, by omega, by omega, fun c hc => (hb2t h).2 c hc⟩
            · exact (hbt (hb2t h).1).2 x hx
theorem good (l : List S26) (hl : l.length ≤ 2147483647) (hf : ∀ x ∈ l, Fit x) : ∃ b, Ev (fun k => spec_TxGood.f k l false) b ∧ (b = true → l.length ≤ 40 ∧ ∀ x ∈ l, Good x) := by
  obtain ⟨b, hb, hbt⟩ := good_l l hl hf l.length 0 (by omega)
  exact ⟨b, by simp only [spec_TxGood.f]; exact hb, fun h => hbt h⟩

/-! ### the text that is written -/
def piece (x : S26) : List UInt8 := (seqA x.f0).data.toList ++ x.f1.data.toList
def wr (l : List S26) : List UInt8 := l.flatMap piece
def Codes64 (x : S26) : Prop := ∀ c ∈ x.f0, In64 c
theorem seqA_len (cs : List Int) (h : ∀ c ∈ cs, In64 c) : (seqA cs).size ≤ 22 * cs.length + 3 := by
  unfold seqA
  split
  · simp [str_size]
  · have := bodyA_len cs h cs.length (Nat.le_refl _)
    simp only [str_size, List.length_append, List.length_cons, List.length_nil]
    omega
theorem seq_f (cs : List Int) (hl : cs.length ≤ 2147483647) (h : ∀ c ∈ cs, In64 c) : spec_TxSequence.f cs = some (seqA cs) := by
  unfold spec_TxSequence.f
  rw [if_pos hl, if_pos h]
theorem written_l (l : List S26) (hl : l.length ≤ 2147483647) (hf : ∀ x ∈ l, Fit x) (hc : ∀ x ∈ l, Codes64 x) (hw : (wr l).length ≤ 4611686018427387904) : ∀ d i : Nat, i + d = l.length → Ev (fun k => spec_TxWritten.l0 k (str (wr (l.take i))) l (l.length : Int) (i : Int)) (str (wr l)) := by
  intro d
  induction d with
  | zero =>
    intro i hi
    have e : l.take i = l := List.take_of_length_le (by omega)
    rw [e]
    refine Ev.shift ?_
    simp only [spec_TxWritten.l0, if_neg (show ¬ (i : Int) < (l.length : Int) by omega)]
    exact Ev.now _
  | succ d ih =>
    intro i hi
    have hil : i < l.length := by omega
    have hx : l[i] ∈ l := List.getElem_mem _
    have hfi := hf _ hx
    have hs1 := seqA_len l[i].f0 (hc _ hx)
    have hstep : wr (l.take (i + 1)) = wr (l.take i) ++ piece l[i] := by
      rw [take_succ_at l i hil]; unfold wr; rw [List.flatMap_append]; simp
    have hle : (wr (l.take (i + 1))).length ≤ (wr l).length := by
      have : wr l = wr (l.take (i + 1)) ++ wr (l.drop (i + 1)) := by unfold wr; rw [← List.flatMap_append, List.take_append_drop]
      rw [this, List.length_append]; omega
    rw [hstep, List.length_append] at hle
    have hp : (seqA l[i].f0 ++ l[i].f1).size = (piece l[i]).length := by unfold piece; rw [ByteArray.size_append, List.length_append]; rfl
    have e2 : str (wr (l.take i)) ++ (seqA l[i].f0 ++ l[i].f1) = str (wr (l.take (i + 1))) := by
      rw [hstep, str_append]; unfold piece; rw [str_append, str_of, str_of]
    have g1 : (seqA l[i].f0).size + l[i].f1.size ≤ 9223372036854775807 := by have := hfi.1; have := hfi.2; omega
    have g2 : (str (wr (l.take i))).size + (seqA l[i].f0 ++ l[i].f1).size ≤ 9223372036854775807 := by rw [str_size, hp]; omega
    refine Ev.shift ?_
    simp only [spec_TxWritten.l0, if_pos (show (i : Int) < (l.length : Int) by omega), if_pos (show 0 ≤ (i : Int) by omega), rd26 l i hil, seq_f _ hfi.1 (hc _ hx), Option.bind_some, if_pos g1, if_pos g2, e2, wrap_succ i (by omega)]
    exact ih (i + 1) (by omega)
theorem written (l : List S26) (hl : l.length ≤ 2147483647) (hf : ∀ x ∈ l, Fit x) (hc : ∀ x ∈ l, Codes64 x) (hw : (wr l).length ≤ 4611686018427387904) : Ev (fun k => spec_TxWritten.f k l) (str (wr l)) := by
  have := written_l l hl hf hc hw l.length 0 (by omega)
  simp only [spec_TxWritten.f]
  exact this

/-! ### no reset is written -/
def Qs (s : List UInt8) : Prop := ∀ i, i < s.length → s.getD i 0 = 27 → i + 2 < s.length ∧ s.getD (i + 2) 0 ≠ 48
theorem Qs_append {a b : List UInt8} (ha : Qs a) (hb : Qs b) : Qs (a ++ b) := by
  intro i hi h
  by_cases hlt : i < a.length
  · rw [gl _ _ _ hlt] at h
    obtain ⟨h1, h2⟩ := ha i hlt h
    exact ⟨by rw [List.length_append]; omega, by rw [gl _ _ _ h1]; exact h2⟩
  · rw [gr _ _ _ (by omega)] at h
    rw [List.length_append] at hi ⊢
    obtain ⟨h1, h2⟩ := hb (i - a.length) (by omega) h
    exact ⟨by omega, by rw [gr _ _ _ (by omega), show i + 2 - a.length = i - a.length + 2 by omega]; exact h2⟩
theorem Qs_clean {s : List UInt8} (h : Esp.Clean s) : Qs s := fun i hi h27 => absurd h27 (getD_clean s h i hi)
theorem dig_first : ∀ u : Nat, 1 ≤ u → 1 ≤ (decDigits u).length ∧ (decDigits u).getD 0 0 ≠ 48 := by
  intro u
  induction u using Nat.strongRecOn with
  | ind u ih =>
    intro hu
    rcases Nat.eq_zero_or_pos (u / 10) with h | h
    · rw [(Fu.step_dec u).2 h]
      refine ⟨by simp, ?_⟩
      intro he
      have h2 := congrArg UInt8.toNat he
      have h3 : (48 : UInt8).toNat = 48 := rfl
      simp only [List.getD_cons_zero, UInt8.toNat_ofNat', h3] at h2
      omega
    · obtain ⟨h1, h2⟩ := ih (u / 10) (by omega) (by omega)
      rw [(Fu.step_dec u).1 h]
      exact ⟨by rw [List.length_append]; omega, by rw [gl _ _ _ (by omega)]; exact h2⟩
theorem itoa_first (c : Int) (h : 1 ≤ c) : 1 ≤ (Lib.itoa c).length ∧ (Lib.itoa c).getD 0 0 ≠ 48 := by
  unfold Lib.itoa
  rw [if_neg (by omega)]
  exact dig_first _ (by omega)
theorem itoa_clean (c : Int) (h : 0 ≤ c) : Esp.Clean (Lib.itoa c) := by
  unfold Lib.itoa
  rw [if_neg (by omega)]
  exact dig_clean _
theorem bodyA_clean (cs : List Int) (h : ∀ c ∈ cs, 1 ≤ c) : ∀ j, j ≤ cs.length → Esp.Clean (bodyA cs j)
  | 0, _ => fun b hb => by cases hb
  | j + 1, hj => fun b hb => by
    simp only [bodyA, List.mem_append] at hb
    rcases hb with (hb | hb) | hb
    · exact bodyA_clean cs h j (by omega) b hb
    · split at hb
      · cases hb
      · rw [List.mem_singleton.1 hb]; decide
    · refine itoa_clean _ ?_ b hb
      have := h cs[j] (List.getElem_mem _)
      rw [Small.getD_at 0 cs j (by omega)]; omega
theorem bodyA_first (cs : List Int) (h : ∀ c ∈ cs, 1 ≤ c) : ∀ j, j < cs.length → 1 ≤ (bodyA cs (j + 1)).length ∧ (bodyA cs (j + 1)).getD 0 0 ≠ 48
  | 0, hj => by
    have := itoa_first cs[0] (h _ (List.getElem_mem _))
    simp only [bodyA, if_true, List.nil_append, Small.getD_at 0 cs 0 hj]
    exact this
  | j + 1, hj => by
    obtain ⟨h1, h2⟩ := bodyA_first cs h j (by omega)
    have e : bodyA cs (j + 1 + 1) = bodyA cs (j + 1) ++ ([59] ++ Lib.itoa (cs.getD (j + 1) 0)) := by
      simp only [bodyA, if_neg (show ¬ j + 1 = 0 by omega), List.append_assoc]
    rw [e]
    exact ⟨by rw [List.length_append]; omega, by rw [gl _ _ _ (by omega)]; exact h2⟩
theorem Qs_seq (cs : List Int) (h : ∀ c ∈ cs, 1 ≤ c) : Qs (seqA cs).data.toList := by
  unfold seqA
  by_cases h0 : cs = []
  · rw [if_pos h0, str_data]; intro i hi; simp at hi
  · rw [if_neg h0, str_data]
    have hp : 0 < cs.length := List.length_pos_iff.2 h0
    obtain ⟨n, hn⟩ : ∃ n, cs.length = n + 1 := ⟨cs.length - 1, by omega⟩
    obtain ⟨f1, f2⟩ := bodyA_first cs h n (by omega)
    rw [← hn] at f1 f2
    have hcl := bodyA_clean cs h cs.length (Nat.le_refl _)
    have ht : Esp.Clean ([91] ++ bodyA cs cs.length ++ [109]) := by
      intro b hb
      rw [List.mem_append, List.mem_append] at hb
      rcases hb with (hb | hb) | hb
      · rw [List.mem_singleton.1 hb]; decide
      · exact hcl b hb
      · rw [List.mem_singleton.1 hb]; decide
    have e : [27, 91] ++ bodyA cs cs.length ++ [109] = [27] ++ ([91] ++ bodyA cs cs.length ++ [109]) := rfl
    intro i hi h27
    rcases Nat.eq_zero_or_pos i with rfl | hip
    · refine ⟨by simp only [List.length_append, List.length_cons, List.length_nil]; omega, ?_⟩
      rw [List.append_assoc, gr _ _ _ (by simp), gl _ _ _ (by simp; omega)]
      exact f2
    · rw [e, gr _ _ _ (by simp; omega)] at h27
      exact absurd h27 (getD_clean _ ht _ (by rw [e] at hi; simp only [List.length_append, List.length_cons, List.length_nil] at hi ⊢; omega))
theorem Qs_wr (l : List S26) (hg : ∀ x ∈ l, Good x) (hn : ∀ x ∈ l, ∀ c ∈ x.f0, c ≠ 0) : Qs (wr l) := by
  induction l with
  | nil => intro i hi; simp [wr] at hi
  | cons x l ih =>
    have hx := hg x (by simp)
    have e : wr (x :: l) = piece x ++ wr l := rfl
    rw [e]
    refine Qs_append (Qs_append (Qs_seq _ fun c hc => ?_) (Qs_clean hx.1)) (ih (fun y hy => hg y (by simp [hy])) (fun y hy => hn y (by simp [hy])))
    have h1 := hx.2.2.2 c hc
    have h2 := hn x (by simp) c hc
    omega
theorem good64 (x : S26) (h : Good x) : Codes64 x := fun c hc => by
  have := h.2.2.2 c hc
  unfold In64; omega
theorem wr_len (l : List S26) (hg : ∀ x ∈ l, Good x) : (wr l).length ≤ 600 * l.length := by
  induction l with
  | nil => simp [wr]
  | cons x l ih =>
    have hx := hg x (by simp)
    have e : wr (x :: l) = piece x ++ wr l := rfl
    have h1 := ih (fun y hy => hg y (by simp [hy]))
    have h2 := seqA_len x.f0 (good64 x hx)
    have h3 := hx.2.1
    have h4 := hx.2.2.1
    have h5 : (piece x).length = (seqA x.f0).size + x.f1.size := by unfold piece; rw [List.length_append]; rfl
    rw [e, List.length_append, h5, List.length_cons]
    omega
theorem tame (s : List UInt8) (hq : Qs s) (hl : s.length ≤ 100000) : Tame s := by
  refine ⟨hl, fun i hi he => ?_⟩
  have hat : ∀ k, k < 4 → s.getD (i + k) 0 = R.getD k 0 := fun k hk => by
    rw [← he]
    simp only [List.getD_eq_getElem?_getD, List.getElem?_take_of_lt hk, List.getElem?_drop]
  have h0 := hat 0 (by omega)
  have h2 := hat 2 (by omega)
  exact (hq i (by omega) h0).2 h2

/-! ### the law -/
theorem law_l (l : List S26) (hl : l.length ≤ 2147483647) (hf : ∀ x ∈ l, Fit x) (hc : ∀ x ∈ l, Codes64 x) (hw : (wr l).length ≤ 4611686018427387904) : ∀ d i : Nat, i + d = l.length → (∀ x ∈ l.take i, ∀ c ∈ x.f0, c ≠ 0) → Ev (fun k => laws_FnTextEscapeNone.l0 k l l (l.length : Int) (i : Int)) true := by
  intro d
  induction d with
  | zero =>
    intro i hi hn
    rw [List.take_of_length_le (by omega)] at hn
    refine Ev.shift ?_
    simp only [laws_FnTextEscapeNone.l0, if_neg (show ¬ (i : Int) < (l.length : Int) by omega)]
    refine Ev.bind (written l hl hf hc hw) ?_
    obtain ⟨b, hb, hbt⟩ := good l hl hf
    refine Ev.bind hb ?_
    cases b with
    | false =>
      simp only [if_neg (show ¬ (false = true) by decide)]
      exact Ev.now _
    | true =>
      obtain ⟨h40, hg⟩ := hbt rfl
      have hT : Tame (wr l) := tame _ (Qs_wr l hg hn) (by have := wr_len l hg; omega)
      have he : impl_TextEscape.f (str (wr l)) ⟨#[]⟩ = some (str (wr l)) := by
        unfold impl_TextEscape.f text_Escape.f
        rw [if_pos (show (⟨#[]⟩ : ByteArray).size = 0 from rfl), if_pos (show Tame (str (wr l)).data.toList from hT)]
        rfl
      simp only [if_true, he, Option.bind_some, toList_beq]
      exact Ev.now _
  | succ d ih =>
    intro i hi hn
    have hil : i < l.length := by omega
    obtain ⟨b, hb, hbt⟩ := among l[i].f0 (hf _ (List.getElem_mem _)).1
    refine Ev.shift ?_
    simp only [laws_FnTextEscapeNone.l0, if_pos (show (i : Int) < (l.length : Int) by omega), if_pos (show 0 ≤ (i : Int) by omega), rd26 l i hil]
    refine Ev.bind hb ?_
    cases b with
    | true =>
      simp only [if_true]
      exact Ev.now _
    | false =>
      simp only [if_neg (show ¬ (false = true) by decide), wrap_succ i (by omega)]
      refine ih (i + 1) (by omega) fun x hx => ?_
      rw [take_succ_at l i hil, List.mem_append, List.mem_singleton] at hx
      rcases hx with hx | rfl
      · exact hn x hx
      · exact hbt rfl
theorem law (l : List S26) (hc : ∀ x ∈ l, Codes64 x) (hw : (wr l).length ≤ 4611686018427387904) : ∃ k, laws_FnTextEscapeNone.f k l = some true := by
  have : Ev (fun k => laws_FnTextEscapeNone.f k l) true := by
    obtain ⟨b, hb, hbt⟩ := fits15 l
    simp only [laws_FnTextEscapeNone.f]
    refine Ev.bind hb ?_
    cases b with
    | false =>
      simp only [if_neg (show ¬ (false = true) by decide)]
      exact Ev.now _
    | true =>
      obtain ⟨hl, hf⟩ := hbt rfl
      simp only [if_true]
      exact law_l l hl hf hc hw l.length 0 (by omega) (by simp)
  obtain ⟨K, hK⟩ := this
  exact ⟨K, hK K (Nat.le_refl _)⟩
/-- what is written is not much longer than what is read -/
theorem wr_bulk (l : List S26) (hc : ∀ x ∈ l, Codes64 x) : (wr l).length ≤ 25 * bulkList (fun x : S26 => bulkList (fun _ : Int => 1) x.f0 + 1 + (x.f1.size + 1) + 1) l := by
  induction l with
  | nil => simp [wr]
  | cons x l ih =>
    have e : wr (x :: l) = piece x ++ wr l := rfl
    have h1 := ih (fun y hy => hc y (by simp [hy]))
    have h2 := seqA_len x.f0 (hc x (by simp))
    have h5 : (piece x).length = (seqA x.f0).size + x.f1.size := by unfold piece; rw [List.length_append]; rfl
    have h6 : bulkList (fun _ : Int => 1) x.f0 = x.f0.length := by unfold bulkList; induction x.f0 with
      | nil => rfl
      | cons a r ih => simp only [List.map_cons, List.sum_cons, List.length_cons, ih]; omega
    rw [e, List.length_append, h5]
    simp only [bulkList, List.map_cons, List.sum_cons] at h1 h6 ⊢
    rw [h6]
    omega
end Go.Proofs.YtenclpkeffhjaaaDoor.Enp
