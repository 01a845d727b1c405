/- The law of SplitCamelCase on letters, in plain Lean. -/
import Derived.Test.YtjaebonfojnmdaaDoorGFnCamelx2
import Derived.Test.YtjaebonfojnmdaaDoorCmq
namespace Go.Proofs.YtjaebonfojnmdaaDoor.Cmr
open Go Go.RowKit Go.Proofs.YtjaebonfojnmdaaDoor.GFnCamel Go.Proofs.YtjaebonfojnmdaaDoorW.PrintWords Go.Proofs.YtjaebonfojnmdaaDoorW.PrintLast Go.Proofs.YtjaebonfojnmdaaDoor.Small Cmp Cme Cmq Cmw

theorem runes_len (s : ByteArray) : (runes s).length = s.size := by unfold runes; rw [List.length_map]; rfl
theorem bt_runes (s : ByteArray) (i : Nat) (hi : i < s.size) : bt s (i : Int) = (runes s).getD i 0 := by
  have h : i < s.data.toList.length := by exact hi
  unfold bt runes
  rw [dif_pos (by simpa using hi), List.getD_eq_getElem?_getD, List.getElem?_map, List.getElem?_eq_getElem h]
  simp [ByteArray.getElem_eq_getElem_data]
def kd (c : Int) : Int := if 97 ≤ c ∧ c ≤ 122 then 0 else if 65 ≤ c ∧ c ≤ 90 then 1 else if 48 ≤ c ∧ c ≤ 57 then 2 else 3
theorem kind (c : Int) : Ev (fun k => spec_TwKind.f k c) (kd c) := by
  have h1 : ∀ b : Bool, (b = false → ¬ (97 ≤ c ∧ c ≤ 122)) → Ev (fun k => spec_TwKind.j1 k c b) (if b = true then 1 else if 48 ≤ c ∧ c ≤ 57 then 2 else 3) := fun b _ => by
    refine Ev.shift ?_
    cases b
    · simp only [spec_TwKind.j1, if_neg (show ¬ (false = true) by decide)]
      by_cases h : 48 ≤ c
      · by_cases h2 : c ≤ 57
        · simp only [ge_iff_le, if_pos h, if_pos h2, if_pos (And.intro h h2)]; exact Ev.now _
        · simp only [ge_iff_le, if_pos h, if_neg h2, if_neg (fun e : 48 ≤ c ∧ c ≤ 57 => h2 e.2)]; exact Ev.now _
      · simp only [ge_iff_le, if_neg h, if_neg (fun e : 48 ≤ c ∧ c ≤ 57 => h e.1)]; exact Ev.now _
    · simp only [spec_TwKind.j1, if_true]; exact Ev.now _
  have h0 : ∀ b : Bool, b = decide (97 ≤ c ∧ c ≤ 122) → Ev (fun k => spec_TwKind.j0 k c b) (kd c) := fun b hb => by
    refine Ev.shift ?_
    by_cases h : 97 ≤ c ∧ c ≤ 122
    · rw [decide_eq_true h] at hb
      subst hb
      simp only [spec_TwKind.j0, if_true]
      unfold kd
      rw [if_pos h]
      exact Ev.now _
    · rw [decide_eq_false h] at hb
      subst hb
      unfold kd
      rw [if_neg h]
      simp only [spec_TwKind.j0, if_neg (show ¬ (false = true) by decide)]
      by_cases h2 : 65 ≤ c
      · simp only [ge_iff_le, if_pos h2]
        have := h1 (decide (c ≤ 90)) (fun _ => h)
        by_cases h3 : c ≤ 90
        · rw [decide_eq_true h3] at this ⊢
          rw [if_pos ⟨h2, h3⟩]
          simpa using this
        · rw [decide_eq_false h3] at this ⊢
          rw [if_neg (fun e : 65 ≤ c ∧ c ≤ 90 => h3 e.2)]
          simpa using this
      · simp only [ge_iff_le, if_neg h2]
        have := h1 false (fun _ => h)
        rw [if_neg (fun e : 65 ≤ c ∧ c ≤ 90 => h2 e.1)]
        simpa using this
  unfold spec_TwKind.f
  by_cases h : 97 ≤ c
  · simp only [ge_iff_le, if_pos h]
    exact h0 _ (decide_eq_decide.2 (by omega))
  · simp only [ge_iff_le, if_neg h]
    exact h0 _ (by rw [decide_eq_false (by omega)])
theorem texts_same (l : List ByteArray) (hl : l.length ≤ 1000000) : Ev (fun k => spec_TwTexts.f k l l) true := by
  have key : ∀ (m i : Nat), i + m = l.length → Ev (fun k => spec_TwTexts.l0 k l l (i : Int)) true := by
    intro m
    induction m with
    | zero =>
      intro i hi
      refine Ev.shift ?_
      simp only [spec_TwTexts.l0, if_neg (show ¬ (i : Int) < (l.length : Int) by omega)]
      exact Ev.now _
    | succ m ih =>
      intro i hi
      refine Ev.shift ?_
      simp only [spec_TwTexts.l0, if_pos (show (i : Int) < (l.length : Int) by omega), if_pos (show (0 : Int) ≤ (i : Int) by omega), if_true]
      rw [wrap_succ i (by omega)]
      exact ih (i + 1) (by omega)
  unfold spec_TwTexts.f
  simp only [if_true]
  exact key l.length 0 (by omega)
theorem kd_low {c : Int} (h : Lt c) : (kd c = 0 ↔ 97 ≤ c) ∧ (kd c = 1 ↔ c < 97) := by
  unfold kd
  unfold Lt at h
  by_cases h1 : 97 ≤ c
  · rw [if_pos (by omega)]; simp; omega
  · rw [if_neg (by omega), if_pos (by omega)]; simp; omega
theorem piece (s : ByteArray) (hl : ∀ c ∈ runes s, Lt c) (a b : Nat) : runesBytes (((runes s).drop a).take (b - a)) = s.extract a b := by
  refine ba_ext ?_
  rw [text _ (fun c hc => hl c (List.mem_of_mem_drop (List.mem_of_mem_take hc))), extract_data]
  unfold runes
  rw [← List.map_drop, ← List.map_take, List.map_map]
  have : ((fun c : Int => UInt8.ofNat c.toNat) ∘ fun b : UInt8 => (b.toNat : Int)) = id := by
    funext b
    simp
  rw [this, List.map_id]
theorem drop_at (l : List Int) (i : Nat) (h : i < l.length) : l.drop i = l.getD i 0 :: l.drop (i + 1) := by
  rw [List.getD_eq_getElem?_getD, List.getElem?_eq_getElem h]
  exact List.drop_eq_getElem_cons h
theorem take_at (l : List Int) (a i : Nat) (h : a ≤ i) (hi : i < l.length) : (l.drop a).take (i + 1 - a) = (l.drop a).take (i - a) ++ [l.getD i 0] := by
  rw [show i + 1 - a = (i - a) + 1 by omega, List.take_add_one, List.getElem?_drop, show a + (i - a) = i by omega, List.getElem?_eq_getElem hi, List.getD_eq_getElem?_getD, List.getElem?_eq_getElem hi]
  rfl
theorem cutL_ne (c : Int) (t : List Int) : ∃ g gs, cutL (c :: t) = g :: gs := by
  cases h : cutL t with
  | nil => exact ⟨[c], [], by show (match cutL t with | [] => [[c]] | g :: gs => _) = _; rw [h]⟩
  | cons g gs =>
    rw [cutL_cons h]
    split
    · exact ⟨_, _, rfl⟩
    · exact ⟨_, _, rfl⟩
theorem cut_at (l : List Int) (i : Nat) (c : Int) (hi : i < l.length) : cutB c (l.drop i) = (decide (l.getD i 0 < 97) && (decide (97 ≤ c) || (decide (i + 1 < l.length) && decide (97 ≤ l.getD (i + 1) 0)))) := by
  rw [drop_at l i hi]
  by_cases h : i + 1 < l.length
  · rw [drop_at l (i + 1) h, decide_eq_true h]
    rfl
  · rw [List.drop_of_length_le (by omega), decide_eq_false h]
    rfl
/-- the cuts' loop -/
theorem loop (s : ByteArray) (hl : ∀ c ∈ runes s, Lt c) (hs : s.size ≤ 200) (hpos : 0 < s.size) (hb : ∀ b ∈ s.data.toList, Cmb.Let b) : ∀ (m i : Nat) (W0 : List (List Int)) (a : Nat), i + m = s.size → 1 ≤ i → a < i → W0.length ≤ i →
    (∃ g gs, cutL ((runes s).drop (i - 1)) = g :: gs ∧ cutL (runes s) = W0 ++ ((((runes s).drop a).take (i - 1 - a) ++ g) :: gs)) → Ev (fun k => laws_FnCamel.l1 k s (W0.map runesBytes) (a : Int) (i : Int)) true := by
  have hrl := runes_len s
  intro m
  induction m with
  | zero =>
    intro i W0 a him hi ha hw ⟨g, gs, hg, hW⟩
    obtain rfl : i = s.size := by omega
    refine Ev.shift ?_
    have e1 : impl_TwSplitCamelCase.f s = some (camel (runes s)) := by
      unfold impl_TwSplitCamelCase.f tw_SplitCamelCase.f
      rw [if_pos hpos, if_pos hs, if_pos hb]; rfl
    simp only [laws_FnCamel.l1, if_neg (show ¬ (s.size : Int) < (s.size : Int) by omega), e1, if_pos (show (0 : Int) ≤ (a : Int) by omega), if_pos (show (a : Int) ≤ (s.size : Int) by omega), Option.bind_some, Int.toNat_natCast]
    rw [drop_at _ _ (by omega), show s.size - 1 + 1 = s.size by omega, List.drop_of_length_le (by omega)] at hg
    have hg' : [[(runes s).getD (s.size - 1) 0]] = g :: gs := hg
    injection hg' with h1 h2
    subst h1; subst h2
    rw [← take_at _ a (s.size - 1) (by omega) (by omega), show s.size - 1 + 1 - a = s.size - a by omega] at hW
    have hx : s.extract a s.size = runesBytes (((runes s).drop a).take (s.size - a)) := (piece s hl a s.size).symm
    have e2 : camel (runes s) = W0.map runesBytes ++ [s.extract a s.size] := by
      have h0 := drop_at (runes s) 0 (by omega)
      rw [List.drop_zero] at h0
      rw [h0, camel_cuts, ← h0, hW, List.map_append, hx]; rfl
    have hll : (W0.map runesBytes).length + [s.extract a s.size].length < 8796093022208 := by simp; omega
    simp only [if_pos hll, ← e2]
    refine Ev.bind (a := true) (f := fun n x => some x) (texts_same _ ?_) (Ev.now _)
    rw [e2, List.length_append, List.length_map, List.length_singleton]; omega
  | succ m ih =>
    intro i W0 a him hi ha hw ⟨g, gs, hg, hW⟩
    have hlt : i < s.size := by omega
    have hx := hl _ (List.mem_of_getElem? (getD_at 0 (runes s) i (by omega)))
    have hc := hl _ (List.mem_of_getElem? (getD_at 0 (runes s) (i - 1) (by omega)))
    have e1 : wrap64 ((i : Int) - 1) = ((i - 1 : Nat) : Int) := by rw [wrap_in (by omega) (by omega)]; omega
    have e2 : wrap64 ((i : Int) + 1) = ((i + 1 : Nat) : Int) := wrap_succ i (by omega)
    -- what the next state is
    have hdi := drop_at (runes s) i (by omega)
    have hdp := drop_at (runes s) (i - 1) (by omega)
    rw [show i - 1 + 1 = i by omega] at hdp
    obtain ⟨g2, gs2, hg2⟩ := cutL_ne ((runes s).getD i 0) ((runes s).drop (i + 1))
    rw [← hdi] at hg2
    have hcc := cutL_cons (c := (runes s).getD (i - 1) 0) hg2
    rw [← hdp, cut_at _ i _ (by omega)] at hcc
    have htk := take_at (runes s) a (i - 1) (by omega) (by omega)
    rw [show i - 1 + 1 - a = i - a by omega] at htk
    have CUT : (((runes s).getD i 0 < 97) ∧ (97 ≤ (runes s).getD (i - 1) 0 ∨ (i + 1 < s.size ∧ 97 ≤ (runes s).getD (i + 1) 0))) → Ev (fun k => laws_FnCamel.l1 k s (W0.map runesBytes ++ [s.extract a i]) (i : Int) ((i + 1 : Nat) : Int)) true := fun h => by
      rw [hrl, if_pos (by simpa using h)] at hcc
      rw [hg] at hcc
      injection hcc with h1 h2
      subst h1; subst h2
      rw [← htk] at hW
      have := ih (i + 1) (W0 ++ [((runes s).drop a).take (i - a)]) i (by omega) (by omega) (by omega) (by simp; omega) ⟨g2, gs2, by rw [Nat.add_sub_cancel]; exact hg2, by
        rw [hW, List.append_assoc]
        simp⟩
      rw [List.map_append, List.map_cons, List.map_nil, piece s hl a i] at this
      exact this
    have STAY : ¬ (((runes s).getD i 0 < 97) ∧ (97 ≤ (runes s).getD (i - 1) 0 ∨ (i + 1 < s.size ∧ 97 ≤ (runes s).getD (i + 1) 0))) → Ev (fun k => laws_FnCamel.l1 k s (W0.map runesBytes) (a : Int) ((i + 1 : Nat) : Int)) true := fun h => by
      rw [hrl, if_neg (by intro h2; apply h; simpa using h2)] at hcc
      rw [hg] at hcc
      injection hcc with h1 h2
      subst h1; subst h2
      refine ih (i + 1) W0 a (by omega) (by omega) (by omega) (by omega) ⟨g2, _, by rw [Nat.add_sub_cancel]; exact hg2, ?_⟩
      rw [hW, Nat.add_sub_cancel, htk, List.append_assoc]; rfl
    refine Ev.shift ?_
    simp only [laws_FnCamel.l1, if_pos (show (i : Int) < (s.size : Int) by omega), if_pos (show (0 : Int) ≤ (i : Int) by omega), e1, e2]
    refine Ev.bind (f := fun n t117 => _) (kind (bt s (i : Int))) ?_
    rw [bt_runes s i hlt]
    simp only [if_pos (show (0 : Int) ≤ ((i - 1 : Nat) : Int) by omega), if_pos (show ((i - 1 : Nat) : Int) < (s.size : Int) by omega)]
    refine Ev.bind (f := fun n t118 => _) (kind (bt s ((i - 1 : Nat) : Int))) ?_
    rw [bt_runes s (i - 1) (by omega)]
    have hll : (W0.map runesBytes).length + [s.extract a i].length < 8796093022208 := by simp; omega
    by_cases hk : (runes s).getD i 0 < 97
    · simp only [if_pos ((kd_low hx).2.2 hk)]
      by_cases hk2 : 97 ≤ (runes s).getD (i - 1) 0
      · simp only [if_pos ((kd_low hc).1.2 hk2), if_pos (show (0 : Int) ≤ (a : Int) by omega), if_pos (show (a : Int) ≤ (i : Int) by omega), if_pos (show (i : Int) ≤ (s.size : Int) by omega), Option.bind_some, Int.toNat_natCast, if_pos hll]
        exact CUT ⟨hk, .inl hk2⟩
      · simp only [if_neg (fun e => hk2 ((kd_low hc).1.1 e))]
        by_cases h1 : i + 1 < s.size
        · have hn := hl _ (List.mem_of_getElem? (getD_at 0 (runes s) (i + 1) (by omega)))
          simp only [if_pos (show ((i + 1 : Nat) : Int) < (s.size : Int) by omega), if_pos (show (0 : Int) ≤ ((i + 1 : Nat) : Int) by omega)]
          refine Ev.bind (f := fun n t125 => _) (kind (bt s ((i + 1 : Nat) : Int))) ?_
          rw [bt_runes s (i + 1) h1]
          by_cases hk3 : 97 ≤ (runes s).getD (i + 1) 0
          · simp only [if_pos ((kd_low hn).1.2 hk3), if_pos (show (0 : Int) ≤ (a : Int) by omega), if_pos (show (a : Int) ≤ (i : Int) by omega), if_pos (show (i : Int) ≤ (s.size : Int) by omega), Option.bind_some, Int.toNat_natCast, if_pos hll]
            exact CUT ⟨hk, .inr ⟨h1, hk3⟩⟩
          · simp only [if_neg (fun e => hk3 ((kd_low hn).1.1 e))]
            exact STAY (fun h => by rcases h.2 with h | h; exact hk2 h; exact hk3 h.2)
        · simp only [if_neg (show ¬ ((i + 1 : Nat) : Int) < (s.size : Int) by omega)]
          exact STAY (fun h => by rcases h.2 with h | h; exact hk2 h; exact h1 h.1)
    · simp only [if_neg (fun e => hk ((kd_low hx).2.1 e))]
      exact STAY (fun h => hk h.1)
theorem law (s : ByteArray) : Ev (fun k => laws_FnCamel.f k s) true := by
  have hj1 : ∀ x : Bool, x = true → Ev (fun k => laws_FnCamel.j1 k s x) true := fun x hx => Ev.shift (by simp only [laws_FnCamel.j1, if_pos hx]; exact Ev.now _)
  unfold laws_FnCamel.f
  by_cases c0 : (s.size : Int) > 2147483647
  · simp only [if_pos c0]; exact Ev.now _
  simp only [if_neg c0]
  have key : ∀ (m i : Nat), i + m = s.size → (∀ j, j < i → Lt ((runes s).getD j 0)) → Ev (fun k => laws_FnCamel.l0 k s (i : Int)) true := by
    intro m
    induction m with
    | zero =>
      intro i hi hall
      refine Ev.shift ?_
      simp only [laws_FnCamel.l0, if_neg (show ¬ (i : Int) < (s.size : Int) by omega)]
      by_cases c1 : (s.size : Int) > 200
      · simp only [if_pos c1]; exact hj1 true rfl
      simp only [if_neg c1]
      by_cases c2 : s.size = 0
      · exact hj1 _ (by rw [c2]; rfl)
      have hf : ((s.size : Int) == 0) = false := by rw [beq_eq_false_iff_ne]; omega
      rw [hf]
      refine Ev.shift ?_
      simp only [laws_FnCamel.j1, if_neg (show ¬ (false = true) by decide)]
      have hl : ∀ c ∈ runes s, Lt c := fun c hc => by
        obtain ⟨j, hj, rfl⟩ := List.getElem_of_mem hc
        have := hall j (by rw [runes_len] at hj; omega)
        rwa [List.getD_eq_getElem?_getD, List.getElem?_eq_getElem hj] at this
      have hb : ∀ b ∈ s.data.toList, Cmb.Let b := fun b hb => by
        have := hl (b.toNat : Int) (List.mem_map.2 ⟨b, hb, rfl⟩)
        unfold Lt at this
        unfold Cmb.Let
        omega
      have h0 := drop_at (runes s) 0 (by rw [runes_len]; omega)
      rw [List.drop_zero] at h0
      obtain ⟨g, gs, hg⟩ := cutL_ne ((runes s).getD 0 0) ((runes s).drop 1)
      rw [← h0] at hg
      exact loop s hl (by omega) (by omega) hb (s.size - 1) 1 [] 0 (by omega) (Nat.le_refl _) (by omega) (by simp) ⟨g, gs, by rw [Nat.sub_self, List.drop_zero]; exact hg, by simpa using hg⟩
    | succ m ih =>
      intro i hi hall
      refine Ev.shift ?_
      simp only [laws_FnCamel.l0, if_pos (show (i : Int) < (s.size : Int) by omega), if_pos (show (0 : Int) ≤ (i : Int) by omega)]
      refine Ev.bind (f := fun n t106 => _) (kind (bt s (i : Int))) ?_
      rw [bt_runes s i (by omega), wrap_succ i (by omega)]
      by_cases hk : kd ((runes s).getD i 0) > 1
      · simp only [if_pos hk]; exact Ev.now _
      · simp only [if_neg hk]
        refine ih (i + 1) (by omega) (fun j hj => ?_)
        by_cases e : j = i
        · subst e
          unfold kd at hk
          unfold Lt
          by_cases h1 : 97 ≤ (runes s).getD j 0 ∧ (runes s).getD j 0 ≤ 122
          · exact .inl h1
          · rw [if_neg h1] at hk
            by_cases h2 : 65 ≤ (runes s).getD j 0 ∧ (runes s).getD j 0 ≤ 90
            · exact .inr h2
            · rw [if_neg h2] at hk
              exfalso
              split at hk <;> omega
        · exact hall j (by omega)
  exact key s.size 0 (by omega) (fun j hj => by omega)
end Go.Proofs.YtjaebonfojnmdaaDoor.Cmr
