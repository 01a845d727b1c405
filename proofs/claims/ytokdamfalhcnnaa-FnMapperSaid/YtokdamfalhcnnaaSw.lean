/- spec.With computes 'ins'. -/
import Derived.Test.YtokdamfalhcnnaaSd
import Derived.Test.YtokdamfalhcnnaaGMpBodyx3
namespace Go.Proofs.Ytokdamfalhcnnaa.Sw
open Go Go.RowKit Go.Proofs.YtokdamfalhcnnaaW.PrintWords Go.Proofs.YtokdamfalhcnnaaW.PrintLast Go.Proofs.YtokdamfalhcnnaaW.PrintMore GMpBody Small Mq Mo Pa Pe Sd

theorem ins_hit {p y : Pr} : ∀ {xs ys : List Pr}, (∀ e ∈ xs, e.1 < p.1) → y.1 = p.1 → ins (xs ++ y :: ys) p = xs ++ p :: ys
  | [], ys, _, h => by
    show (if y.1 < p.1 then _ else if y.1 = p.1 then _ else _) = _
    rw [if_neg (by omega), if_pos h]
    rfl
  | a :: t, ys, h, k => by
    have := h a (by simp)
    show (if a.1 < p.1 then a :: ins (t ++ y :: ys) p else if a.1 = p.1 then _ else _) = _
    rw [if_pos this, ins_hit (fun e he => h e (by simp [he])) k]
    rfl
/-- where a key stands, or would stand -/
def isAt (ys : List Pr) (key : Int) : Bool := match ys with | [] => false | y :: _ => y.1 == key
theorem split_at (key : Int) : ∀ {ps : List Pr}, Srt ps → ∃ xs ys, ps = xs ++ ys ∧ (∀ e ∈ xs, e.1 < key) ∧ (∀ e ∈ ys, key ≤ e.1)
  | [], _ => ⟨[], [], rfl, by simp, by simp⟩
  | a :: t, h => by
    have h' := List.pairwise_cons.1 h
    by_cases hk : a.1 < key
    · obtain ⟨xs, ys, e, h1, h2⟩ := split_at key h'.2
      refine ⟨a :: xs, ys, by rw [e]; rfl, fun e he => ?_, h2⟩
      rcases List.mem_cons.1 he with rfl | he
      · exact hk
      · exact h1 e he
    · refine ⟨[], a :: t, rfl, fun e he => (by cases he), fun e he => ?_⟩
      rcases List.mem_cons.1 he with rfl | he
      · omega
      · have := h'.1 e he; omega
theorem at_l0 (nn : Bool) (key : Int) (xs ys : List Pr) (hx : ∀ e ∈ xs, e.1 < key) (hy : ∀ e ∈ ys, key ≤ e.1) (hl : (xs ++ ys).length ≤ 100000) : ∀ (n j : Nat), n + j = xs.length → Ev (fun k => spec_TwMapped_At.l0 k key (j : Int) nn (sps (xs ++ ys))) ((xs.length : Int), isAt ys key)
  | 0, j, h => by
    apply Ev.shift
    simp only [spec_TwMapped_At.l0, sps_len]
    obtain rfl : j = xs.length := by omega
    cases ys with
    | nil =>
      simp only [if_neg (show ¬ (xs.length : Int) < ((xs ++ []).length : Int) by simp)]
      exact Ev.now _
    | cons y t =>
      have hlt : xs.length < (xs ++ y :: t).length := by simp
      have hy0 := hy y (by simp)
      have hr : rd_T29 (sps (xs ++ y :: t)) (xs.length : Int) = sp y := by rw [rd_sps _ _ hlt]; simp
      simp only [if_pos (show (xs.length : Int) < ((xs ++ y :: t).length : Int) by omega), if_pos (show 0 ≤ (xs.length : Int) by omega), hr]
      simp only [if_neg (show ¬ (sp y).f0 < key by show ¬ y.1 < key; omega)]
      exact Ev.now _
  | n + 1, j, h => by
    have hj : j < xs.length := by omega
    have hlt : j < (xs ++ ys).length := by simp; omega
    apply Ev.shift
    simp only [spec_TwMapped_At.l0, sps_len]
    have hr : rd_T29 (sps (xs ++ ys)) (j : Int) = sp xs[j] := by rw [rd_sps _ _ hlt]; simp [List.getElem_append_left hj]
    have hlj := hx xs[j] (List.getElem_mem hj)
    simp only [if_pos (show (j : Int) < ((xs ++ ys).length : Int) by omega), if_pos (show 0 ≤ (j : Int) by omega), hr]
    simp only [if_pos (show (sp xs[j]).f0 < key from hlj), wrap_succ j (by omega)]
    exact at_l0 nn key xs ys hx hy hl n (j + 1) (by omega)
theorem at_f (nn : Bool) (key : Int) {xs ys : List Pr} (hx : ∀ e ∈ xs, e.1 < key) (hy : ∀ e ∈ ys, key ≤ e.1) (hl : (xs ++ ys).length ≤ 100000) : Ev (fun k => spec_TwMapped_At.f k nn (sps (xs ++ ys)) key) ((xs.length : Int), isAt ys key) :=
  at_l0 nn key xs ys hx hy hl xs.length 0 (by omega)
theorem sps_drop (ps : List Pr) (n : Nat) : (sps ps).drop n = sps (ps.drop n) := by unfold sps; rw [List.map_drop]
theorem sps_take (ps : List Pr) (n : Nat) : (sps ps).take n = sps (ps.take n) := by unfold sps; rw [List.map_take]
theorem sps_app (a b : List Pr) : sps a ++ sps b = sps (a ++ b) := by unfold sps; rw [List.map_append]
theorem with_f (nn : Bool) {ps : List Pr} (hs : Srt ps) (hl : ps.length ≤ 90000) (k v : Int) : ∃ n, spec_TwMapped_With.f n nn (sps ps) k v = some (false, sps (ins ps (k, v))) := by
  obtain ⟨xs, ys, rfl, hx, hy⟩ := split_at k hs
  obtain ⟨n, hn⟩ := at_f nn k hx hy (by omega)
  refine ⟨n, ?_⟩
  have h := hn n (Nat.le_refl _)
  unfold spec_TwMapped_With.f
  simp only at h
  rw [h]
  simp only [Option.bind_some]
  have e1 : (sps (xs ++ ys)).drop ((xs.length : Int)).toNat = sps ys := by rw [sps_drop, Int.toNat_natCast, List.drop_left]
  have e2 : (sps (xs ++ ys)).take ((xs.length : Int)).toNat = sps xs := by rw [sps_take, Int.toNat_natCast, List.take_left]
  have hl2 : xs.length + ys.length ≤ 90000 := by simpa using hl
  simp only [e1, e2, sps_len, if_pos (show 0 ≤ (xs.length : Int) by omega), if_pos (show (xs.length : Int) ≤ ((xs.length + ys.length : Nat) : Int) by omega), List.nil_append, List.length_nil, List.length_append, List.length_cons]
  have e3 : ([(⟨k, v⟩ : S29)] : List S29) = sps [(k, v)] := rfl
  cases ys with
  | nil =>
    simp only [isAt, Bool.false_eq_true, if_false, List.length_nil]
    simp only [if_pos (show 0 + xs.length < 8796093022208 by omega), if_pos (show xs.length + (0 + 1) < 8796093022208 by omega), if_pos (show xs.length + (0 + 1) + 0 < 8796093022208 by omega)]
    have hi : ins (xs ++ []) (k, v) = xs ++ [(k, v)] := ins_mid hx (fun e he => by cases he)
    rw [hi, e3, sps_app, sps_app, List.append_nil]
  | cons y t =>
    by_cases hyk : y.1 = k
    · have hb : (y.1 == k) = true := by simp [hyk]
      have hd : (sps (y :: t)).drop 1 = sps t := rfl
      simp only [isAt, hb, if_true, List.length_cons, if_pos (show (1 : Int) ≤ ((t.length + 1 : Nat) : Int) by omega), hd, sps_len]
      simp only [if_pos (show 0 + xs.length < 8796093022208 by omega), if_pos (show xs.length + (0 + 1) < 8796093022208 by omega), if_pos (show xs.length + (0 + 1) + t.length < 8796093022208 by simp at hl2; omega)]
      have hi : ins (xs ++ y :: t) (k, v) = xs ++ (k, v) :: t := ins_hit hx hyk
      rw [hi, e3, sps_app, sps_app]
      simp
    · have hb : (y.1 == k) = false := by simp [hyk]
      simp only [isAt, hb, Bool.false_eq_true, if_false, List.length_cons]
      simp only [if_pos (show 0 + xs.length < 8796093022208 by omega), if_pos (show xs.length + (0 + 1) < 8796093022208 by omega), if_pos (show xs.length + (0 + 1) + (t.length + 1) < 8796093022208 by simp at hl2; omega)]
      have hgt : ∀ e ∈ y :: t, k < e.1 := fun e he => by
        have h0 := hy y (by simp)
        rcases List.mem_cons.1 he with rfl | he
        · omega
        · have := (List.pairwise_cons.1 (List.pairwise_append.1 hs).2.1).1 e he
          omega
      have hi : ins (xs ++ y :: t) (k, v) = xs ++ (k, v) :: y :: t := ins_mid hx hgt
      rw [hi, e3, sps_app, sps_app]
      simp
end Go.Proofs.Ytokdamfalhcnnaa.Sw
