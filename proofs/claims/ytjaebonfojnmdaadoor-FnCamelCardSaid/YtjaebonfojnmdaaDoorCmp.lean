/- What SplitCamelCase makes of letters of ASCII, on lists. -/
import Derived.Laws.Cover4
import Derived.Lib.Props
namespace Go.Proofs.YtjaebonfojnmdaaDoor.Cmp
open Go

def Lt (c : Int) : Prop := (97 ≤ c ∧ c ≤ 122) ∨ (65 ≤ c ∧ c ≤ 90)
def cls (c : Int) : Int := if 97 ≤ c then 1 else 2
/-- a character comes behind the rows -/
def step (st : List (List Int) × Int) (c : Int) : List (List Int) × Int :=
  (if cls c = st.2 then st.1.set (st.1.length - 1) (st.1.getD (st.1.length - 1) [] ++ [c]) else st.1 ++ [[c]], cls c)
def grp (cs : List Int) : List (List Int) × Int := cs.foldl step ([], 0)
/-- row i's last character goes ahead of row i + 1, if that is of small letters and this of capitals -/
def mv (rs : List (List Int)) (i : Nat) : List (List Int) :=
  if (rs.getD i []).getD 0 0 < 97 ∧ 97 ≤ (rs.getD (i + 1) []).getD 0 0 then
    (rs.set (i + 1) ((rs.getD i []).getD ((rs.getD i []).length - 1) 0 :: rs.getD (i + 1) [])).set i ((rs.getD i []).take ((rs.getD i []).length - 1)) else rs
def mvs (rs : List (List Int)) : Nat → List (List Int)
  | 0 => rs
  | k + 1 => mv (mvs rs k) k
def keep (rs : List (List Int)) : List ByteArray := (rs.filter fun r => decide (0 < r.length)).map runesBytes
def camel (cs : List Int) : List ByteArray := keep (mvs (grp cs).1 ((grp cs).1.length - 1))

theorem cls_cases (c : Int) : cls c = 1 ∨ cls c = 2 := by unfold cls; split <;> simp
/-- behind j characters -/
structure Gi (j : Nat) (st : List (List Int) × Int) : Prop where
  let_ : ∀ r ∈ st.1, ∀ c ∈ r, Lt c
  ne : ∀ r ∈ st.1, r ≠ []
  le : ∀ r ∈ st.1, r.length ≤ j
  few : st.1.length ≤ j
  was : st.2 = 0 ∨ 0 < st.1.length
theorem Gi.nil : Gi 0 ([], 0) := ⟨by simp, by simp, by simp, by simp, .inl rfl⟩
theorem getD_last {α : Type} (d : α) (l : List α) (h : 0 < l.length) : l.getD (l.length - 1) d ∈ l := by
  rw [List.getD_eq_getElem?_getD, List.getElem?_eq_getElem (show l.length - 1 < l.length by omega)]
  exact List.getElem_mem _
theorem Gi.step {j : Nat} {st : List (List Int) × Int} (h : Gi j st) (c : Int) (hc : Lt c) : Gi (j + 1) (step st c) := by
  unfold Cmp.step
  by_cases e : cls c = st.2
  · rw [if_pos e]
    have h0 : 0 < st.1.length := by rcases h.was with w | w; (rcases cls_cases c with x | x <;> omega); exact w
    have hm := getD_last [] st.1 h0
    refine ⟨fun r hr d hd => ?_, fun r hr => ?_, fun r hr => ?_, by rw [List.length_set]; have := h.few; omega, .inr (by rw [List.length_set]; exact h0)⟩
    · rcases List.mem_or_eq_of_mem_set hr with hr | rfl
      · exact h.let_ r hr d hd
      · rcases List.mem_append.1 hd with hd | hd
        · exact h.let_ _ hm d hd
        · rw [List.mem_singleton.1 hd]; exact hc
    · rcases List.mem_or_eq_of_mem_set hr with hr | rfl
      · exact h.ne r hr
      · simp
    · rcases List.mem_or_eq_of_mem_set hr with hr | rfl
      · have := h.le r hr; omega
      · have := h.le _ hm; rw [List.length_append, List.length_singleton]; omega
  · rw [if_neg e]
    refine ⟨fun r hr d hd => ?_, fun r hr => ?_, fun r hr => ?_, by rw [List.length_append, List.length_singleton]; have := h.few; omega, .inr (by simp)⟩
    · rcases List.mem_append.1 hr with hr | hr
      · exact h.let_ r hr d hd
      · rw [List.mem_singleton.1 hr, List.mem_singleton] at hd; rw [hd]; exact hc
    · rcases List.mem_append.1 hr with hr | hr
      · exact h.ne r hr
      · rw [List.mem_singleton.1 hr]; simp
    · rcases List.mem_append.1 hr with hr | hr
      · have := h.le r hr; omega
      · rw [List.mem_singleton.1 hr]; simp
/-- the second loop, behind i rounds; n: no row had more -/
structure Mi (n i : Nat) (rs : List (List Int)) : Prop where
  let_ : ∀ r ∈ rs, ∀ c ∈ r, Lt c
  ne : ∀ k r, i ≤ k → rs[k]? = some r → r ≠ []
  le : ∀ r ∈ rs, r.length ≤ n + 1
  lt : ∀ k r, i < k → rs[k]? = some r → r.length ≤ n
theorem Mi.of {j : Nat} {st : List (List Int) × Int} (h : Gi j st) : Mi j 0 st.1 :=
  ⟨h.let_, fun _ r _ hr => h.ne r (List.mem_of_getElem? hr), fun r hr => Nat.le_succ_of_le (h.le r hr), fun _ r _ hr => h.le r (List.mem_of_getElem? hr)⟩
theorem mv_len (rs : List (List Int)) (i : Nat) : (mv rs i).length = rs.length := by unfold mv; split <;> simp
theorem mvs_len (rs : List (List Int)) : ∀ k, (mvs rs k).length = rs.length
  | 0 => rfl
  | k + 1 => by show (mv _ _).length = _; rw [mv_len, mvs_len rs k]
theorem getD_at {α : Type} (d : α) (l : List α) (i : Nat) (h : i < l.length) : l[i]? = some (l.getD i d) := by
  rw [List.getD_eq_getElem?_getD, List.getElem?_eq_getElem h]; rfl
theorem Mi.mv {n i : Nat} {rs : List (List Int)} (h : Mi n i rs) (hi : i + 1 < rs.length) : Mi n (i + 1) (mv rs i) := by
  unfold Cmp.mv
  split
  · have ha := getD_at [] rs i (by omega)
    have hb := getD_at [] rs (i + 1) hi
    obtain ⟨a, hae⟩ : ∃ a, rs.getD i [] = a := ⟨_, rfl⟩
    obtain ⟨b, hbe⟩ : ∃ b, rs.getD (i + 1) [] = b := ⟨_, rfl⟩
    rw [hae] at ha
    rw [hbe] at hb
    rw [hae, hbe]
    have ha0 : 0 < a.length := List.length_pos_iff.2 (h.ne i a (Nat.le_refl _) ha)
    have hx := getD_last 0 a ha0
    have hlb := h.lt (i + 1) b (by omega) hb
    refine ⟨fun r hr d hd => ?_, fun k r hk hr => ?_, fun r hr => ?_, fun k r hk hr => ?_⟩
    · rcases List.mem_or_eq_of_mem_set hr with hr | rfl
      · rcases List.mem_or_eq_of_mem_set hr with hr | rfl
        · exact h.let_ r hr d hd
        · rcases List.mem_cons.1 hd with rfl | hd
          · exact h.let_ a (List.mem_of_getElem? ha) _ hx
          · exact h.let_ b (List.mem_of_getElem? hb) _ hd
      · exact h.let_ a (List.mem_of_getElem? ha) _ (List.mem_of_mem_take hd)
    · rw [List.getElem?_set_ne (by omega)] at hr
      by_cases e : k = i + 1
      · subst e
        rw [List.getElem?_set_self hi] at hr
        rw [← Option.some.inj hr]; simp
      · rw [List.getElem?_set_ne (fun x => e x.symm)] at hr
        exact h.ne k r (by omega) hr
    · rcases List.mem_or_eq_of_mem_set hr with hr | rfl
      · rcases List.mem_or_eq_of_mem_set hr with hr | rfl
        · exact h.le r hr
        · rw [List.length_cons]; omega
      · have := h.le a (List.mem_of_getElem? ha)
        rw [List.length_take]; omega
    · rw [List.getElem?_set_ne (by omega), List.getElem?_set_ne (by omega)] at hr
      exact h.lt k r (by omega) hr
  · exact ⟨h.let_, fun k r hk => h.ne k r (by omega), h.le, fun k r hk => h.lt k r (by omega)⟩
end Go.Proofs.YtjaebonfojnmdaaDoor.Cmp
