/- The parts that SplitCamelCase makes of letters are those between the law's cuts: on lists. -/
import Derived.Test.YtjaebonfojnmdaaDoorCme
namespace Go.Proofs.YtjaebonfojnmdaaDoor.Cmq
open Go Cmp Cme

/-- runs of one kind -/
def cons (c : Int) : List (List Int) → List (List Int)
  | [] => [[c]]
  | r :: rs => if cls c = cls (r.getD 0 0) then (c :: r) :: rs else [c] :: r :: rs
def runs : List Int → List (List Int)
  | [] => []
  | c :: t => cons c (runs t)
theorem cons_pos {c : Int} {r : List Int} (rs : List (List Int)) (h : cls c = cls (r.getD 0 0)) : cons c (r :: rs) = (c :: r) :: rs := if_pos h
theorem cons_neg {c : Int} {r : List Int} (rs : List (List Int)) (h : ¬ cls c = cls (r.getD 0 0)) : cons c (r :: rs) = [c] :: r :: rs := if_neg h
/-- what comes behind all stands in the runs' last -/
def snoc (rs : List (List Int)) (c : Int) : List (List Int) :=
  if cls c = cls ((rs.getD (rs.length - 1) []).getD 0 0) then rs.set (rs.length - 1) (rs.getD (rs.length - 1) [] ++ [c]) else rs ++ [[c]]
theorem snoc_two (r b : List Int) (bs : List (List Int)) (c : Int) : snoc (r :: b :: bs) c = r :: snoc (b :: bs) c := by
  unfold snoc
  show (if cls c = cls (((b :: bs).getD ((b :: bs).length - 1) []).getD 0 0) then r :: (b :: bs).set ((b :: bs).length - 1) ((b :: bs).getD ((b :: bs).length - 1) [] ++ [c]) else r :: (b :: bs ++ [[c]])) = _
  split <;> rfl
theorem snoc_pos {r : List Int} {c : Int} (h : cls c = cls (r.getD 0 0)) : snoc [r] c = [r ++ [c]] := if_pos h
theorem snoc_neg {r : List Int} {c : Int} (h : ¬ cls c = cls (r.getD 0 0)) : snoc [r] c = [r, [c]] := if_neg h
theorem head_cons (c : Int) (rs : List (List Int)) : ∃ r t, cons c rs = (c :: r) :: t := by
  cases rs with
  | nil => exact ⟨[], [], rfl⟩
  | cons r rs =>
    by_cases h : cls c = cls (r.getD 0 0)
    · exact ⟨r, rs, cons_pos rs h⟩
    · exact ⟨[], r :: rs, cons_neg rs h⟩
theorem cons_snoc (a c : Int) (x : Int) (r : List Int) (rs : List (List Int)) : cons a (snoc ((x :: r) :: rs) c) = snoc (cons a ((x :: r) :: rs)) c := by
  cases rs with
  | nil =>
    by_cases h2 : cls a = cls ((x :: r).getD 0 0)
    · rw [cons_pos _ h2]
      by_cases h1 : cls c = cls ((x :: r).getD 0 0)
      · rw [snoc_pos h1, snoc_pos (show cls c = cls ((a :: x :: r).getD 0 0) from h1.trans h2.symm)]
        exact cons_pos [] h2
      · rw [snoc_neg h1, snoc_neg (show ¬ cls c = cls ((a :: x :: r).getD 0 0) from fun e => h1 (e.trans h2))]
        exact cons_pos [[c]] h2
    · rw [cons_neg _ h2, snoc_two]
      by_cases h1 : cls c = cls ((x :: r).getD 0 0)
      · rw [snoc_pos h1]
        exact cons_neg [] h2
      · rw [snoc_neg h1]
        exact cons_neg [[c]] h2
  | cons b bs =>
    rw [snoc_two]
    by_cases h2 : cls a = cls ((x :: r).getD 0 0)
    · rw [cons_pos _ h2, cons_pos _ h2, snoc_two]
    · rw [cons_neg _ h2, cons_neg _ h2, snoc_two, snoc_two]
theorem runs_snoc (c : Int) : ∀ a l, runs (a :: l ++ [c]) = snoc (runs (a :: l)) c
  | a, [] => by
    show cons a [[c]] = snoc [[a]] c
    by_cases h : cls a = cls ([c].getD 0 0)
    · rw [cons_pos _ h, snoc_pos (show cls c = cls ([a].getD 0 0) from h.symm)]; rfl
    · rw [cons_neg _ h, snoc_neg (show ¬ cls c = cls ([a].getD 0 0) from fun e => h e.symm)]
  | a, b :: l => by
    obtain ⟨r, t, e⟩ := head_cons b (runs l)
    show cons a (runs (b :: l ++ [c])) = snoc (cons a (runs (b :: l))) c
    rw [runs_snoc c b l]
    show cons a (snoc (cons b (runs l)) c) = snoc (cons a (cons b (runs l))) c
    rw [e]
    exact cons_snoc a c b r t
theorem getD_app {α : Type} (d : α) (p q : List α) (k : Nat) : (p ++ q).getD (p.length + k) d = q.getD k d := by
  rw [List.getD_eq_getElem?_getD, List.getElem?_append_right (by omega), Nat.add_sub_cancel_left, List.getD_eq_getElem?_getD]
theorem getD_set {α : Type} (d v : α) (l : List α) (k : Nat) (h : k < l.length) : (l.set k v).getD k d = v := by
  rw [List.getD_eq_getElem?_getD, List.getElem?_set_self h]; rfl
/-- grp makes the runs -/
theorem grp_runs (a : Int) : ∀ (n : Nat) (l : List Int), l.length = n → (grp (a :: l)).1 = runs (a :: l) ∧ (grp (a :: l)).2 = cls (((runs (a :: l)).getD ((runs (a :: l)).length - 1) []).getD 0 0) := by
  intro n
  induction n with
  | zero =>
    intro l hl
    obtain rfl := List.eq_nil_of_length_eq_zero hl
    have h : grp [a] = ([[a]], cls a) := by
      show Cmp.step ([], 0) a = _
      unfold Cmp.step
      have : ¬ cls a = 0 := by rcases cls_cases a with e | e <;> omega
      rw [if_neg this]; rfl
    rw [h]
    exact ⟨rfl, rfl⟩
  | succ n ih =>
    intro l hl
    obtain ⟨m, c, rfl⟩ : ∃ m c, l = m ++ [c] := ⟨l.dropLast, l.getLast (by intro e; rw [e] at hl; simp at hl), (List.dropLast_concat_getLast _).symm⟩
    obtain ⟨h1, h2⟩ := ih m (by simpa using hl)
    have hg : grp (a :: (m ++ [c])) = Cmp.step (grp (a :: m)) c := by
      unfold grp
      rw [← List.cons_append, List.foldl_append]; rfl
    have hr : runs (a :: (m ++ [c])) = snoc (runs (a :: m)) c := runs_snoc c a m
    rw [hg, hr]
    unfold Cmp.step snoc
    rw [h1, h2]
    by_cases e : cls c = cls (((runs (a :: m)).getD ((runs (a :: m)).length - 1) []).getD 0 0)
    · rw [if_pos e]
      refine ⟨rfl, ?_⟩
      obtain ⟨r, t, er⟩ := head_cons a (runs m)
      have er' : runs (a :: m) = (a :: r) :: t := er
      have hlt : (runs (a :: m)).length - 1 < (runs (a :: m)).length := by rw [er']; simp
      show cls c = _
      rw [List.length_set, getD_set _ _ _ _ hlt]
      cases hq : (runs (a :: m)).getD ((runs (a :: m)).length - 1) [] with
      | nil => rfl
      | cons y ys => rw [hq] at e; exact e
    · rw [if_neg e]
      refine ⟨rfl, ?_⟩
      show cls c = _
      rw [List.length_append, List.length_singleton, Nat.add_sub_cancel, show (runs (a :: m)).length = (runs (a :: m)).length + 0 from rfl, getD_app]
      rfl

/-! ### the second loop -/
def lastOf (a : List Int) : Int := a.getD (a.length - 1) 0
def moves (a b : List Int) : Prop := a.getD 0 0 < 97 ∧ 97 ≤ b.getD 0 0
instance moveDec (a b : List Int) : Decidable (moves a b) := by unfold moves; exact inferInstance
def M1 (a : List Int) : List (List Int) → List (List Int)
  | [] => [a]
  | b :: t => if moves a b then a.take (a.length - 1) :: M1 (lastOf a :: b) t else a :: M1 b t
def go (x : List (List Int)) (i : Nat) : Nat → List (List Int)
  | 0 => x
  | m + 1 => go (mv x i) (i + 1) m
theorem mvs_go (x : List (List Int)) : ∀ m i, mvs x (i + m) = go (mvs x i) i m
  | 0, _ => rfl
  | m + 1, i => by
    rw [show i + (m + 1) = (i + 1) + m by omega, mvs_go x m (i + 1)]
    rfl
theorem set_app {α : Type} (p q : List α) (k : Nat) (v : α) : (p ++ q).set (p.length + k) v = p ++ q.set k v := by
  rw [List.set_append_right _ _ (by omega), Nat.add_sub_cancel_left]
theorem mv_at (p : List (List Int)) (a b : List Int) (t : List (List Int)) : mv (p ++ a :: b :: t) p.length = if moves a b then p ++ a.take (a.length - 1) :: (lastOf a :: b) :: t else p ++ a :: b :: t := by
  unfold mv
  have h0 : (p ++ a :: b :: t).getD p.length [] = a := getD_app [] p (a :: b :: t) 0
  have h1 : (p ++ a :: b :: t).getD (p.length + 1) [] = b := getD_app [] p (a :: b :: t) 1
  rw [h0, h1]
  have h2 : (p ++ a :: b :: t).set (p.length + 1) (a.getD (a.length - 1) 0 :: b) = p ++ a :: (lastOf a :: b) :: t := set_app p (a :: b :: t) 1 _
  rw [h2]
  have h3 : (p ++ a :: (lastOf a :: b) :: t).set p.length (a.take (a.length - 1)) = p ++ a.take (a.length - 1) :: (lastOf a :: b) :: t := set_app p _ 0 _
  rw [h3]
  rfl
theorem go_M1 : ∀ (t : List (List Int)) (p : List (List Int)) (a : List Int), go (p ++ a :: t) p.length t.length = p ++ M1 a t
  | [], _, _ => rfl
  | b :: t, p, a => by
    show go (mv (p ++ a :: b :: t) p.length) (p.length + 1) t.length = _
    rw [mv_at]
    unfold M1
    by_cases h : moves a b
    · rw [if_pos h, if_pos h]
      have := go_M1 t (p ++ [a.take (a.length - 1)]) (lastOf a :: b)
      rw [List.length_append, List.length_singleton, List.append_assoc, List.append_assoc] at this
      exact this
    · rw [if_neg h, if_neg h]
      have := go_M1 t (p ++ [a]) b
      rw [List.length_append, List.length_singleton, List.append_assoc, List.append_assoc] at this
      exact this
theorem mvs_M1 (a : List Int) (t : List (List Int)) : mvs (a :: t) ((a :: t).length - 1) = M1 a t := by
  have h := mvs_go (a :: t) t.length 0
  rw [Nat.zero_add] at h
  show mvs (a :: t) t.length = _
  rw [h]
  exact go_M1 t [] a

/-! ### the law's cuts -/
/-- between c and what follows -/
def cut (c : Int) (t : List Int) : Prop := ∃ x r, t = x :: r ∧ x < 97 ∧ (97 ≤ c ∨ ∃ y r', r = y :: r' ∧ 97 ≤ y)
def cutB (c : Int) : List Int → Bool
  | [] => false
  | x :: r => decide (x < 97) && (decide (97 ≤ c) || (match r with | [] => false | y :: _ => decide (97 ≤ y)))
def cutL : List Int → List (List Int)
  | [] => []
  | c :: t => match cutL t with
    | [] => [[c]]
    | g :: gs => if cutB c t = true then [c] :: g :: gs else (c :: g) :: gs
def F (rs : List (List Int)) : List (List Int) := rs.filter fun r => decide (0 < r.length)
/-- rows of one kind each, beside each other of two kinds -/
inductive Alt : List (List Int) → Prop
  | nil : Alt []
  | one (x : Int) (r : List Int) (h : ∀ c ∈ r, cls c = cls x) : Alt [x :: r]
  | two (x : Int) (r : List Int) (y : Int) (q : List Int) (t : List (List Int)) (h : ∀ c ∈ r, cls c = cls x) (hd : cls y ≠ cls x) (ht : Alt ((y :: q) :: t)) : Alt ((x :: r) :: (y :: q) :: t)
theorem low_iff (c : Int) : cls c = 1 ↔ 97 ≤ c := by unfold cls; split <;> simp_all
theorem Alt.cons (c : Int) {rs : List (List Int)} (h : Alt rs) : Alt (cons c rs) := by
  cases h with
  | nil => exact .one c [] (by simp)
  | one x r h =>
    by_cases e : cls c = cls x
    · rw [cons_pos [] (show cls c = cls ((x :: r).getD 0 0) from e)]
      refine .one c _ (fun d hd => ?_)
      rcases List.mem_cons.1 hd with rfl | hd
      · exact e.symm
      · exact (h d hd).trans e.symm
    · rw [cons_neg [] (show ¬ cls c = cls ((x :: r).getD 0 0) from e)]
      exact .two c [] x r [] (by simp) (fun h => e h.symm) (.one x r h)
  | two x r y q t h hd ht =>
    by_cases e : cls c = cls x
    · rw [cons_pos _ (show cls c = cls ((x :: r).getD 0 0) from e)]
      refine .two c _ y q t (fun d hd => ?_) (by rw [e]; exact hd) ht
      rcases List.mem_cons.1 hd with rfl | hd
      · exact e.symm
      · exact (h d hd).trans e.symm
    · rw [cons_neg _ (show ¬ cls c = cls ((x :: r).getD 0 0) from e)]
      exact .two c [] x r _ (by simp) (fun h => e h.symm) (.two x r y q t h hd ht)
theorem runs_alt : ∀ l, Alt (runs l)
  | [] => .nil
  | c :: t => (runs_alt t).cons c
theorem runs_flat : ∀ l, (runs l).flatten = l
  | [] => rfl
  | c :: t => by
    have h := runs_flat t
    show (cons c (runs t)).flatten = _
    cases e : runs t with
    | nil => rw [e] at h; rw [← h]; rfl
    | cons r rs =>
      rw [e] at h
      by_cases e2 : cls c = cls (r.getD 0 0)
      · rw [cons_pos rs e2]; rw [← h]; rfl
      · rw [cons_neg rs e2]; rw [← h]; rfl
theorem F_cons {r : List Int} (h : 0 < r.length) (rs : List (List Int)) : F (r :: rs) = r :: F rs := by unfold F; rw [List.filter_cons, decide_eq_true h]; rfl
theorem F_nil_cons (rs : List (List Int)) : F ([] :: rs) = F rs := rfl
theorem M1_low {a : List Int} (h : ¬ a.getD 0 0 < 97) : ∀ t, ∃ u, M1 a t = a :: u ∧ (t = [] → u = []) ∧ ∀ b q, t = b :: q → u = M1 b q
  | [] => ⟨[], rfl, fun _ => rfl, fun _ _ e => by cases e⟩
  | b :: q => ⟨M1 b q, by show (if moves a b then _ else _) = _; rw [if_neg (fun e => h e.1)], (fun e => by cases e), fun _ _ e => by injection e with e1 e2; rw [e1, e2]⟩
theorem M1_no {a b : List Int} (h : ¬ 97 ≤ b.getD 0 0) (t : List (List Int)) : M1 a (b :: t) = a :: M1 b t := by
  show (if moves a b then _ else _) = _
  rw [if_neg (fun e => h e.2)]
theorem M1_yes {a b : List Int} (h : a.getD 0 0 < 97) (h2 : 97 ≤ b.getD 0 0) (t : List (List Int)) : M1 a (b :: t) = a.take (a.length - 1) :: M1 (lastOf a :: b) t := by
  show (if moves a b then _ else _) = _
  rw [if_pos ⟨h, h2⟩]
theorem cls_low {c x : Int} (h : cls c = cls x) : 97 ≤ c ↔ 97 ≤ x := by rw [← low_iff, ← low_iff, h]
theorem cls_other {c x : Int} (h : cls c ≠ cls x) : 97 ≤ c ↔ ¬ 97 ≤ x := by
  rw [← low_iff, ← low_iff]
  rcases cls_cases c with e | e <;> rcases cls_cases x with e2 | e2 <;> simp_all
theorem cutL_cons {c : Int} {t g : List Int} {gs : List (List Int)} (h : cutL t = g :: gs) : cutL (c :: t) = if cutB c t = true then [c] :: g :: gs else (c :: g) :: gs := by
  show (match cutL t with | [] => [[c]] | g :: gs => if cutB c t = true then [c] :: g :: gs else (c :: g) :: gs) = _
  rw [h]
theorem parts : ∀ (l : List Int) (r : List Int) (rs : List (List Int)), runs l = r :: rs → F (M1 r rs) = cutL l
  | [], _, _, h => by cases h
  | c :: t, r, rs, h => by
    have h0 : cons c (runs t) = r :: rs := h
    have hA := runs_alt t
    have hF := runs_flat t
    cases e : runs t with
    | nil =>
      rw [e] at h0 hF
      obtain rfl : t = [] := hF.symm
      injection h0 with h1 h2
      subst h1; subst h2
      rfl
    | cons r' rs' =>
      have ih := parts t r' rs' e
      rw [e] at h0 hA hF
      -- r' = x :: q, of one kind
      obtain ⟨x, q, rfl⟩ : ∃ x q, r' = x :: q := by cases hA <;> exact ⟨_, _, rfl⟩
      have hq : ∀ d ∈ q, cls d = cls x := by cases hA <;> assumption
      have ht : t = x :: (q ++ rs'.flatten) := hF.symm
      by_cases hc : cls c = cls x
      · -- the same kind
        rw [cons_pos rs' (show cls c = cls ((x :: q).getD 0 0) from hc)] at h0
        injection h0 with h1 h2
        subst h1; subst h2
        by_cases hx : 97 ≤ x
        · -- small letters
          have hc97 := (cls_low hc).2 hx
          obtain ⟨u1, hu1, n1, m1⟩ := M1_low (a := x :: q) (by show ¬ x < 97; omega) rs'
          obtain ⟨u2, hu2, n2, m2⟩ := M1_low (a := c :: x :: q) (by show ¬ c < 97; omega) rs'
          have hu : u2 = u1 := by
            cases rs' with
            | nil => rw [n1 rfl, n2 rfl]
            | cons b p => rw [m1 b p rfl, m2 b p rfl]
          rw [hu1, F_cons (by simp)] at ih
          rw [hu2, F_cons (by simp), hu, cutL_cons ih.symm, if_neg]
          rw [ht]
          show ¬ (decide (x < 97) && _) = true
          rw [decide_eq_false (by omega)]; simp
        · -- capitals
          have hc97 : ¬ 97 ≤ c := fun h => hx ((cls_low hc).1 h)
          cases hA with
          | one _ _ _ =>
            have e1 : M1 (x :: q) [] = [x :: q] := rfl
            rw [e1, F_cons (by simp)] at ih
            show F [c :: x :: q] = _
            rw [F_cons (by simp), cutL_cons ih.symm, if_neg]
            · rw [ht]
              show ¬ (decide (x < 97) && (decide (97 ≤ c) || (match q ++ (([] : List (List Int)).flatten) with | [] => false | y :: _ => decide (97 ≤ y)))) = true
              rw [decide_eq_false hc97]
              cases q with
              | nil => simp
              | cons y q => simp only [List.cons_append]; rw [decide_eq_false (fun h => hx ((cls_low (hq y (by simp))).1 h))]; simp
          | two _ _ y p z hqq hd hz =>
            have hy : 97 ≤ y := (cls_other hd).2 hx
            rw [M1_yes (a := x :: q) (b := y :: p) (show x < 97 by omega) (show 97 ≤ y from hy)] at ih
            rw [M1_yes (a := c :: x :: q) (b := y :: p) (show c < 97 by omega) (show 97 ≤ y from hy)]
            cases q with
            | nil =>
              -- [x] alone: a cut ahead of x
              have ih' : F (M1 (x :: y :: p) z) = cutL t := ih
              show F ([c] :: M1 (x :: y :: p) z) = _
              rw [F_cons (by simp), ih']
              obtain ⟨g, gs, hg⟩ : ∃ g gs, cutL t = g :: gs := by
                rw [← ih']
                cases hz with
                | one _ _ _ => exact ⟨_, _, F_cons (by simp) _⟩
                | two _ _ y2 p2 z2 _ hd2 _ =>
                  have : ¬ 97 ≤ y2 := fun h => ((cls_other hd2).1 h) hy
                  rw [M1_no (b := y2 :: p2) (show ¬ 97 ≤ y2 from this)]
                  exact ⟨_, _, F_cons (by simp) _⟩
              rw [cutL_cons hg, hg, if_pos]
              rw [ht]
              show (decide (x < 97) && (decide (97 ≤ c) || (decide (97 ≤ y)))) = true
              rw [decide_eq_true (show x < 97 by omega), decide_eq_true hy]; simp
            | cons x2 q2 =>
              have hx2 : ¬ 97 ≤ x2 := fun h => hx ((cls_low (hq x2 (by simp))).1 h)
              have ih' : F ((x :: (x2 :: q2).take q2.length) :: M1 (lastOf (x :: x2 :: q2) :: y :: p) z) = cutL t := ih
              show F ((c :: x :: (x2 :: q2).take q2.length) :: M1 (lastOf (x :: x2 :: q2) :: y :: p) z) = _
              rw [F_cons (by simp)] at ih'
              rw [F_cons (by simp), cutL_cons ih'.symm, if_neg]
              rw [ht]
              show ¬ (decide (x < 97) && (decide (97 ≤ c) || (decide (97 ≤ x2)))) = true
              rw [decide_eq_false hc97, decide_eq_false hx2]; simp
      · rw [cons_neg rs' (show ¬ cls c = cls ((x :: q).getD 0 0) from hc)] at h0
        injection h0 with h1 h2
        subst h1; subst h2
        by_cases hx : 97 ≤ x
        · -- a capital, small letters behind it
          have hc97 : ¬ 97 ≤ c := fun h => ((cls_other hc).1 h) hx
          rw [M1_yes (a := [c]) (b := x :: q) (show c < 97 by omega) (show 97 ≤ x from hx)]
          show F ([] :: M1 (c :: x :: q) rs') = _
          rw [F_nil_cons]
          obtain ⟨u1, hu1, n1, m1⟩ := M1_low (a := x :: q) (by show ¬ x < 97; omega) rs'
          rw [hu1, F_cons (by simp)] at ih
          have hM : M1 (c :: x :: q) rs' = (c :: x :: q) :: u1 := by
            cases hA with
            | one _ _ _ => rw [n1 rfl]; rfl
            | two _ _ y p z _ hd _ =>
              have : ¬ 97 ≤ y := fun h => ((cls_other hd).1 h) hx
              rw [M1_no (b := y :: p) (show ¬ 97 ≤ y from this), m1 _ _ rfl]
          rw [hM, F_cons (by simp), cutL_cons ih.symm, if_neg]
          rw [ht]
          show ¬ (decide (x < 97) && _) = true
          rw [decide_eq_false (by omega)]; simp
        · -- small, a capital behind it
          have hc97 : 97 ≤ c := (cls_other hc).2 hx
          rw [M1_no (b := x :: q) (show ¬ 97 ≤ x from hx), F_cons (by simp), ih]
          obtain ⟨g, gs, hg⟩ : ∃ g gs, cutL t = g :: gs := by
            rw [ht]
            cases hcl : cutL (q ++ rs'.flatten) with
            | nil => exact ⟨[x], [], by show (match cutL (q ++ rs'.flatten) with | [] => [[x]] | g :: gs => _) = _; rw [hcl]⟩
            | cons g gs =>
              rw [cutL_cons hcl]
              split
              · exact ⟨_, _, rfl⟩
              · exact ⟨_, _, rfl⟩
          rw [cutL_cons hg, hg, if_pos]
          rw [ht]
          show (decide (x < 97) && (decide (97 ≤ c) || _)) = true
          rw [decide_eq_true (show x < 97 by omega), decide_eq_true hc97]; rfl
/-- what SplitCamelCase makes of letters -/
theorem camel_cuts (c : Int) (t : List Int) : camel (c :: t) = (cutL (c :: t)).map runesBytes := by
  unfold camel
  rw [(grp_runs c t.length t rfl).1]
  obtain ⟨r, rs, e⟩ := head_cons c (runs t)
  have e' : runs (c :: t) = (c :: r) :: rs := e
  rw [e', mvs_M1, ← parts _ _ _ e']
  rfl
end Go.Proofs.YtjaebonfojnmdaaDoor.Cmq
