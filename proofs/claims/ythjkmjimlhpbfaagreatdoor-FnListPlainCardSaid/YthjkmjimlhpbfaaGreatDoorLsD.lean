/- Texts of valid UTF-8, their lines, and texts joined by line ends, in plain Lean. -/
import Derived.Test.YthjkmjimlhpbfaaGreatDoorDec
import Derived.Test.YthjkmjimlhpbfaaGreatDoorSmall
import Derived.Test.YthjkmjimlhpbfaaGreatDoorLrn
section
/- Texts of valid UTF-8, their lines, and texts joined by line ends, in plain Lean. -/
namespace Go.Proofs.YthjkmjimlhpbfaaGreatDoor.Va
open Go Go.Lib Go.Proofs.YthjkmjimlhpbfaaGreatDoor.Small Go.Proofs.YthjkmjimlhpbfaaGreatDoor.Dec

theorem getD_drop (l : List UInt8) (p i : Nat) : (l.drop p).getD i 0 = l.getD (p + i) 0 := by
  simp [List.getD_eq_getElem?_getD, List.getElem?_drop]
theorem dec_drop (s : ByteArray) (p : Nat) : Utf8.decode s p = decodeL (s.data.toList.drop p) := by
  rw [decode_at, decodeL_N, Dec.get_at, Dec.get_at, Dec.get_at, Dec.get_at]
  unfold at_
  rw [getD_drop, getD_drop, getD_drop, getD_drop, List.length_drop]
  rfl
theorem decodeN_more (n n' b0 b1 b2 b3 c1 c2 c3 : Nat) (h : (decodeN n b0 b1 b2 b3).1 ≠ 65533) (hn : n ≤ n') (h1 : 1 < n → c1 = b1) (h2 : 2 < n → c2 = b2) (h3 : 3 < n → c3 = b3) :
    decodeN n' b0 c1 c2 c3 = decodeN n b0 b1 b2 b3 := by
  rcases decodeN_shape n b0 b1 b2 b3 with ⟨c, e⟩ | ⟨k1, k2, k3, cv, e⟩ | ⟨k1, k2, k3, k4, cv, cs, e⟩ | ⟨k1, k2, k3, k4, k5, cv, cw, e⟩ | e
  · rw [e]; unfold decodeN; rw [if_pos c]
  · rw [e]; obtain rfl := h1 k2
    unfold decodeN
    rw [if_neg (by omega), if_pos ⟨k1, by omega, k3⟩, if_pos (by omega)]
  · rw [e]; obtain rfl := h1 (by omega); obtain rfl := h2 k2
    unfold decodeN
    rw [if_neg (by omega), if_neg (by omega), if_pos ⟨k1, ⟨by omega, k3⟩, by omega, k4⟩, if_pos (by omega)]
  · rw [e]; obtain rfl := h1 (by omega); obtain rfl := h2 (by omega); obtain rfl := h3 k2
    unfold decodeN
    rw [if_neg (by omega), if_neg (by omega), if_neg (by omega), if_pos ⟨k1, ⟨by omega, k3⟩, ⟨by omega, k4⟩, by omega, k5⟩, if_pos (by omega)]
  · rw [e] at h; exact absurd rfl h
theorem decodeL_more (a b : List UInt8) (hne : a ≠ []) (h : (decodeL a).1 ≠ 65533) : decodeL (a ++ b) = decodeL a := by
  rw [decodeL_N] at h
  rw [decodeL_N, decodeL_N]
  have hl : 0 < a.length := List.length_pos_iff.2 hne
  have g : ∀ i, i < a.length → (a ++ b).getD i 0 = a.getD i 0 := fun i hi => by
    simp [List.getD_eq_getElem?_getD, List.getElem?_append_left hi]
  rw [g 0 hl]
  exact decodeN_more _ _ _ _ _ _ _ _ _ h (by simp) (fun hi => by rw [g 1 hi]) (fun hi => by rw [g 2 hi]) (fun hi => by rw [g 3 hi])
/-- all of it is UTF-8, and no U+FFFD -/
inductive Va : List UInt8 → Prop
  | nil : Va []
  | cons (l : List UInt8) (hne : l ≠ []) (hv : (decodeL l).1 ≠ 65533) (h : Va (l.drop (decodeL l).2)) : Va l
theorem Va.append {a b : List UInt8} (ha : Va a) (hb : Va b) : Va (a ++ b) := by
  induction ha with
  | nil => exact hb
  | cons l hne hv h ih =>
    have e := decodeL_more l b hne hv
    refine .cons _ (by simp [hne]) (by rw [e]; exact hv) ?_
    rw [e, List.drop_append_of_le_length (decodeL_le l hne)]
    exact ih
theorem va_one (b : UInt8) (h : b.toNat < 128) : Va [b] := by
  have e : decodeL [b] = (b.toNat, 1) := by
    rw [decodeL_N]; unfold decodeN; rw [if_pos (by simpa using h)]; rfl
  refine .cons _ (by simp) (by rw [e]; show b.toNat ≠ _; omega) ?_
  rw [e]
  exact .nil
theorem Va.ascii (l : List UInt8) (h : ∀ b ∈ l, b.toNat < 128) : Va l := by
  induction l with
  | nil => exact .nil
  | cons b r ih =>
    have : Va ([b] ++ r) := (va_one b (h b (by simp))).append (ih fun x hx => h x (by simp [hx]))
    exact this
/-- .. and no octet below 32 -/
def Cl (l : List UInt8) : Prop := Va l ∧ ∀ b ∈ l, 32 ≤ b.toNat
theorem Cl.nil : Cl [] := ⟨.nil, fun b hb => by cases hb⟩
theorem Cl.append {a b : List UInt8} (ha : Cl a) (hb : Cl b) : Cl (a ++ b) := ⟨ha.1.append hb.1, fun x hx => (List.mem_append.1 hx).elim (ha.2 x) (hb.2 x)⟩
theorem Cl.ascii (l : List UInt8) (h : ∀ b ∈ l, 32 ≤ b.toNat ∧ b.toNat < 128) : Cl l := ⟨Va.ascii l fun b hb => (h b hb).2, fun b hb => (h b hb).1⟩
theorem Cl.no10 {l : List UInt8} (h : Cl l) : ∀ b ∈ l, b ≠ 10 := fun b hb e => by
  have := h.2 b hb
  rw [e] at this
  exact absurd this (by decide)

/-! ### lines -/
def glue (e : List UInt8) : List (List UInt8) → List (List UInt8)
  | [] => [e]
  | h :: t => (e ++ h) :: t
def splitL : List UInt8 → List (List UInt8)
  | [] => [[]]
  | b :: r => if b = 10 then [] :: splitL r else glue [b] (splitL r)
theorem splitL_ne : ∀ l, splitL l ≠ []
  | [] => by simp [splitL]
  | b :: r => by
    unfold splitL
    split
    · simp
    · cases splitL r <;> simp [glue]
theorem glue_nil (l : List UInt8) : glue [] (splitL l) = splitL l := by
  cases h : splitL l with
  | nil => exact absurd h (splitL_ne l)
  | cons x t => rfl
theorem glue_glue (a b : List UInt8) (l : List (List UInt8)) (h : l ≠ []) : glue a (glue b l) = glue (a ++ b) l := by
  cases l with
  | nil => exact absurd rfl h
  | cons x t => simp [glue]
theorem splitL_no (e r : List UInt8) (h : ∀ b ∈ e, b ≠ 10) : splitL (e ++ r) = glue e (splitL r) := by
  induction e with
  | nil => exact (glue_nil r).symm
  | cons b e ih =>
    rw [List.cons_append]
    simp only [splitL, if_neg (h b (by simp))]
    rw [ih fun x hx => h x (by simp [hx]), glue_glue _ _ _ (splitL_ne r)]
    rfl
theorem splitL_end (r : List UInt8) : splitL (10 :: r) = [] :: splitL r := by simp [splitL]
theorem splitL_line (e r : List UInt8) (h : ∀ b ∈ e, b ≠ 10) : splitL (e ++ 10 :: r) = e :: splitL r := by
  rw [splitL_no e _ h, splitL_end]
  simp [glue]
theorem splitL_one (e : List UInt8) (h : ∀ b ∈ e, b ≠ 10) : splitL e = [e] := by
  have := splitL_no e [] h
  rw [List.append_nil] at this
  rw [this]
  simp [splitL, glue]
def joinL : List (List UInt8) → List UInt8
  | [] => []
  | [l] => l
  | l :: m :: r => l ++ 10 :: joinL (m :: r)
theorem split_join : ∀ ls : List (List UInt8), ls ≠ [] → (∀ l ∈ ls, ∀ b ∈ l, b ≠ 10) → splitL (joinL ls) = ls
  | [], h, _ => absurd rfl h
  | [l], _, h => splitL_one l (h l (by simp))
  | l :: m :: r, _, h => by
    rw [joinL, splitL_line l _ (h l (by simp)), split_join (m :: r) (by simp) fun x hx => h x (by simp at hx ⊢; exact Or.inr hx)]
theorem join_snoc (x : List UInt8) : ∀ ls : List (List UInt8), joinL (ls ++ [x]) = joinL ls ++ (if ls = [] then [] else [10]) ++ x
  | [] => by simp [joinL]
  | [l] => by simp [joinL]
  | l :: m :: r => by
    have ih := join_snoc x (m :: r)
    rw [if_neg (by simp)] at ih
    rw [List.cons_append, List.cons_append]
    show l ++ 10 :: joinL (m :: (r ++ [x])) = _
    rw [show m :: (r ++ [x]) = m :: r ++ [x] from rfl, ih, if_neg (by simp)]
    simp [joinL]
theorem va_join : ∀ ls : List (List UInt8), (∀ l ∈ ls, Va l) → Va (joinL ls)
  | [], _ => .nil
  | [l], h => h l (by simp)
  | l :: m :: r, h => by
    have e : l ++ 10 :: joinL (m :: r) = l ++ ([10] ++ joinL (m :: r)) := rfl
    rw [joinL, e]
    exact (h l (by simp)).append ((va_one 10 (by decide)).append (va_join (m :: r) fun x hx => h x (by simp at hx ⊢; exact Or.inr hx)))
/-- one character in front -/
theorem step_one (s : ByteArray) (p : Nat) (hp : p < s.size) (hv : Va (s.data.toList.drop p)) :
    (Utf8.decode s p).1 ≠ 65533 ∧ Va (s.data.toList.drop (p + (Utf8.decode s p).2)) ∧ s.data.toList.drop p = (s.data.toList.drop p).take (Utf8.decode s p).2 ++ s.data.toList.drop (p + (Utf8.decode s p).2) ∧
      encodeRune ((Utf8.decode s p).1 : Int) = (s.data.toList.drop p).take (Utf8.decode s p).2 := by
  have hne : s.data.toList.drop p ≠ [] := by
    intro h
    have := congrArg List.length h
    rw [List.length_drop, size_data] at this
    simp at this; omega
  rw [dec_drop]
  rw [← List.drop_drop]
  generalize s.data.toList.drop p = q at *
  cases hv with
  | nil => exact absurd rfl hne
  | cons _ _ hv h => exact ⟨hv, h, (List.take_append_drop _ _).symm, encode_decode _ hne (fun hh => hv hh.1)⟩
end Go.Proofs.YthjkmjimlhpbfaaGreatDoor.Va
end

section
/- What is rendered, line by line; what steps make: in plain Lean. -/
namespace Go.Proofs.YthjkmjimlhpbfaaGreatDoor.Lpl
open Go Go.Lib Go.Proofs.YthjkmjimlhpbfaaGreatDoor.Small Go.Proofs.YthjkmjimlhpbfaaGreatDoor.Va Go.Proofs.YthjkmjimlhpbfaaGreatDoor.Lsm Go.Proofs.YthjkmjimlhpbfaaGreatDoor.Lmo Go.Proofs.YthjkmjimlhpbfaaGreatDoor.Lof Go.Proofs.YthjkmjimlhpbfaaGreatDoor.Lan Go.Proofs.YthjkmjimlhpbfaaGreatDoor.Lpr Go.Proofs.YthjkmjimlhpbfaaGreatDoor.Blb Go.Proofs.YthjkmjimlhpbfaaGreatDoor.Lrj Go.Proofs.YthjkmjimlhpbfaaGreatDoor.Lre Go.Proofs.YthjkmjimlhpbfaaGreatDoor.Lrn

/-- an item's line behind the prefix -/
def bodyL (cv s1 s2 s3 s4 s5 s6 : ByteArray) (xs : List (Int × ByteArray)) (idx : Nat) : List UInt8 := match xs[idx]? with
  | none => []
  | some x => pre s5 cv xs idx x.1.toNat ++ (bullet 0 (idx == 0) (first xs idx x.1) (first xs idx x.1 && !more (xs.drop (idx + 1)) x.1) (!more (xs.drop (idx + 1)) x.1) (idx + 1 == xs.length) cv s1 s2 s3 s4 s5 s6).data.toList ++ x.2.data.toList
def linesL (cv s1 s2 s3 s4 s5 s6 s8 : ByteArray) (xs : List (Int × ByteArray)) (n : Nat) : List (List UInt8) := (List.range n).map fun i => s8.data.toList ++ bodyL cv s1 s2 s3 s4 s5 s6 xs i
theorem drawn_join (cv s1 s2 s3 s4 s5 s6 s8 : ByteArray) (xs : List (Int × ByteArray)) : ∀ n, n ≤ xs.length → drawn cv s1 s2 s3 s4 s5 s6 s8 xs n = joinL (linesL cv s1 s2 s3 s4 s5 s6 s8 xs n)
  | 0, _ => rfl
  | n + 1, h => by
    have ih := drawn_join cv s1 s2 s3 s4 s5 s6 s8 xs n (by omega)
    rw [drawn, ih]
    unfold linesL
    rw [List.range_succ, List.map_append, List.map_singleton, join_snoc]
    have e : ((List.range n).map (fun i => s8.data.toList ++ bodyL cv s1 s2 s3 s4 s5 s6 xs i) = []) = (n = 0) := by simp
    simp only [e]
    unfold hline bodyL
    rw [List.getElem?_eq_getElem (by omega)]
    simp only [line, List.append_assoc]

theorem cl_blanks (s5 : ByteArray) : Cl (blanks s5).data.toList := by
  have : (blanks s5).data.toList = List.replicate (Lib.runeCount s5) 32 := by
    unfold blanks
    exact repeatL_one 32 _
  rw [this]
  exact Cl.ascii _ fun b hb => by rw [List.eq_of_mem_replicate hb]; decide
theorem cl_pre (s5 cv : ByteArray) (xs : List (Int × ByteArray)) (idx : Nat) (h5 : Cl s5.data.toList) (hc : Cl cv.data.toList) : ∀ k, Cl (pre s5 cv xs idx k)
  | 0 => Cl.nil
  | k + 1 => by
    refine (cl_pre s5 cv xs idx h5 hc k).append ?_
    split
    · exact h5
    · exact hc
theorem cl_bullet (top first only last bottom : Bool) (cv s1 s2 s3 s4 s5 s6 : ByteArray) (h1 : Cl s1.data.toList) (h2 : Cl s2.data.toList) (h3 : Cl s3.data.toList) (h4 : Cl s4.data.toList) (h6 : Cl s6.data.toList) : Cl (bullet 0 top first only last bottom cv s1 s2 s3 s4 s5 s6).data.toList := by
  have hx : Cl (bullet1 top first only last bottom s1 s2 s3 s4 s6).data.toList := by
    unfold bullet1
    cases top <;> cases first <;> cases only <;> cases last <;> cases bottom <;> simp only [if_true, if_false, Bool.false_eq_true, Bool.or_true, Bool.or_false] <;> assumption
  unfold bullet
  rw [if_neg (by decide)]
  have e : (bullet1 top first only last bottom s1 s2 s3 s4 s6 ++ (⟨#[32]⟩ : ByteArray)).data.toList = (bullet1 top first only last bottom s1 s2 s3 s4 s6).data.toList ++ [32] := by simp
  rw [e]
  exact hx.append (Cl.ascii _ fun b hb => by rw [List.mem_singleton.1 hb]; decide)
/-- a style's texts -/
structure ClS (s1 s2 s3 s4 s5 s6 s8 : ByteArray) : Prop where
  h1 : Cl s1.data.toList
  h2 : Cl s2.data.toList
  h3 : Cl s3.data.toList
  h4 : Cl s4.data.toList
  h5 : Cl s5.data.toList
  h6 : Cl s6.data.toList
  h8 : Cl s8.data.toList
theorem cl_body {s1 s2 s3 s4 s5 s6 s8 : ByteArray} (h : ClS s1 s2 s3 s4 s5 s6 s8) (xs : List (Int × ByteArray)) (hx : ∀ x ∈ xs, Cl x.2.data.toList) (idx : Nat) : Cl (bodyL (blanks s5) s1 s2 s3 s4 s5 s6 xs idx) := by
  unfold bodyL
  cases hq : xs[idx]? with
  | none => exact Cl.nil
  | some x => exact ((cl_pre _ _ _ _ h.h5 (cl_blanks s5) _).append (cl_bullet _ _ _ _ _ _ _ _ _ _ _ _ h.h1 h.h2 h.h3 h.h4 h.h6)).append (hx x (List.mem_of_getElem? hq))
theorem cl_lines {s1 s2 s3 s4 s5 s6 s8 : ByteArray} (h : ClS s1 s2 s3 s4 s5 s6 s8) (xs : List (Int × ByteArray)) (hx : ∀ x ∈ xs, Cl x.2.data.toList) (n : Nat) : ∀ l ∈ linesL (blanks s5) s1 s2 s3 s4 s5 s6 s8 xs n, Cl l := by
  intro l hl
  unfold linesL at hl
  obtain ⟨i, _, rfl⟩ := List.mem_map.1 hl
  exact h.h8.append (cl_body h xs hx i)
/-- the lines of what is drawn -/
theorem drawn_lines {s1 s2 s3 s4 s5 s6 s8 : ByteArray} (h : ClS s1 s2 s3 s4 s5 s6 s8) (xs : List (Int × ByteArray)) (hx : ∀ x ∈ xs, Cl x.2.data.toList) (hn : xs ≠ []) :
    splitL (drawn (blanks s5) s1 s2 s3 s4 s5 s6 s8 xs xs.length) = linesL (blanks s5) s1 s2 s3 s4 s5 s6 s8 xs xs.length := by
  rw [drawn_join _ _ _ _ _ _ _ _ _ _ (Nat.le_refl _)]
  refine split_join _ ?_ fun l hl => (cl_lines h xs hx _ l hl).no10
  unfold linesL
  intro e
  have := congrArg List.length e
  simp at this
  exact hn this
theorem drawn_va {s1 s2 s3 s4 s5 s6 s8 : ByteArray} (h : ClS s1 s2 s3 s4 s5 s6 s8) (xs : List (Int × ByteArray)) (hx : ∀ x ∈ xs, Cl x.2.data.toList) : Va (drawn (blanks s5) s1 s2 s3 s4 s5 s6 s8 xs xs.length) := by
  rw [drawn_join _ _ _ _ _ _ _ _ _ _ (Nat.le_refl _)]
  exact va_join _ fun l hl => (cl_lines h xs hx _ l hl).1

/-! ### steps -/
def stp : Int → List (Int × ByteArray) → List (Int × ByteArray)
  | _, [] => []
  | cur, x :: r => List.replicate (x.1 - cur).toNat (2, e0) ++ List.replicate (cur - x.1).toNat (3, e0) ++ (0, x.2) :: stp x.1 r
/-- each no more than one deeper than the one ahead -/
def Chain : Int → List (Int × ByteArray) → Prop
  | _, [] => True
  | most, x :: r => 0 ≤ x.1 ∧ x.1 ≤ most ∧ Chain (x.1 + 1) r
def lastL : Int → List (Int × ByteArray) → Int
  | cur, [] => cur
  | _, x :: r => lastL x.1 r
theorem fold_up (acc : List (Int × ByteArray)) (y : Int × ByteArray) (h : acc.getLast? = some y) : ∀ n, n ≤ 1 → (List.replicate n ((2, e0) : Int × ByteArray)).foldl Lof.step (acc, y.1) = (acc, y.1 + n)
  | 0, _ => by simp
  | 1, _ => by
    simp [Lof.step, deeper, h]
  | n + 2, h => by omega
theorem fold_down (acc : List (Int × ByteArray)) : ∀ (n : Nat) (cur : Int), 0 ≤ cur → (List.replicate n ((3, e0) : Int × ByteArray)).foldl Lof.step (acc, cur) = (acc, if (n : Int) ≤ cur then cur - n else 0)
  | 0, cur, h => by simp [h]
  | n + 1, cur, h => by
    rw [List.replicate_succ, List.foldl_cons]
    have e : Lof.step (acc, cur) (3, e0) = (acc, if cur > 0 then cur - 1 else cur) := by simp [Lof.step]
    rw [e]
    by_cases hc : cur > 0
    · rw [if_pos hc, fold_down acc n (cur - 1) (by omega)]
      congr 1
      split <;> split <;> omega
    · rw [if_neg hc, fold_down acc n cur h]
      congr 1
      split <;> split <;> omega
theorem fold_stp : ∀ (its acc : List (Int × ByteArray)) (cur : Int), 0 ≤ cur → ((acc = [] ∧ cur = 0 ∧ Chain 0 its) ∨ ((∃ y, acc.getLast? = some y ∧ y.1 = cur) ∧ Chain (cur + 1) its)) → (stp cur its).foldl Lof.step (acc, cur) = (acc ++ its, lastL cur its)
  | [], acc, cur, _, _ => by simp [stp, lastL]
  | x :: r, acc, cur, h0, h => by
    have hx : 0 ≤ x.1 := by
      rcases h with ⟨_, _, h⟩ | ⟨_, h⟩
      · exact h.1
      · exact h.1
    have hr : Chain (x.1 + 1) r := by
      rcases h with ⟨_, _, h⟩ | ⟨_, h⟩
      · exact h.2.2
      · exact h.2.2
    have up : (List.replicate (x.1 - cur).toNat ((2, e0) : Int × ByteArray)).foldl Lof.step (acc, cur) = (acc, if cur < x.1 then x.1 else cur) := by
      rcases h with ⟨rfl, rfl, h⟩ | ⟨⟨y, hy, rfl⟩, h⟩
      · have : x.1 = 0 := by have := h.2.1; omega
        rw [this]; simp
      · have hm : x.1 ≤ y.1 + 1 := h.2.1
        rw [fold_up acc y hy _ (by omega)]
        congr 1
        split <;> omega
    have dn := fold_down acc (cur - x.1).toNat (if cur < x.1 then x.1 else cur) (by split <;> omega)
    have e : (if ((cur - x.1).toNat : Int) ≤ (if cur < x.1 then x.1 else cur) then (if cur < x.1 then x.1 else cur) - ((cur - x.1).toNat : Int) else 0) = x.1 := by
      by_cases hc : cur < x.1
      · simp only [if_pos hc]; split <;> omega
      · simp only [if_neg hc]; split <;> omega
    rw [e] at dn
    rw [stp, List.foldl_append, List.foldl_append, up, dn, List.foldl_cons]
    have e2 : Lof.step (acc, x.1) (0, x.2) = (acc ++ [x], x.1) := by simp [Lof.step]
    rw [e2, fold_stp r (acc ++ [x]) x.1 hx (.inr ⟨⟨x, by simp, rfl⟩, hr⟩)]
    simp [lastL]
theorem made_stp (its : List (Int × ByteArray)) (h : Chain 0 its) : made (stp 0 its) = (its, lastL 0 its) := by
  have := fold_stp its [] 0 (by omega) (.inl ⟨rfl, rfl, h⟩)
  simpa [made] using this
theorem lastL_nonneg : ∀ (its : List (Int × ByteArray)) (cur m : Int), 0 ≤ cur → Chain m its → 0 ≤ lastL cur its
  | [], _, _, h, _ => h
  | x :: r, _, _, _, h => lastL_nonneg r x.1 _ h.1 h.2.2
theorem stp_len : ∀ (its : List (Int × ByteArray)) (cur m : Int), 0 ≤ cur → m ≤ cur + 1 → Chain m its → ((stp cur its).length : Int) ≤ 3 * its.length + cur
  | [], cur, _, h, _, _ => by simp [stp]; exact h
  | x :: r, cur, m, h0, hm, h => by
    have ih := stp_len r x.1 (x.1 + 1) h.1 (by omega) h.2.2
    have h2 := h.2.1
    simp only [stp, List.length_append, List.length_replicate, List.length_cons]
    omega
theorem stp_ok : ∀ (its : List (Int × ByteArray)) (cur : Int), (∀ x ∈ its, Cl x.2.data.toList ∧ x.2.size ≤ 100000) → ∀ y ∈ stp cur its, Okst y
  | [], _, _ => fun y hy => by cases hy
  | x :: r, cur, h => by
    intro y hy
    rw [stp] at hy
    rcases List.mem_append.1 hy with hy | hy
    · rcases List.mem_append.1 hy with hy | hy
      · rw [List.eq_of_mem_replicate hy]; exact .inr (.inl rfl)
      · rw [List.eq_of_mem_replicate hy]; exact .inr (.inr (.inl rfl))
    · rcases List.mem_cons.1 hy with rfl | hy
      · exact .inl ⟨rfl, (h x (by simp)).1.2, (h x (by simp)).2⟩
      · exact stp_ok r x.1 (fun z hz => h z (by simp [hz])) y hy
theorem chain_append : ∀ (its : List (Int × ByteArray)) (m : Int) (t : ByteArray), 0 ≤ m → Chain m its → Chain m (its ++ [(0, t)])
  | [], m, t, h, _ => ⟨by simp, h, trivial⟩
  | x :: r, m, t, _, h => ⟨h.1, h.2.1, chain_append r (x.1 + 1) t (by have := h.1; omega) h.2.2⟩
theorem made_append (l r : List (Int × ByteArray)) : made (l ++ r) = r.foldl Lof.step (made l) := by unfold made; rw [List.foldl_append]
theorem R_of_made {l m : List (Int × ByteArray)} (h : (made l).1 = (made m).1) (s1 s2 s3 s4 s5 s6 s8 : ByteArray) : R l s1 s2 s3 s4 s5 s6 s8 = R m s1 s2 s3 s4 s5 s6 s8 := by unfold R; rw [h]
theorem R_stp (its : List (Int × ByteArray)) (h : Chain 0 its) (s1 s2 s3 s4 s5 s6 s8 : ByteArray) : R (stp 0 its) s1 s2 s3 s4 s5 s6 s8 = ⟨(drawn (blanks s5) s1 s2 s3 s4 s5 s6 s8 its its.length).toArray⟩ := by unfold R; rw [made_stp its h]
end Go.Proofs.YthjkmjimlhpbfaaGreatDoor.Lpl
end
