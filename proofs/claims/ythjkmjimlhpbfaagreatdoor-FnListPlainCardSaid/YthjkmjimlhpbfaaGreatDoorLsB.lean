/- Texts without signs below a blank: tabs and returns turn nothing; the walk of analyzeAndStringify. -/
import Derived.Test.YthjkmjimlhpbfaaGreatDoorGLsBodyx
import Derived.Test.YthjkmjimlhpbfaaGreatDoorSmall
import Derived.Test.YthjkmjimlhpbfaaGreatDoorLsA
section
/- Texts without signs below a blank: tabs and returns turn nothing; the walk of analyzeAndStringify. -/
namespace Go.Proofs.YthjkmjimlhpbfaaGreatDoor.Lan
open Go Go.RowKit Go.Lib Go.Proofs.YthjkmjimlhpbfaaGreatDoor.GLsBody Go.Proofs.YthjkmjimlhpbfaaGreatDoor.Lst Go.Proofs.YthjkmjimlhpbfaaGreatDoorW.PrintWords Go.Proofs.YthjkmjimlhpbfaaGreatDoorW.PrintLast Go.Proofs.YthjkmjimlhpbfaaGreatDoorW.PrintMore Go.Proofs.YthjkmjimlhpbfaaGreatDoor.Small

namespace L
theorem index_none (s t : List UInt8) (hs : s.length ≤ 1000000) (ht : t.length ≤ 1000000) (h : ∀ i, i + t.length ≤ s.length → (s.drop i).take t.length ≠ t) : ∀ d i : Nat, i + d = s.length + 1 → Ev (fun k => list_zzIndex.l0 k (str s) (str t) (i : Int)) (-1) := by
  intro d
  induction d with
  | zero =>
    intro i hi
    refine Ev.shift ?_
    simp only [list_zzIndex.l0, str_size, wrap_in (show -9223372036854775808 ≤ (i : Int) + (t.length : Int) by omega) (by omega), if_neg (show ¬ (i : Int) + (t.length : Int) ≤ (s.length : Int) by omega)]
    exact Ev.now _
  | succ d ih =>
    intro i hi
    refine Ev.shift ?_
    by_cases h1 : (i : Int) + (t.length : Int) ≤ (s.length : Int)
    · have h2 : ¬ ((str s).extract ((i : Int)).toNat ((i : Int) + (t.length : Int)).toNat).toList = (str t).toList := by
        rw [extract_str, toList_data, toList_data, str_data, str_data]
        have e : ((i : Int) + (t.length : Int)).toNat - ((i : Int)).toNat = t.length := by omega
        rw [Int.toNat_natCast]
        rw [Int.toNat_natCast] at e
        intro hh
        refine h i (by omega) ?_
        first
          | (rw [e] at hh; exact hh)
          | (rw [List.take_drop, show i + t.length = ((i : Int) + (t.length : Int)).toNat by omega]; exact hh)
      simp only [list_zzIndex.l0, str_size, wrap_in (show -9223372036854775808 ≤ (i : Int) + (t.length : Int) by omega) (by omega), if_pos h1, if_pos (show 0 ≤ (i : Int) by omega), if_pos (show (i : Int) ≤ (i : Int) + (t.length : Int) by omega), if_neg h2, wrap_succ i (by omega)]
      exact ih (i + 1) (by omega)
    · simp only [list_zzIndex.l0, str_size, wrap_in (show -9223372036854775808 ≤ (i : Int) + (t.length : Int) by omega) (by omega), if_neg h1]
      exact Ev.now _
theorem replace_none (s t u : List UInt8) (hs : s.length ≤ 1000000) (ht : t.length ≤ 1000000) (h0 : t ≠ []) (h : ∀ i, i + t.length ≤ s.length → (s.drop i).take t.length ≠ t) : ∃ k, list_zzReplaceAll.f k (str s) (str t) (str u) = some (str s) := by
  have : Ev (fun k => list_zzReplaceAll.f k (str s) (str t) (str u)) (str s) := by
    unfold list_zzReplaceAll.f
    have hz : ¬ ((str t).size : Int) = 0 := by
      rw [str_size]
      have := List.length_pos_iff.2 h0
      omega
    simp only [if_neg hz]
    refine Ev.shift ?_
    simp only [list_zzReplaceAll.l1]
    refine Ev.bind (index_none s t hs ht h (s.length + 1) 0 (by omega)) ?_
    simp only [if_pos (show (-1 : Int) < 0 by omega), str_size, List.length_nil, List.nil_append]
    have e : strOfNums (bytesOf (str s)) = str s := by
      have h1 : bytesOf (str s) = nb s := by rw [bytesOf_nb, str_data]
      rw [h1, strOfNums_nb]
    simp only [e]
    simp only [if_pos (show 0 + s.length < 140737488355328 by omega)]
    exact Ev.now _
  obtain ⟨K, hK⟩ := this
  exact ⟨K, hK K (Nat.le_refl _)⟩
theorem contains_none (s t : List UInt8) (hs : s.length ≤ 1000000) (ht : t.length ≤ 1000000) (h : ∀ i, i + t.length ≤ s.length → (s.drop i).take t.length ≠ t) : ∃ k, list_zzContains.f k (str s) (str t) = some false := by
  have : Ev (fun k => list_zzContains.f k (str s) (str t)) false := by
    unfold list_zzContains.f
    refine Ev.bind (index_none s t hs ht h (s.length + 1) 0 (by omega)) ?_
    exact Ev.now _
  obtain ⟨K, hK⟩ := this
  exact ⟨K, hK K (Nat.le_refl _)⟩

end L
namespace T
theorem index_none (s t : List UInt8) (hs : s.length ≤ 1000000) (ht : t.length ≤ 1000000) (h : ∀ i, i + t.length ≤ s.length → (s.drop i).take t.length ≠ t) : ∀ d i : Nat, i + d = s.length + 1 → Ev (fun k => text_zzIndex.l0 k (str s) (str t) (i : Int)) (-1) := by
  intro d
  induction d with
  | zero =>
    intro i hi
    refine Ev.shift ?_
    simp only [text_zzIndex.l0, str_size, wrap_in (show -9223372036854775808 ≤ (i : Int) + (t.length : Int) by omega) (by omega), if_neg (show ¬ (i : Int) + (t.length : Int) ≤ (s.length : Int) by omega)]
    exact Ev.now _
  | succ d ih =>
    intro i hi
    refine Ev.shift ?_
    by_cases h1 : (i : Int) + (t.length : Int) ≤ (s.length : Int)
    · have h2 : ¬ ((str s).extract ((i : Int)).toNat ((i : Int) + (t.length : Int)).toNat).toList = (str t).toList := by
        rw [extract_str, toList_data, toList_data, str_data, str_data]
        have e : ((i : Int) + (t.length : Int)).toNat - ((i : Int)).toNat = t.length := by omega
        rw [Int.toNat_natCast]
        rw [Int.toNat_natCast] at e
        intro hh
        refine h i (by omega) ?_
        first
          | (rw [e] at hh; exact hh)
          | (rw [List.take_drop, show i + t.length = ((i : Int) + (t.length : Int)).toNat by omega]; exact hh)
      simp only [text_zzIndex.l0, str_size, wrap_in (show -9223372036854775808 ≤ (i : Int) + (t.length : Int) by omega) (by omega), if_pos h1, if_pos (show 0 ≤ (i : Int) by omega), if_pos (show (i : Int) ≤ (i : Int) + (t.length : Int) by omega), if_neg h2, wrap_succ i (by omega)]
      exact ih (i + 1) (by omega)
    · simp only [text_zzIndex.l0, str_size, wrap_in (show -9223372036854775808 ≤ (i : Int) + (t.length : Int) by omega) (by omega), if_neg h1]
      exact Ev.now _
theorem replace_none (s t u : List UInt8) (hs : s.length ≤ 1000000) (ht : t.length ≤ 1000000) (h0 : t ≠ []) (h : ∀ i, i + t.length ≤ s.length → (s.drop i).take t.length ≠ t) : ∃ k, text_zzReplaceAll.f k (str s) (str t) (str u) = some (str s) := by
  have : Ev (fun k => text_zzReplaceAll.f k (str s) (str t) (str u)) (str s) := by
    unfold text_zzReplaceAll.f
    have hz : ¬ ((str t).size : Int) = 0 := by
      rw [str_size]
      have := List.length_pos_iff.2 h0
      omega
    simp only [if_neg hz]
    refine Ev.shift ?_
    simp only [text_zzReplaceAll.l1]
    refine Ev.bind (index_none s t hs ht h (s.length + 1) 0 (by omega)) ?_
    simp only [if_pos (show (-1 : Int) < 0 by omega), str_size, List.length_nil, List.nil_append]
    have e : strOfNums (bytesOf (str s)) = str s := by
      have h1 : bytesOf (str s) = nb s := by rw [bytesOf_nb, str_data]
      rw [h1, strOfNums_nb]
    simp only [e]
    simp only [if_pos (show 0 + s.length < 140737488355328 by omega)]
    exact Ev.now _
  obtain ⟨K, hK⟩ := this
  exact ⟨K, hK K (Nat.le_refl _)⟩
theorem contains_none (s t : List UInt8) (hs : s.length ≤ 1000000) (ht : t.length ≤ 1000000) (h : ∀ i, i + t.length ≤ s.length → (s.drop i).take t.length ≠ t) : ∃ k, text_zzContains.f k (str s) (str t) = some false := by
  have : Ev (fun k => text_zzContains.f k (str s) (str t)) false := by
    unfold text_zzContains.f
    refine Ev.bind (index_none s t hs ht h (s.length + 1) 0 (by omega)) ?_
    exact Ev.now _
  obtain ⟨K, hK⟩ := this
  exact ⟨K, hK K (Nat.le_refl _)⟩

end T
/-- no sign below a blank -/
def Pl (s : List UInt8) : Prop := ∀ b ∈ s, 32 ≤ b.toNat
theorem no_sign (s : List UInt8) (h : Pl s) (c : UInt8) (hc : c.toNat < 32) (t : List UInt8) (ht : t.head? = some c) : ∀ i, i + t.length ≤ s.length → (s.drop i).take t.length ≠ t := by
  intro i hi he
  have hm : c ∈ (s.drop i).take t.length := by
    rw [he]
    cases t with
    | nil => cases ht
    | cons a r => simp only [List.head?_cons, Option.some.injEq] at ht; subst ht; simp
  have := h c (List.mem_of_mem_drop (List.mem_of_mem_take hm))
  omega

set_option linter.all false in
set_option maxRecDepth 100000 in
set_option maxHeartbeats 1000000 in
theorem crlf (s : ByteArray) (w : World) (h : Pl s.data.toList) (hs : s.size ≤ 100000) : Calls Tryz.prog 58 #[.string s] w fun e w' => e = .returned (.string s) ∧ Below w.heap.size w w' := by
  have hl : s.data.toList.length ≤ 100000 := by rw [size_data]; exact hs
  obtain ⟨k1, h1⟩ := T.replace_none s.data.toList [13, 10] [10] (by omega) (by decide) (by decide) (no_sign _ h 13 (by decide) _ rfl)
  obtain ⟨k2, h2⟩ := T.contains_none s.data.toList [13] (by omega) (by decide) (no_sign _ h 13 (by decide) _ rfl)
  rw [str_of] at h1 h2
  have H1 : Aside0 (text_zzReplaceAll.f k1 s ⟨#[13, 10]⟩ ⟨#[10]⟩ = some s) := ⟨h1⟩
  have H2 : Aside0 (text_zzContains.f k2 s ⟨#[13]⟩ = some false) := ⟨h2⟩
  clear h1 h2 h hl
  go_enter Tryz.func58, Tryz.ntmps58
  go_wp2_with (first
    | (go_at_call 71; go_must (with_reducible refine (text_zzReplaceAll.calls k1 s ⟨#[13, 10]⟩ ⟨#[10]⟩ s _ H1.out).mono ?_; rintro e w1 ⟨rfl, hb1⟩))
    | (go_at_call 72; go_must (refine (text_zzContains.calls k2 s ⟨#[13]⟩ false _ H2.out).mono ?_; rintro e w2 ⟨rfl, hb2⟩)))
  go_ret
  exact ⟨rfl, hb1.trans (hb2.below.mono hb1.size)⟩

set_option linter.all false in
set_option maxRecDepth 100000 in
set_option maxHeartbeats 1000000 in
theorem analyze (w0 : World) (b : Nat) (v : Value) (ps : List Nat) (xs : List (Int × ByteArray)) (lv ap : Int) (cv css : ByteArray) (sp : Option Addr) (t : ByteArray) (h : Pl t.data.toList) (ht : t.size ≤ 100000) (w : World) (S : LstV w0 b v ps xs lv ap cv css sp w) :
    Calls Tryz.prog 42 #[.pointer (some ⟨b, 0, none⟩), .iface 9 (.string t)] w fun e w' => ∃ p, e = .returned (ptr p) ∧ LstV w0 b v ps xs lv ap cv css sp w' ∧ w0.heap.size ≤ p ∧ w'.heap[p]? = some (.cells (icells (lv, t)) 63 (0, 0)) := by
  have hl : t.data.toList.length ≤ 100000 := by rw [size_data]; exact ht
  obtain ⟨k1, h1⟩ := L.replace_none t.data.toList [9] [32, 32, 32, 32] (by omega) (by decide) (by decide) (no_sign _ h 9 (by decide) _ rfl)
  rw [str_of] at h1
  have H1 : Aside0 (list_zzReplaceAll.f k1 t ⟨#[9]⟩ ⟨#[32, 32, 32, 32]⟩ = some t) := ⟨h1⟩
  have HC := fun w => Aside0.mk (crlf t w h ht)
  have SA := Aside0.mk S
  clear h1 h hl S
  go_enter Tryz.func42, Tryz.ntmps42
  go_wp2_with (first
    | (go_at_call 57; go_must (refine (Lsm.zztext t _).mono ?_; rintro e w1 ⟨rfl, rfl⟩))
    | (go_at_call 51; go_must (with_reducible refine (list_zzReplaceAll.calls k1 t ⟨#[9]⟩ ⟨#[32, 32, 32, 32]⟩ t _ H1.out).mono ?_; rintro e w2 ⟨rfl, hb2⟩; have S2 := SA.out.kept hb2))
    | (go_at_call 58; go_must (refine (HC _).out.mono ?_; rintro e w3 ⟨rfl, hb3⟩; have S3 := S2.kept hb3; have c4 : w3.cell? ⟨b, 4, none⟩ = some (.int .i64 lv) := S3.c 4)))
  go_ret
  have hb4 := (Below.refl w3.heap.size w3).alloc (Nat.le_refl _) (.cells #[.int .i64 lv, .string t] 63)
  exact ⟨w3.heap.size, rfl, S3.kept hb4, S3.below.size, heap_alloc_new w3 _⟩

/-- an item is appended -/
theorem item (w0 w : World) (b : Nat) (xs : List (Int × ByteArray)) (lv ap : Int) (cv css : ByteArray) (sp : Option Addr) (t : ByteArray) (h : Pl t.data.toList) (ht : t.size ≤ 100000) (S : Lst w0 b xs lv ap cv css sp w) (hn : xs.length ≤ 100000) :
    Calls Tryz.prog 29 #[.pointer (some ⟨b, 0, none⟩), .iface 9 (.string t)] w fun e w' => e = .returned (.tuple #[]) ∧ Lst w0 b (xs ++ [(lv, t)]) lv ap cv css sp w' := by
  obtain ⟨v, ps, S⟩ := S
  exact Lap.append w0 w b v ps xs lv ap cv css sp (.iface 9 (.string t)) t S hn (fun w1 S1 => analyze w0 b v ps xs lv ap cv css sp t h ht w1 S1)
end Go.Proofs.YthjkmjimlhpbfaaGreatDoor.Lan
end

section
/- The walk of impl.listOf: a list made by steps. -/
namespace Go.Proofs.YthjkmjimlhpbfaaGreatDoor.Lof
open Go Go.RowKit Go.Lib Go.Proofs.YthjkmjimlhpbfaaGreatDoor.Lst Go.Proofs.YthjkmjimlhpbfaaGreatDoor.Lsm Go.Proofs.YthjkmjimlhpbfaaGreatDoor.Lan Go.Proofs.YthjkmjimlhpbfaaGreatDoorW.PrintWords Go.Proofs.YthjkmjimlhpbfaaGreatDoorW.PrintMore Go.Proofs.YthjkmjimlhpbfaaGreatDoor.Small

/-- a list's items and its level -/
abbrev LS := List (Int × ByteArray) × Int
def step (s : LS) (x : Int × ByteArray) : LS :=
  if x.1 = 0 then (s.1 ++ [(s.2, x.2)], s.2) else if x.1 = 2 then (s.1, deeper s.1 s.2) else if x.1 = 3 then (s.1, if s.2 > 0 then s.2 - 1 else s.2) else if x.1 = 4 then (s.1, 0) else s
def made (l : List (Int × ByteArray)) : LS := l.foldl step ([], 0)
def Okst (x : Int × ByteArray) : Prop := (x.1 = 0 ∧ Pl x.2.data.toList ∧ x.2.size ≤ 100000) ∨ x.1 = 2 ∨ x.1 = 3 ∨ x.1 = 4
theorem made_succ (l : List (Int × ByteArray)) (j : Nat) (h : j < l.length) : made (l.take (j + 1)) = step (made (l.take j)) l[j] := by
  unfold made; rw [take_succ_at l j h, List.foldl_append]; rfl
theorem deeper_range (xs : List (Int × ByteArray)) (lv : Int) (n : Int) (h0 : 0 ≤ lv) (h1 : lv ≤ n) : 0 ≤ deeper xs lv ∧ deeper xs lv ≤ n + 1 := by
  unfold deeper
  split
  · omega
  · split <;> omega
theorem made_range (l : List (Int × ByteArray)) : ∀ j, j ≤ l.length → (made (l.take j)).1.length ≤ j ∧ 0 ≤ (made (l.take j)).2 ∧ (made (l.take j)).2 ≤ j
  | 0, _ => by rw [List.take_zero]; exact ⟨Nat.le_refl _, Int.le_refl _, Int.le_refl _⟩
  | j + 1, h => by
    obtain ⟨h1, h2, h3⟩ := made_range l j (by omega)
    have hd := deeper_range (made (l.take j)).1 (made (l.take j)).2 j h2 h3
    rw [made_succ l j (by omega)]
    generalize made (l.take j) = s at *
    obtain ⟨its, lv⟩ := s
    simp only at h1 h2 h3 hd
    unfold step
    by_cases c0 : l[j].1 = 0
    · rw [if_pos c0]; exact ⟨by simp; omega, h2, by simp only; omega⟩
    · rw [if_neg c0]
      by_cases c2 : l[j].1 = 2
      · rw [if_pos c2]; exact ⟨by simp only; omega, hd.1, by simp only; omega⟩
      · rw [if_neg c2]
        by_cases c3 : l[j].1 = 3
        · rw [if_pos c3]
          refine ⟨by simp only; omega, ?_, ?_⟩ <;> (simp only; split <;> omega)
        · rw [if_neg c3]
          by_cases c4 : l[j].1 = 4
          · rw [if_pos c4]; exact ⟨by simp only; omega, Int.le_refl _, by simp only; omega⟩
          · rw [if_neg c4]; exact ⟨by simp only; omega, h2, by simp only; omega⟩

def zcells : Array Value := lcells 0 ⟨#[]⟩ ⟨#[]⟩ (.slice none 0 0) 0 none
theorem fresh (w : World) : Lst w w.heap.size [] 0 0 ⟨#[]⟩ ⟨#[]⟩ none (w.alloc (.cells zcells 52)) :=
  ⟨_, [], Nat.le_refl _, (Below.refl _ w).alloc (Nat.le_refl _) _, heap_alloc_new w _, rfl, ⟨rfl, .inl ⟨rfl, rfl⟩⟩, fun i p x h => by simp at h⟩
theorem Lst.kept {w0 w w' : World} {b : Nat} {xs : List (Int × ByteArray)} {lv ap : Int} {cv css : ByteArray} {sp : Option Addr} (h : Lst w0 b xs lv ap cv css sp w) (hw : Below w.heap.size w w') : Lst w0 b xs lv ap cv css sp w' := by
  obtain ⟨v, ps, S⟩ := h
  exact ⟨v, ps, S.kept hw⟩
theorem Lst.below {w0 w : World} {b : Nat} {xs : List (Int × ByteArray)} {lv ap : Int} {cv css : ByteArray} {sp : Option Addr} (h : Lst w0 b xs lv ap cv css sp w) : Below w0.heap.size w0 w := by
  obtain ⟨v, ps, S⟩ := h
  exact S.below

set_option linter.all false in
set_option maxRecDepth 100000 in
set_option maxHeartbeats 2000000 in
theorem listOf (A : Option Addr) (c n : Nat) (l : List (Int × ByteArray)) (w : World) (hn : n = l.length) (hb : n ≤ 100000) (hok : ∀ x ∈ l, Okst x)
    (HR : ∀ w', Below w.heap.size w w' → ∀ j, j < n → ∃ ad x gb go A2 n2 c2, A = some ad ∧ l[j]? = some x ∧ ad.add (j * 3) = ⟨gb, go, none⟩ ∧ w'.cell? ⟨gb, go, none⟩ = some (.int .i64 x.1) ∧ w'.cell? ⟨gb, go + 1, none⟩ = some (.string x.2) ∧ w'.cell? ⟨gb, go + 2, none⟩ = some (.slice A2 n2 c2)) :
    Calls Tryz.prog 13 #[.slice A n c] w fun e w' => ∃ b, e = .returned (.pointer (some ⟨b, 0, none⟩)) ∧ Lst w b (made l).1 (made l).2 0 ⟨#[]⟩ ⟨#[]⟩ none w' := by
  have HRA := Aside0.mk HR; have HN := Aside0.mk hn; have HOK := Aside0.mk hok
  have HF := Aside0.mk (fresh w)
  clear HR hn hok
  go_enter Tryz.func13, Tryz.ntmps13
  go_wp2_with (fail)
  go_loopw [13] (fun i wr => ∃ j : Nat, j ≤ n ∧ i = .int .i64 j ∧ Lst w w.heap.size (made (l.take j)).1 (made (l.take j)).2 0 ⟨#[]⟩ ⟨#[]⟩ none wr) (fun i _ => n - (RowKit.intOf i).toNat)
  case atStart => exact ⟨0, by omega, rfl, by exact HF.out⟩
  case round =>
    obtain ⟨j, hj, rfl, S⟩ := hrel
    by_cases hlt : j < n
    · have hd : decide ((j : Int) < (n : Int)) = true := by simp; omega
      obtain ⟨ad, x, gb, go, A2, n2, c2, rfl, hx, hq, k0, k1, k2⟩ := HRA.out wr (Lst.below S) j hlt
      obtain ⟨K, X⟩ := x
      have hjl : j < l.length := by rw [← HN.out]; exact hlt
      have hxe : l[j] = (K, X) := by rw [List.getElem?_eq_getElem hjl] at hx; exact Option.some.inj hx
      have hokx := HOK.out _ (List.getElem_mem hjl)
      rw [hxe] at hokx
      have hm := made_succ l j hjl
      rw [hxe] at hm
      have hrg := made_range l j (by omega)
      have hb1 : ∀ o, Below wr.heap.size wr (wr.alloc o) := fun o => (Below.refl _ wr).alloc (Nat.le_refl _) o
      generalize made (l.take j) = s at *
      obtain ⟨its, lv⟩ := s
      simp only at S hrg k0 k1
      obtain ⟨r1, r2, r3⟩ := hrg
      have S' := fun o => Lst.kept S (hb1 o)
      have HM := Aside0.mk hm; have HR2 := Aside0.mk (And.intro r1 (And.intro r2 r3))
      have HS := Aside0.mk S'
      clear hx hxe hm S S' r1 r2 r3 hb1
      rcases hokx with ⟨h0, hp, hs⟩ | h0 | h0 | h0
      · simp only at h0 hp hs
        subst h0
        have HP := Aside0.mk (And.intro hp hs)
        clear hp hs
        go_wp2_with (first
          | (go_at_call 29; go_must (refine (Lan.item w _ w.heap.size its lv 0 _ _ none X HP.out.1 HP.out.2 (HS.out _) (by have := HR2.out; omega)).mono ?_; rintro e w1 ⟨rfl, S1⟩)))
        go_roundw
        case rel => exact ⟨j + 1, hlt, rfl, by rw [HM.out]; exact S1⟩
        case measure => simp [RowKit.intOf]; omega
      · simp only at h0
        subst h0
        go_wp2_with (first
          | (go_at_call 31; go_must (refine (Lsm.indent w _ w.heap.size its lv 0 _ _ none (HS.out _) (by have := HR2.out; omega) HR2.out.2.1 (by have := HR2.out; omega)).mono ?_; rintro e w1 ⟨rfl, S1⟩)))
        go_roundw
        case rel => exact ⟨j + 1, hlt, rfl, by rw [HM.out]; exact S1⟩
        case measure => simp [RowKit.intOf]; omega
      · simp only at h0
        subst h0
        go_wp2_with (first
          | (go_at_call 32; go_must (refine (Lst.unindent w _ w.heap.size its lv 0 _ _ none (HS.out _) HR2.out.2.1 (by have := HR2.out; omega)).mono ?_; rintro e w1 ⟨rfl, S1⟩)))
        go_roundw
        case rel => exact ⟨j + 1, hlt, rfl, by rw [HM.out]; exact S1⟩
        case measure => simp [RowKit.intOf]; omega
      · simp only at h0
        subst h0
        go_wp2_with (first
          | (go_at_call 33; go_must (refine (Lst.unall w _ w.heap.size its lv 0 _ _ none (HS.out _)).mono ?_; rintro e w1 ⟨rfl, S1⟩)))
        go_roundw
        case rel => exact ⟨j + 1, hlt, rfl, by rw [HM.out]; exact S1⟩
        case measure => simp [RowKit.intOf]; omega
    · have hd : decide ((j : Int) < (n : Int)) = false := by simp; omega
      obtain rfl : j = n := by omega
      go_wp2_with (fail)
      go_ret
      refine ⟨w.heap.size, rfl, ?_⟩
      rw [HN.out, List.take_length] at S
      exact S
end Go.Proofs.YthjkmjimlhpbfaaGreatDoor.Lof
end

section
/- The walk of hasMoreItemsInLevel. -/
namespace Go.Proofs.YthjkmjimlhpbfaaGreatDoor.Lmo
open Go Go.RowKit Go.Lib Go.Proofs.YthjkmjimlhpbfaaGreatDoor.Lst Go.Proofs.YthjkmjimlhpbfaaGreatDoor.Lsm Go.Proofs.YthjkmjimlhpbfaaGreatDoorW.PrintWords Go.Proofs.YthjkmjimlhpbfaaGreatDoor.Small

/-- does one of this level come before one above it? -/
def more (xs : List (Int × ByteArray)) (lv : Int) : Bool := match xs with
  | [] => false
  | x :: r => if x.1 < lv then false else if x.1 = lv then true else more r lv
theorem more_at (xs : List (Int × ByteArray)) (j : Nat) (h : j < xs.length) (lv : Int) : more (xs.drop j) lv = if xs[j].1 < lv then false else if xs[j].1 = lv then true else more (xs.drop (j + 1)) lv := by
  rw [List.drop_eq_getElem_cons h]; rfl
theorem wrap_i (n : Int) (h0 : -9223372036854775808 ≤ n) (h1 : n ≤ 9223372036854775807) : IntKind.i64.wrap n = n := by
  unfold IntKind.wrap; simp [IntKind.bits, IntKind.signed]; omega

set_option linter.all false in
set_option maxRecDepth 100000 in
set_option maxHeartbeats 1000000 in
theorem hasMore (w0 w : World) (b : Nat) (v : Value) (ps : List Nat) (xs : List (Int × ByteArray)) (lv0 ap : Int) (cv css : ByteArray) (sp : Option Addr) (lv : Int) (idx : Nat) (S : LstV w0 b v ps xs lv0 ap cv css sp w) (hn : xs.length ≤ 100000) (hi : idx < xs.length) :
    Calls Tryz.prog 37 #[.pointer (some ⟨b, 0, none⟩), .int .i64 lv, .int .i64 idx] w fun e w' => e = .returned (.bool (more (xs.drop (idx + 1)) lv)) ∧ w' = w := by
  rcases S.val with ⟨hz, _⟩ | ⟨g, cap, rfl, hcap, hcells⟩
  · omega
  obtain ⟨R, hR⟩ : ∃ R, R = more (xs.drop (idx + 1)) lv := ⟨_, rfl⟩
  have HR := Aside0.mk hR
  rw [← hR]
  have c3 : w.cell? ⟨b, 3, none⟩ = some (.slice (some ⟨g, 0, none⟩) xs.length cap) := S.c 3
  obtain ⟨n, hN⟩ : ∃ n, n = xs.length := ⟨_, rfl⟩
  rw [← hN] at c3 hn hi
  have HN := Aside0.mk hN
  have SA := Aside0.mk S
  have HCL := Aside0.mk hcells
  have hw1 : IntKind.i64.wrap ((idx : Int) + 1) = ((idx + 1 : Nat) : Int) := by rw [wrap_i _ (by omega) (by omega)]; omega
  clear S hR hcells hcap hN
  go_enter Tryz.func37, Tryz.ntmps37
  go_wp2_with (fail)
  go_loopw [7] (fun i wr => wr = w ∧ ∃ j : Nat, idx + 1 ≤ j ∧ j ≤ n ∧ i = .int .i64 j ∧ Aside0 (R = more (xs.drop j) lv)) (fun i _ => n - (RowKit.intOf i).toNat)
  case atStart => exact ⟨rfl, idx + 1, by omega, by omega, by first | rfl | (rw [hw1]; rfl) | simp, HR⟩
  case round =>
    obtain ⟨rfl, j, hj1, hj, rfl, HJ⟩ := hrel
    have hge : decide ((j : Int) ≥ 0) = true := by simp
    by_cases hlt : j < n
    · have hd : decide ((j : Int) < (n : Int)) = true := by simp; omega
      have hjl : j < xs.length := by rw [← HN.out]; exact hlt
      obtain ⟨p, hps⟩ : ∃ p, ps[j]? = some p := ⟨_, List.getElem?_eq_getElem (by rw [SA.out.len]; exact hjl)⟩
      obtain ⟨_, hpi⟩ := SA.out.item j p xs[j] hps (List.getElem?_eq_getElem hjl)
      have cg : wr.cell? ⟨g, j, none⟩ = some (.pointer (some ⟨p, 0, none⟩)) := HCL.out j p hps
      have cp : wr.cell? ⟨p, 0, none⟩ = some (.int .i64 xs[j].1) := by rw [Lib.cell_of_heap hpi]; rfl
      have hm := more_at xs j hjl lv
      obtain ⟨y, hy⟩ : ∃ y, y = xs[j].1 := ⟨_, rfl⟩
      rw [← hy] at cp hm
      have hw2 : IntKind.i64.wrap ((j : Int) + 1) = ((j + 1 : Nat) : Int) := by rw [wrap_i _ (by omega) (by omega)]; omega
      have HM := Aside0.mk hm
      clear hps hpi hy hm
      by_cases h1 : y < lv
      · have q1 : decide (y < lv) = true := decide_eq_true h1
        have e : R = false := by rw [HJ.out, HM.out, if_pos h1]
        have E := Aside0.mk e
        clear h1 e
        go_wp2_with (fail)
        go_ret
        exact ⟨by rw [E.out]; rfl, rfl⟩
      · have q1 : decide (y < lv) = false := decide_eq_false h1
        by_cases h2 : y = lv
        · have q2 : (y == lv) = true := by simp [h2]
          have e : R = true := by rw [HJ.out, HM.out, if_neg h1, if_pos h2]
          have E := Aside0.mk e
          clear h1 e h2
          go_wp2_with (fail)
          go_ret
          exact ⟨by rw [E.out]; rfl, rfl⟩
        · have q2 : (y == lv) = false := by simpa using h2
          have e : R = more (xs.drop (j + 1)) lv := by rw [HJ.out, HM.out, if_neg h1, if_neg h2]
          have E := Aside0.mk e
          clear h1 e h2
          go_wp2_with (fail)
          go_roundw
          case rel => exact ⟨by first | rfl | trivial, j + 1, by omega, hlt, by first | rfl | (rw [hw2]; rfl) | simp, E⟩
          case measure => simp [RowKit.intOf]; omega
    · have hd : decide ((j : Int) < (n : Int)) = false := by simp; omega
      obtain rfl : j = n := by omega
      go_wp2_with (fail)
      go_ret
      refine ⟨?_, rfl⟩
      rw [HJ.out, List.drop_of_length_le (by rw [HN.out]; exact Nat.le_refl _)]
      rfl
end Go.Proofs.YthjkmjimlhpbfaaGreatDoor.Lmo
end
