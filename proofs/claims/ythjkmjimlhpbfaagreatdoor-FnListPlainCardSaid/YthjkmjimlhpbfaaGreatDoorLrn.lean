/- The walks of listStyle and ListRender: what is rendered is a function of the steps and the style. -/
import Derived.Test.YthjkmjimlhpbfaaGreatDoorLre
import Derived.Test.YthjkmjimlhpbfaaGreatDoorLsB
namespace Go.Proofs.YthjkmjimlhpbfaaGreatDoor.Lrn
open Go Go.RowKit Go.Lib Go.Proofs.YthjkmjimlhpbfaaGreatDoor.Lst Go.Proofs.YthjkmjimlhpbfaaGreatDoor.Lsm Go.Proofs.YthjkmjimlhpbfaaGreatDoor.Lof Go.Proofs.YthjkmjimlhpbfaaGreatDoor.Lan Go.Proofs.YthjkmjimlhpbfaaGreatDoor.Lin Go.Proofs.YthjkmjimlhpbfaaGreatDoor.Lre Go.Proofs.YthjkmjimlhpbfaaGreatDoorW.PrintWords

def e0 : ByteArray := ⟨#[]⟩
set_option linter.all false in
set_option maxRecDepth 100000 in
set_option maxHeartbeats 2000000 in
theorem style (fm : Int) (s1 s2 s3 s4 s5 s6 s7 s8 : ByteArray) (w : World) :
    Calls Tryz.prog 16 #[.agg #[.int .i64 fm, .string s1, .string s2, .string s3, .string s4, .string s5, .string s6, .string s7, .string s8]] w fun e w' => e = .returned (.agg #[.int .i64 fm, .string s1, .string s2, .string s3, .string s4, .string s5, .string s6, .string s7, .string s8, .string e0]) ∧ Below w.heap.size w w' := by
  have HB : Aside0 (∀ o1 o2, Below w.heap.size w ((w.alloc o1).alloc o2)) := ⟨fun o1 o2 => ((Below.refl _ w).alloc (Nat.le_refl _) o1).alloc (by simp) o2⟩
  go_enter Tryz.func16, Tryz.ntmps16
  go_wp2_with (fail)
  refine bodyPost_ret (v := .agg #[.int .i64 fm, .string s1, .string s2, .string s3, .string s4, .string s5, .string s6, .string s7, .string s8, .string e0]) (by simp [results, go_sem]; rfl) rfl ⟨rfl, HB.out _ _⟩

/-- the texts of a list's items -/
theorem made_fine (l : List (Int × ByteArray)) (hok : ∀ x ∈ l, Okst x) : ∀ j, j ≤ l.length → ∀ y ∈ (made (l.take j)).1, 0 ≤ y.1 ∧ y.1 ≤ j ∧ y.2.size ≤ 100000 ∧ Pl y.2.data.toList
  | 0, _ => by intro y hy; rw [List.take_zero] at hy; exact absurd hy (by simp [made])
  | j + 1, h => by
    have ih := made_fine l hok j (by omega)
    obtain ⟨_, h2, h3⟩ := made_range l j (by omega)
    have ho := hok _ (List.getElem_mem (show j < l.length by omega))
    rw [made_succ l j (by omega)]
    generalize made (l.take j) = s at *
    obtain ⟨its, lv⟩ := s
    simp only at ih h2 h3
    have up : ∀ y ∈ its, 0 ≤ y.1 ∧ y.1 ≤ ((j + 1 : Nat) : Int) ∧ y.2.size ≤ 100000 ∧ Pl y.2.data.toList := fun y hy => by
      obtain ⟨a, b, c⟩ := ih y hy
      exact ⟨a, by omega, c⟩
    unfold Lof.step
    by_cases c0 : l[j].1 = 0
    · rw [if_pos c0]
      rcases ho with ⟨_, hp, hs⟩ | c | c | c
      · intro y hy
        rcases List.mem_append.1 hy with hy | hy
        · exact up y hy
        · obtain rfl := List.mem_singleton.1 hy
          exact ⟨h2, by simp only; omega, hs, hp⟩
      all_goals omega
    · rw [if_neg c0]
      by_cases c2 : l[j].1 = 2
      · rw [if_pos c2]; exact up
      · rw [if_neg c2]
        by_cases c3 : l[j].1 = 3
        · rw [if_pos c3]; exact up
        · rw [if_neg c3]
          by_cases c4 : l[j].1 = 4
          · rw [if_pos c4]; exact up
          · rw [if_neg c4]; exact up
structure Small8 (s1 s2 s3 s4 s5 s6 s7 s8 : ByteArray) : Prop where
  h1 : s1.size ≤ 1000
  h2 : s2.size ≤ 1000
  h3 : s3.size ≤ 1000
  h4 : s4.size ≤ 1000
  h5 : s5.size ≤ 1000
  h6 : s6.size ≤ 1000
  h7 : s7.size ≤ 1000
  h8 : s8.size ≤ 1000
theorem fine_made (l : List (Int × ByteArray)) (hok : ∀ x ∈ l, Okst x) (hn : l.length ≤ 1000) {s1 s2 s3 s4 s5 s6 s7 s8 : ByteArray} (h : Small8 s1 s2 s3 s4 s5 s6 s7 s8) : Fine (made l).1 s1 s2 s3 s4 s5 s6 s7 s8 := by
  have h1 := made_fine l hok l.length (Nat.le_refl _)
  have h2 := (made_range l l.length (Nat.le_refl _)).1
  rw [List.take_length] at h1 h2
  exact ⟨by omega, h.h1, h.h2, h.h3, h.h4, h.h5, h.h6, h.h7, h.h8, fun x hx => by obtain ⟨a, b, c, d⟩ := h1 x hx; exact ⟨a, by omega, c, d⟩⟩
/-- what is rendered -/
def R (l : List (Int × ByteArray)) (s1 s2 s3 s4 s5 s6 s8 : ByteArray) : ByteArray := ⟨(drawn (blanks s5) s1 s2 s3 s4 s5 s6 s8 (made l).1 (made l).1.length).toArray⟩
/-- the steps lie in memory -/
def Lies (A : Option Addr) (n : Nat) (l : List (Int × ByteArray)) (w : World) : Prop :=
  ∀ w', Below w.heap.size w w' → ∀ j, j < n → ∃ ad x gb go A2 n2 c2, A = some ad ∧ l[j]? = some x ∧ ad.add (j * 3) = ⟨gb, go, none⟩ ∧ w'.cell? ⟨gb, go, none⟩ = some (.int .i64 x.1) ∧ w'.cell? ⟨gb, go + 1, none⟩ = some (.string x.2) ∧ w'.cell? ⟨gb, go + 2, none⟩ = some (.slice A2 n2 c2)
theorem Lies.alloc {A : Option Addr} {n : Nat} {l : List (Int × ByteArray)} {w : World} (h : Lies A n l w) (o : Obj) : Lies A n l (w.alloc o) := fun w' hw => h w' (((Below.refl _ w).alloc (Nat.le_refl _) o).trans (hw.mono (by simp)))

theorem renderS {Ex : Nat → Obj → Prop} {w0 w : World} {b sg : Nat} {v : Value} {ps : List Nat} {xs : List (Int × ByteArray)} {lv ap : Int} {cv css s1 s2 s3 s4 s5 s6 s7 s8 s9 : ByteArray} (h : Ist Ex w0 b sg v ps xs lv 0 cv css s1 s2 s3 s4 s5 s6 s7 s8 s9 ap w) (F : Fine xs s1 s2 s3 s4 s5 s6 s7 s8) :
    Calls Tryz.prog 14 #[.pointer (some ⟨b, 0, none⟩)] w fun e w' => e = .returned (.string ⟨(drawn (blanks s5) s1 s2 s3 s4 s5 s6 s8 xs xs.length).toArray⟩) ∧ ∃ m css', Ist Ex w0 b sg v ps xs lv 0 (blanks s5) css' s1 s2 s3 s4 s5 s6 s7 s8 s9 m w' := by
  obtain ⟨A, c, rfl⟩ := row_of h.lst
  exact render ((styled h.lst).mono fun e w' ⟨he, hw⟩ => ⟨he, hw ▸ h⟩) F
set_option linter.all false in
set_option maxRecDepth 100000 in
set_option maxHeartbeats 2000000 in
theorem listRender (A : Option Addr) (c n : Nat) (l : List (Int × ByteArray)) (w : World) (hn : n = l.length) (hb : n ≤ 1000) (hok : ∀ x ∈ l, Okst x) (HR : Lies A n l w) {s1 s2 s3 s4 s5 s6 s7 s8 : ByteArray} (hs : Small8 s1 s2 s3 s4 s5 s6 s7 s8) :
    Calls Tryz.prog 8 #[.slice A n c, .agg #[.int .i64 0, .string s1, .string s2, .string s3, .string s4, .string s5, .string s6, .string s7, .string s8]] w fun e w' => e = .returned (.string (R l s1 s2 s3 s4 s5 s6 s8)) ∧ Below w.heap.size w w' := by
  obtain ⟨o, ho⟩ : ∃ o : Obj, o = .cells #[.int .i64 0, .string s1, .string s2, .string s3, .string s4, .string s5, .string s6, .string s7, .string s8] 29 (0, 0) := ⟨_, rfl⟩
  obtain ⟨W, hW⟩ : ∃ W, W = w.alloc o := ⟨_, rfl⟩
  have HO := Aside0.mk ho
  have HW := Aside0.mk hW
  have hw0 : W.heap[w.heap.size]? = some o := by rw [hW]; exact heap_alloc_new w o
  have HW0 := Aside0.mk hw0
  have HWB : Aside0 (Below w.heap.size w W) := ⟨by rw [hW]; exact (Below.refl _ w).alloc (Nat.le_refl _) o⟩
  have HLO := Aside0.mk (Lof.listOf A c n l W hn (by omega) hok (by rw [hW]; exact HR.alloc o))
  have HFI := Aside0.mk (fine_made l hok (by omega) hs)
  clear hw0 hW ho hn hb hok HR
  go_enter Tryz.func8, Tryz.ntmps8
  go_wp2_with (first
    | (go_at_call 13; go_must (rw [← HO.out, ← HW.out]; refine (HLO.out).mono ?_; rintro e w1 ⟨b, rfl, S1⟩; have hbo := (Lof.Lst.below S1).block _ (Lst.lt_of HW0.out) |>.trans HW0.out; rw [HO.out] at hbo; have q := fun i => Lib.cell_of_heap hbo i; have q0 : w1.cell? ⟨w.heap.size, 0, none⟩ = some (.int .i64 0) := (q 0).trans rfl; have q1 : w1.cell? ⟨w.heap.size, 1, none⟩ = some (.string s1) := (q 1).trans rfl; have q2 : w1.cell? ⟨w.heap.size, 2, none⟩ = some (.string s2) := (q 2).trans rfl; have q3 : w1.cell? ⟨w.heap.size, 3, none⟩ = some (.string s3) := (q 3).trans rfl; have q4 : w1.cell? ⟨w.heap.size, 4, none⟩ = some (.string s4) := (q 4).trans rfl; have q5 : w1.cell? ⟨w.heap.size, 5, none⟩ = some (.string s5) := (q 5).trans rfl; have q6 : w1.cell? ⟨w.heap.size, 6, none⟩ = some (.string s6) := (q 6).trans rfl; have q7 : w1.cell? ⟨w.heap.size, 7, none⟩ = some (.string s7) := (q 7).trans rfl; have q8 : w1.cell? ⟨w.heap.size, 8, none⟩ = some (.string s8) := (q 8).trans rfl; have SA := Aside0.mk S1; clear q hbo S1))
    | (go_at_call 16; go_must (refine (style 0 s1 s2 s3 s4 s5 s6 s7 s8 _).mono ?_; rintro e w2 ⟨rfl, hb2⟩; have SB := Aside0.mk (Lof.Lst.kept SA.out hb2); clear hb2))
    | (go_at_call 15; go_must (refine (setstyle W _ b _ _ _ _ _ _ 0 s1 s2 s3 s4 s5 s6 s7 s8 e0 SB.out).mono ?_; rintro e w3 ⟨rfl, sg, ⟨v, ps, S3⟩, hg, hsg⟩; have I3 : Ist (fun _ _ => False) W b sg v ps (made l).1 (made l).2 0 ⟨#[]⟩ ⟨#[]⟩ s1 s2 s3 s4 s5 s6 s7 s8 e0 0 w3 := ⟨S3, hsg, fun _ _ h => h.elim⟩; have IA := Aside0.mk I3; clear I3 S3 hg hsg))
    | (go_at_call 14; go_must (refine (renderS IA.out HFI.out).mono ?_; rintro e w4 ⟨rfl, m, css', I4⟩; have ID := Aside0.mk I4; clear I4)))
  go_ret
  exact ⟨rfl, HWB.out.trans (ID.out.lst.below.mono HWB.out.size)⟩

/-- steps and a style of which the walk speaks -/
structure Good (l : List (Int × ByteArray)) (fm : Int) (s1 s2 s3 s4 s5 s6 s7 s8 : ByteArray) : Prop where
  f : fm = 0
  n : l.length ≤ 1000
  ok : ∀ x ∈ l, Okst x
  s : Small8 s1 s2 s3 s4 s5 s6 s7 s8
theorem spot_none {w : World} {a : Addr} {v : Value} (h : w.cell? a = some v) : a.spot = none := by
  unfold World.cell? at h
  split at h
  · split at h
    · exact absurd h (by simp)
    · rename_i hs
      cases hx : a.spot with
      | none => rfl
      | some x => rw [hx] at hs; exact absurd rfl hs
  · exact absurd h (by simp)
theorem addr_eta {a : Addr} (h : a.spot = none) : a = ⟨a.block, a.off, none⟩ := by
  obtain ⟨x, y, z⟩ := a
  simp only at h
  rw [h]

def d1 : ByteArray := ⟨#[42]⟩
def d5 : ByteArray := ⟨#[32, 32]⟩
def d7 : ByteArray := ⟨#[10]⟩
def d9 : ByteArray := ⟨#[83, 116, 121, 108, 101, 68, 101, 102, 97, 117, 108, 116]⟩
theorem small_d : Small8 d1 d1 d1 d1 d5 d1 d7 e0 := ⟨by decide, by decide, by decide, by decide, by decide, by decide, by decide, by decide⟩
set_option linter.all false in
set_option maxRecDepth 100000 in
set_option maxHeartbeats 2000000 in
theorem default_ (w : World) : Calls Tryz.prog 17 #[] w fun e w' => e = .returned (.agg #[.int .i64 0, .string d1, .string d1, .string d1, .string d1, .string d5, .string d1, .string d7, .string e0, .string d9]) ∧ w' = w.alloc (.cells #[.int .i64 0, .string d1, .string d1, .string d1, .string d1, .string d5, .string d1, .string d7, .string e0, .string d9] 45) := by
  go_enter Tryz.func17, Tryz.ntmps17
  go_wp2_with (fail)
  refine bodyPost_ret (v := .agg #[.int .i64 0, .string d1, .string d1, .string d1, .string d1, .string d5, .string d1, .string d7, .string e0, .string d9]) (by simp [results, go_sem, d1, d5, d7, d9, e0]) rfl ⟨rfl, rfl⟩
set_option linter.all false in
set_option maxRecDepth 100000 in
set_option maxHeartbeats 2000000 in
/-- Style, where none is set: the default one -/
theorem styledNil {w0 w : World} {b : Nat} {v : Value} {ps : List Nat} {xs : List (Int × ByteArray)} {lv ap : Int} {cv css : ByteArray} (S : LstV w0 b v ps xs lv ap cv css none w) :
    Calls Tryz.prog 43 #[.pointer (some ⟨b, 0, none⟩)] w fun e w' => e = .returned (.pointer (some ⟨w.heap.size + 1, 0, none⟩)) ∧ Ist (fun _ _ => False) w0 b (w.heap.size + 1) v ps xs lv 0 cv css d1 d1 d1 d1 d5 d1 d7 e0 d9 ap w' := by
  have c5 : w.cell? ⟨b, 5, none⟩ = some (.pointer none) := S.c 5
  have hb2 : ∀ o o', Below w.heap.size w ((w.alloc o).alloc o') := fun o o' => ((Below.refl _ w).alloc (Nat.le_refl _) o).alloc (by simp) o'
  have f5 : ∀ o o', ((w.alloc o).alloc o').frozen? ⟨b, 5, none⟩ = false := fun o o' => (S.kept (hb2 o o')).fz 5
  have c5' : ∀ o o', ((w.alloc o).alloc o').cell? ⟨b, 5, none⟩ = some (.pointer none) := fun o o' => (S.kept (hb2 o o')).c 5
  have SA := Aside0.mk S
  have HB := Aside0.mk hb2
  clear S hb2
  go_enter Tryz.func43, Tryz.ntmps43
  go_wp2_with (first
    | (go_at_call 17; go_must (refine (default_ _).mono ?_; rintro e w1 ⟨rfl, rfl⟩)))
  go_ret
  refine ⟨rfl, (SA.out.kept (HB.out _ _)).put 5 _ rfl, ?_, fun _ _ h => h.elim⟩
  refine (put_other ?_ 5 _).trans ?_
  · have := lt_of SA.out.own
    omega
  · have := heap_alloc_new (w.alloc (.cells #[.int .i64 0, .string d1, .string d1, .string d1, .string d1, .string d5, .string d1, .string d7, .string e0, .string d9] 45)) (.cells #[.int .i64 0, .string d1, .string d1, .string d1, .string d1, .string d5, .string d1, .string d7, .string e0, .string d9] 45)
    simpa using this
set_option linter.all false in
set_option maxRecDepth 100000 in
set_option maxHeartbeats 2000000 in
theorem listPlain (A : Option Addr) (c n : Nat) (l : List (Int × ByteArray)) (w : World) (hn : n = l.length) (hb : n ≤ 1000) (hok : ∀ x ∈ l, Okst x) (HR : Lies A n l w) :
    Calls Tryz.prog 6 #[.slice A n c] w fun e w' => e = .returned (.string (R l d1 d1 d1 d1 d5 d1 e0)) ∧ Below w.heap.size w w' := by
  have HLO := Aside0.mk (Lof.listOf A c n l w hn (by omega) hok HR)
  have HFI := Aside0.mk (fine_made l hok (by omega) small_d)
  clear hn hb hok HR
  go_enter Tryz.func6, Tryz.ntmps6
  go_wp2_with (first
    | (go_at_call 13; go_must (refine (HLO.out).mono ?_; rintro e w1 ⟨b, rfl, S1⟩; have SA := Aside0.mk S1; clear S1))
    | (go_at_call 14; go_must (obtain ⟨v, ps, S2⟩ := SA.out; obtain ⟨A2, c2, rfl⟩ := row_of S2; refine (render (styledNil S2) HFI.out).mono ?_; rintro e w4 ⟨rfl, m, css', I4⟩; have ID := Aside0.mk I4; clear I4 S2)))
  go_ret
  exact ⟨rfl, ID.out.lst.below⟩
/-- steps of which listPlain speaks -/
structure GoodP (l : List (Int × ByteArray)) : Prop where
  n : l.length ≤ 1000
  ok : ∀ x ∈ l, Okst x
end Go.Proofs.YthjkmjimlhpbfaaGreatDoor.Lrn
