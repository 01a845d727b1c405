/- The walks of Colors.Sprint and impl.TextColorsPrint. -/
import Derived.Test.YtenclpkeffhjaaaDoorEsq
import Derived.Test.YtenclpkeffhjaaaDoorSq
namespace Go.Proofs.YtenclpkeffhjaaaDoor.Clp
open Go Go.RowKit Go.Proofs.YtenclpkeffhjaaaDoor.GEsBody Go.Proofs.YtenclpkeffhjaaaDoorW.PrintWords Go.Proofs.YtenclpkeffhjaaaDoorW.PrintLast Go.Proofs.YtenclpkeffhjaaaDoorW.PrintMore Go.Proofs.YtenclpkeffhjaaaDoor.Small Go.Proofs.YtenclpkeffhjaaaDoor.Esp Go.Proofs.YtenclpkeffhjaaaDoor.Es Go.Proofs.YtenclpkeffhjaaaDoor.Esq

/-- what is printed: the sequence, the texts, the end; or the texts -/
def out (l : List Int) (s : List UInt8) : ByteArray := if l = [] then str s else seq l ++ str s ++ Esw.RST
theorem join_plain (xs : List ByteArray) : Lib.join (xs.map (·.data.toList)) [] = cat xs := by
  cases xs with
  | nil => rfl
  | cons x r =>
    rw [List.map_cons, Lib.join_cons]
    simp only [cat, Lib.joinTail, List.nil_append, List.map_map, List.flatMap]
    congr 2

theorem esc_call (l : List Int) (s : List UInt8) (w : World) (h0 : l ≠ []) (hb : l.length ≤ 60) (hl : ∀ c ∈ l, 0 ≤ c ∧ c < 1000) (hc : Esp.Clean s) (hs : s ≠ []) (hn : s.length ≤ 6000) :
    Calls Tryd.prog 19 #[.string (str s), .string (seq l)] w fun e w' => e = .returned (.string (seq l ++ str s ++ Esw.RST)) ∧ Below w.heap.size w w' := by
  have hq : seq l = str (sq l) := seq_sq l h0
  have hqn : sq l ≠ [] := by unfold sq; simp
  have hql := sq_len l hl hb
  have hR : R.length = 4 := rfl
  have hRST : Esw.RST = str R := rfl
  obtain ⟨k1, h1⟩ := replace_none s R (R ++ sq l) (by omega) (by omega) (by decide) (no_reset s hc)
  obtain ⟨k2, h2⟩ := contains_none (sq l ++ s ++ R) (sq l ++ R) (by simp only [List.length_append]; omega) (by simp only [List.length_append]; omega) (no_both (sq l) s hqn rfl (sq_tail l) hc hs)
  refine Esw.escape (str s) (seq l) w (by rw [str_size]; exact hn) (by rw [hq, str_size]; omega) k1 k2 ?_ ?_ ?_ ?_
  · rw [str_data]; exact no_prefix s hc
  · rw [hq, hRST, ← str_append]; exact h1
  · rw [hq, ← str_append, str_data]; exact no_suffix (sq l) s ⟨_, rfl⟩ hc hs
  · rw [hq, hRST, ← str_append, ← str_append, ← str_append]; exact h2

set_option linter.all false in
set_option maxRecDepth 100000 in
set_option maxHeartbeats 1000000 in
theorem colz (l : List Int) (s : List UInt8) (w : World) (hb : l.length ≤ 60) (hl : ∀ c ∈ l, 0 ≤ c ∧ c < 1000) (hc : Esp.Clean s) (hs : s ≠ []) (hn : s.length ≤ 6000) :
    Calls Tryd.prog 35 #[.string (str s), .string (seq l)] w fun e w' => e = .returned (.string (out l s)) ∧ Below w.heap.size w w' := by
  by_cases h0 : l = []
  · have hs : seq l = ⟨#[]⟩ := by rw [h0]; rfl
    have ho : out l s = str s := by unfold out; rw [if_pos h0]
    rw [hs, ho]
    clear hl hc h0 hs ho
    generalize str s = S
    go_enter Tryd.func35, Tryd.ntmps35
    go_wp2_with (fail)
    go_ret
    exact ⟨rfl, Below.refl _ _⟩
  · have ho : out l s = seq l ++ str s ++ Esw.RST := by unfold out; rw [if_neg h0]
    have hcall := esc_call l s w h0 hb hl hc hs hn
    rw [← ho] at hcall
    have hz : (seq l).data.toList ≠ [] := by rw [seq_sq l h0, str_data]; unfold sq; simp
    clear hl hc h0 hs ho
    revert hcall hz
    generalize str s = S
    generalize seq l = Q
    generalize out l _ = O
    intro hcall hz
    have hq : Q.toList.isEmpty = false := by rw [toList_data]; simpa using hz
    clear hz
    have HC := Aside0.mk hcall
    clear hcall
    go_enter Tryd.func35, Tryd.ntmps35
    go_wp2_with (first
      | (go_at_call 19; refine HC.out.mono ?_; rintro e w1 ⟨rfl, hb1⟩))
    go_ret
    exact ⟨rfl, hb1⟩

theorem join_call (A : Option Addr) (c n : Nat) (xs : List ByteArray) (w : World) (hn : n = xs.length) (hr : Kd.C Kd.string w A n xs) (hc : n ≤ c) (h0 : 0 < n) (hm : n ≤ 2147483647) (hlen : (cat xs).length ≤ 6000) (hin : ∀ x, A = some x → x.block < w.heap.size) :
    Calls Tryd.prog 33 #[.slice A n c, .string ⟨#[]⟩] w fun e w' => e = .returned (.string (str (cat xs))) ∧ Below w.heap.size w w' := by
  subst hn
  obtain ⟨ad, rfl, hcell⟩ := Kd.at_string hr 0 (by omega) (by omega)
  have hsp := World.cell?_spot hcell
  obtain ⟨b, o, sp⟩ := ad
  obtain rfl : sp = none := by simpa [Addr.add] using hsp
  have hj : Lib.join (xs.map (·.data.toList)) (⟨#[]⟩ : ByteArray).data.toList = cat xs := join_plain xs
  refine (Tryd.strings_Join b o c xs ⟨#[]⟩ w ?_ (hin _ rfl) (by omega) hc (by rw [hj]; omega)).mono ?_
  · intro j x hx
    obtain ⟨ad2, he, hcell2⟩ := Kd.at_string hr (j : Int) (by omega) (by have := (List.getElem?_eq_some_iff.1 hx).1; omega)
    injection he with he
    subst he
    have hil := (List.getElem?_eq_some_iff.1 hx).1
    rw [rdOf_nat, Int.toNat_natCast, Small.getD_at _ _ _ hil] at hcell2
    rw [List.getElem?_eq_getElem hil] at hx
    rw [← Option.some.inj hx]
    have e : ({ block := b, off := o, spot := none } : Addr).add j = ⟨b, o + j, none⟩ := by cases j <;> rfl
    rw [← e]; exact hcell2
  · rintro e w1 ⟨rfl, hb1⟩
    rw [hj]
    exact ⟨rfl, hb1⟩

set_option linter.all false in
set_option maxRecDepth 100000 in
set_option maxHeartbeats 1000000 in
theorem sprint (A0 A1 : Option Addr) (c0 c1 n m : Nat) (l : List Int) (xs : List ByteArray) (w : World) (hn : n = l.length) (hr0 : Kd.C (Kd.int .i64) w A0 n l) (hc0 : n ≤ c0) (hb : n ≤ 60) (hl : ∀ c ∈ l, 0 ≤ c ∧ c < 1000)
    (hm : m = xs.length) (hr1 : Kd.C Kd.string w A1 m xs) (hc1 : m ≤ c1) (hmm : m ≤ 2147483647) (hc : Esp.Clean (cat xs)) (hs : cat xs ≠ []) (hlen : (cat xs).length ≤ 6000) (hin : ∀ x, A1 = some x → x.block < w.heap.size) :
    Calls Tryd.prog 23 #[.slice A0 n c0, .slice A1 m c1] w fun e w' => e = .returned (.string (out l (cat xs))) ∧ Below w.heap.size w w' := by
  have hpos : 0 < m := by
    rcases Nat.eq_zero_or_pos m with h | h
    · exact absurd (by rw [List.eq_nil_of_length_eq_zero (by omega : xs.length = 0)]; rfl) hs
    · exact h
  have HJ := join_call A1 c1 m xs w hm hr1 hc1 hpos hmm hlen hin
  have HE : ∀ w1, Below w.heap.size w w1 → Calls Tryd.prog 21 #[.slice A0 n c0] w1 fun e w' => e = .returned (.string (seq l)) ∧ Below w1.heap.size w1 w' := fun w1 h => esc A0 c0 n l w1 hn (Kd.C_below hr0 h) hc0 hb hl
  have HZ : ∀ w1, Calls Tryd.prog 35 #[.string (str (cat xs)), .string (seq l)] w1 fun e w' => e = .returned (.string (out l (cat xs))) ∧ Below w1.heap.size w1 w' := fun w1 => colz l (cat xs) w1 (by omega) hl hc hs hlen
  clear hr0 hr1 hl hc hs hlen hin
  revert HJ HE HZ
  generalize out l (cat xs) = O
  generalize str (cat xs) = S
  generalize seq l = Q
  intro HJ' HE' HZ'
  have HJ := Aside0.mk HJ'; have HE := Aside0.mk HE'; have HZ := Aside0.mk HZ'
  clear HJ' HE' HZ' hpos hn hm hmm hb hc0 hc1
  go_enter Tryd.func23, Tryd.ntmps23
  go_wp2_with (first
    | (go_at_call 33; refine HJ.out.mono ?_; rintro e w1 ⟨rfl, hb1⟩)
    | (go_at_call 21; refine (HE.out _ hb1).mono ?_; rintro e w2 ⟨rfl, hb2⟩)
    | (go_at_call 35; refine (HZ.out _).mono ?_; rintro e w3 ⟨rfl, hb3⟩))
  go_ret
  have hb12 := hb1.trans (hb2.mono hb1.size)
  exact ⟨rfl, hb12.trans (hb3.mono hb12.size)⟩

set_option linter.all false in
set_option maxRecDepth 100000 in
set_option maxHeartbeats 1000000 in
theorem tcp (A0 A1 : Option Addr) (c0 c1 n m : Nat) (l : List Int) (xs : List ByteArray) (w : World) (hn : n = l.length) (hr0 : Kd.C (Kd.int .i64) w A0 n l) (hc0 : n ≤ c0) (hb : n ≤ 60) (hl : ∀ c ∈ l, 0 ≤ c ∧ c < 1000)
    (hm : m = xs.length) (hr1 : Kd.C Kd.string w A1 m xs) (hc1 : m ≤ c1) (hmm : m ≤ 2147483647) (hc : Esp.Clean (cat xs)) (hs : cat xs ≠ []) (hlen : (cat xs).length ≤ 6000) (hin : ∀ x, A1 = some x → x.block < w.heap.size) :
    Calls Tryd.prog 16 #[.slice A0 n c0, .slice A1 m c1] w fun e w' => e = .returned (.string (out l (cat xs))) ∧ Below w.heap.size w w' := by
  subst hn
  obtain ⟨k, hk⟩ := Sq.colors_copy l hb l.length 0 (by omega)
  have HC : Calls Tryd.prog 20 #[.slice A0 l.length c0] w fun e w' => (∃ A c, e = .returned (.slice A l.length c) ∧ l.length ≤ c ∧ Kd.C (Kd.int .i64) w' A l.length l) ∧ Below w.heap.size w w' := by
    refine (GScBody.impl_colorsOf.calls k A0 c0 l l w hr0 hc0 hk).mono ?_
    rintro e w1 ⟨v, rfl, hR, hb1⟩
    obtain ⟨A, c, rfl, hcl, hC⟩ := Kd.R_reads hR
    exact ⟨⟨A, c, rfl, hcl, hC⟩, hb1⟩
  have HS : ∀ A c w1, Below w.heap.size w w1 → Kd.C (Kd.int .i64) w1 A l.length l → l.length ≤ c → Calls Tryd.prog 23 #[.slice A l.length c, .slice A1 m c1] w1 fun e w' => e = .returned (.string (out l (cat xs))) ∧ Below w1.heap.size w1 w' :=
    fun A c w1 h hC hcl => sprint A A1 c c1 l.length m l xs w1 rfl hC hcl hb hl hm (Kd.C_below hr1 h) hc1 hmm hc hs hlen (fun x hx => Nat.lt_of_lt_of_le (hin x hx) h.size)
  clear hr0 hr1 hl hc hs hlen hin hk
  revert HC HS
  generalize out l (cat xs) = O
  intro HC' HS'
  have HC := Aside0.mk HC'; have HS := Aside0.mk HS'
  clear HC' HS' hm hmm hb hc0 hc1
  go_enter Tryd.func16, Tryd.ntmps16
  go_wp2_with (first
    | (go_at_call 20; refine HC.out.mono ?_; rintro e w1 ⟨⟨A, c, rfl, hcl, hC⟩, hb1⟩)
    | (go_at_call 23; refine (HS.out A c _ hb1 hC hcl).mono ?_; rintro e w2 ⟨rfl, hb2⟩))
  go_ret
  exact ⟨rfl, hb1.trans (hb2.mono hb1.size)⟩
end Go.Proofs.YtenclpkeffhjaaaDoor.Clp
