/- Sequences of colors: the walks of Colors.EscapeSeq and of the reference's TxSequence. -/
import Derived.Test.YtenclpkeffhjaaaDoorShelf
import Derived.Test.YtenclpkeffhjaaaDoorGScBodyx
import Derived.Test.YtenclpkeffhjaaaDoorSmall
import Derived.Lib.LaidTab
import Derived.Test.YtenclpkeffhjaaaDoorFu
namespace Go.Proofs.YtenclpkeffhjaaaDoor.Es
open Go Go.RowKit Go.Proofs.YtenclpkeffhjaaaDoorW.PrintWords Go.Proofs.YtenclpkeffhjaaaDoorW.PrintLast Go.Proofs.YtenclpkeffhjaaaDoor.Small Go.Proofs.YtenclpkeffhjaaaDoor.GScBody

/-- the table of powers of ten lies as the text lays it -/
def Tb (w : World) : Prop := Lib.TabIs Tryd.prog w "internal/strconv.uint64pow10" .u64 Lib.pow10Tab
theorem Tb.below {w w' : World} (h : Tb w) (hb : Below w.heap.size w w') : Tb w' := by
  unfold Tb Lib.TabIs World.var? at h ⊢
  obtain ⟨g, hg, h⟩ := Option.bind_eq_some_iff.mp h
  rw [hg]
  simp only [Option.bind_some]
  have hlt : g < w.heap.size := by
    rcases Nat.lt_or_ge g w.heap.size with h1 | h1
    · exact h1
    · rw [Array.getElem?_eq_none h1] at h
      cases h
  rw [hb.block g hlt]
  exact h

/-- a color's code -/
def code (c : Int) : ByteArray := str (Lib.decDigits c.toNat)
def codes (l : List Int) : List ByteArray := l.map code
theorem codes_len (l : List Int) : (codes l).length = l.length := by simp [codes]
/-- the codes, with signs between them -/
def bodyTo (l : List Int) : Nat → List UInt8
  | 0 => []
  | j + 1 => bodyTo l j ++ (if j = 0 then [] else [59]) ++ Lib.decDigits (l.getD j 0).toNat
def seq (l : List Int) : ByteArray := if l = [] then str [] else str ([27, 91] ++ bodyTo l l.length ++ [109])

theorem wrap_u64 (c : Int) (h0 : 0 ≤ c) (h1 : c < 1000) : IntKind.u64.wrap c = c := by
  unfold IntKind.wrap
  simp [IntKind.bits, IntKind.signed]
  omega
theorem itoa_f (c : Int) (h0 : 0 ≤ c) (h1 : c < 1000) : lightstrconv_Itoa.f c = some (code c) := by
  unfold lightstrconv_Itoa.f lightstrconv_FormatInt.f lightstrconv_FormatUint.f
  rw [if_neg (by omega), wrap_u64 c h0 h1, if_pos ⟨h0, by omega, rfl⟩]
  rfl
theorem code_f (l : List Int) (c : Int) (h0 : 0 ≤ c) (h1 : c < 1000) : text_Colors_colorToCode.f 2 l c = some (code c) := by
  simp only [text_Colors_colorToCode.f, text_Colors_colorToCode.j0, text_Colors_colorToCode.j1, itoa_f c h0 h1]
  rw [if_neg (by omega), if_neg (by decide), if_neg (by omega), if_neg (by decide)]
  rfl
theorem attr (c : Int) : ∃ b, spec_TxAttribute.f c = some b ∧ (b = true → 1 ≤ c ∧ c ≤ 107) := by
  unfold spec_TxAttribute.f
  repeat' split
  all_goals first
    | exact ⟨_, rfl, fun _ => by omega⟩
    | exact ⟨_, rfl, fun h => by simp at h; omega⟩
    | exact ⟨_, rfl, fun h => by cases h⟩
theorem ccode (A0 : Option Addr) (c0 n : Nat) (l : List Int) (c : Int) (w : World) (hn : n = l.length) (hr0 : Kd.C (Kd.int .i64) w A0 n l) (hc0 : n ≤ c0) (h0 : 0 ≤ c) (h1 : c < 1000) :
    Calls Tryd.prog 32 #[.slice A0 n c0, .int .i64 c] w fun e w' => e = .returned (.string (code c)) ∧ Below w.heap.size w w' := by
  subst hn
  exact text_Colors_colorToCode.calls 2 A0 c0 l c (code c) w hr0 hc0 (code_f l c h0 h1)
theorem dig_len (c : Int) (h0 : 0 ≤ c) (h1 : c < 1000) : (Lib.decDigits c.toNat).length ≤ 3 := by
  obtain ⟨u, hu⟩ : ∃ u, u = c.toNat := ⟨_, rfl⟩
  have hu1 : u < 1000 := by omega
  rw [← hu]
  have one : ∀ v, v / 10 = 0 → (Lib.decDigits v).length = 1 := fun v h => by rw [(Fu.step_dec v).2 h]; rfl
  have more : ∀ v, 0 < v / 10 → (Lib.decDigits v).length = (Lib.decDigits (v / 10)).length + 1 := fun v h => by rw [(Fu.step_dec v).1 h]; simp
  rcases Nat.eq_zero_or_pos (u / 10) with h | h
  · rw [one u h]; omega
  · rw [more u h]
    rcases Nat.eq_zero_or_pos (u / 10 / 10) with h2 | h2
    · rw [one _ h2]; omega
    · rw [more _ h2, one _ (by omega)]; omega
theorem join_snoc (xs : List (List UInt8)) (y sep : List UInt8) (h : xs ≠ []) : Lib.join (xs ++ [y]) sep = Lib.join xs sep ++ sep ++ y := by
  cases xs with
  | nil => exact absurd rfl h
  | cons x r =>
    rw [List.cons_append, Lib.join_cons, Lib.join_cons]
    simp [Lib.joinTail, List.append_assoc]
theorem join_body (l : List Int) : ∀ j, j ≤ l.length → Lib.join ((codes (l.take j)).map (·.data.toList)) [59] = bodyTo l j
  | 0, _ => rfl
  | j + 1, h => by
    have ih := join_body l j (by omega)
    have e : (codes (l.take (j + 1))).map (·.data.toList) = (codes (l.take j)).map (·.data.toList) ++ [Lib.decDigits (l.getD j 0).toNat] := by
      rw [List.take_succ_eq_append_getElem (by omega : j < l.length)]
      simp only [codes, code, List.map_append, List.map_cons, List.map_nil, str_data]
      rw [getD_at _ _ _ (by omega : j < l.length)]
    rw [e]
    rcases Nat.eq_zero_or_pos j with rfl | hj
    · simp [codes, bodyTo, Lib.join_one]
    · rw [join_snoc _ _ _ (by
        intro h0
        have := congrArg List.length h0
        rw [List.length_map, codes_len, List.length_take, List.length_nil] at this
        omega), ih]
      simp only [bodyTo]
      rw [if_neg (by omega)]
theorem body_len (l : List Int) (hl : ∀ c ∈ l, 0 ≤ c ∧ c < 1000) : ∀ j, j ≤ l.length → (bodyTo l j).length ≤ 4 * j
  | 0, _ => by simp [bodyTo]
  | j + 1, h => by
    have ih := body_len l hl j (by omega)
    have hc : 0 ≤ l.getD j 0 ∧ l.getD j 0 < 1000 := by rw [getD_at _ _ _ (by omega : j < l.length)]; exact hl _ (List.getElem_mem _)
    have hd := dig_len _ hc.1 hc.2
    simp only [bodyTo, List.length_append]
    split
    · rw [List.length_nil]; omega
    · rw [List.length_singleton]; omega

theorem info9 : (Tryd.prog.info? 9).map (fun i => (i.zero, i.size, i.bytes)) = some (some (.string ⟨#[]⟩), 1, 16) := by kernel_rfl
theorem run_strs (n : Nat) (hn : n ≤ 60) (w : World) : (Instr.makeSlice 34 (.int .i64 0) (.int .i64 n)).run Tryd.prog w = .ok (.slice (some ⟨w.heap.size, 0, none⟩) 0 n) (w.alloc (.cells (madeCells #[.string ⟨#[]⟩] n) 9)) := by
  obtain ⟨i, hi, h0, h1, h2⟩ := info_parts info9
  have := run_make (P := Tryd.prog) (w := w) 34 9 i (.string ⟨#[]⟩) Tryd.underlying34 hi h0 .i64 .i64 0 n (by omega) (by omega) (by rw [h2]; omega) (by omega)
  rw [h1] at this
  simpa [Value.cells] using this

set_option linter.all false in
set_option maxRecDepth 100000 in
set_option maxHeartbeats 1000000 in
theorem esc (A0 : Option Addr) (c0 n : Nat) (l : List Int) (w : World) (hn : n = l.length) (hr0 : Kd.C (Kd.int .i64) w A0 n l) (hc0 : n ≤ c0) (hb : n ≤ 60) (hl : ∀ c ∈ l, 0 ≤ c ∧ c < 1000) :
    Calls Tryd.prog 21 #[.slice A0 n c0] w fun e w' => e = .returned (.string (seq l)) ∧ Below w.heap.size w w' := by
  have HC := Aside0.mk hr0; have HN := Aside0.mk hn; have HL := Aside0.mk hl
  rcases Nat.eq_zero_or_pos n with h0 | h0
  · have hl0 : l = [] := List.eq_nil_of_length_eq_zero (by omega)
    have hs : seq l = ⟨#[]⟩ := by rw [hl0]; rfl
    rw [hs]
    subst h0
    clear hr0 hn hl HC HN HL hl0 hs
    go_enter Tryd.func21, Tryd.ntmps21
    go_wp2_with (fail)
    go_ret
    exact ⟨rfl, Below.refl _ _⟩
  · have hz : ((n : Int) == 0) = false := by simp; omega
    have hmk := run_strs n hb
    have hlist : l ≠ [] := fun h => by rw [h] at hn; simp at hn; omega
    have HS : Aside0 (seq l = str ([27, 91] ++ bodyTo l l.length ++ [109])) := ⟨by unfold seq; rw [if_neg hlist]⟩
    clear hr0 hn hl hlist
    go_enter Tryd.func21, Tryd.ntmps21
    go_wp2_with (fail)
    go_loopw [3, 14] (fun v i wr => ∃ j : Nat, j ≤ n ∧ i = .int .i64 j ∧ Kd.R Kd.string 9 wr w.heap.size (fun _ => True) v (codes (l.take j)) ∧ Below w.heap.size w wr) (fun _ i _ => n - (RowKit.intOf i).toNat)
    case atStart => exact ⟨0, by omega, rfl, Kd.R_of_own (by simpa [encs, codes] using World.ownsRow_made w (madeCells #[.string ⟨#[]⟩] n) n (Nat.le_refl _) (by unfold maxLen; omega) (by rw [size_madeCells]; omega)) (fun _ _ => trivial), below_alloc (Below.refl _ _) _⟩
    case round =>
      obtain ⟨j, hj, rfl, HO, HB⟩ := hrel
      have hlen : (codes (l.take j)).length = j := by rw [codes_len, List.length_take, ← HN.out]; omega
      by_cases hlt : j < n
      · have hd : decide ((j : Int) < (n : Int)) = true := by simp; omega
        obtain ⟨ad, rfl, hcell⟩ := Kd.at_int (Kd.C_below HC.out HB) (j : Int) (by omega) (by omega)
        rw [rd_nat, Int.toNat_natCast] at hcell
        obtain ⟨c, hc⟩ : ∃ c, c = l.getD j 0 := ⟨_, rfl⟩
        rw [← hc] at hcell
        have hcr : 0 ≤ c ∧ c < 1000 := by
          have := HN.out
          rw [hc, getD_at _ _ _ (by omega)]; exact HL.out _ (List.getElem_mem _)
        have HCC := Aside0.mk hc; have HOA := Aside0.mk HO
        clear hc HO
        go_wp2_with (first
          | (go_at_call 32; refine (ccode _ c0 n l c _ HN.out (Kd.C_below HC.out HB) hc0 hcr.1 hcr.2).mono ?_; rintro e w1 ⟨rfl, hb1⟩; replace HB := HB.trans (hb1.mono HB.size); have HO1 := Aside0.mk (Kd.R_below HOA.out hb1); clear hb1 HOA)
          | ((with_reducible refine gate_builtin (b := .append) (xs := #[.tmp 18, .tmp 22]) rfl ?_); at_builtin; refine Kd.R_append Kd.string (w0 := w) w.heap.size rfl (.tmp 18) (.tmp 22) 34 9 (.string ⟨#[]⟩) 16 rfl Tryd.underlying34 info9 rfl (by decide) (by omega) _ (codes (l.take j)) (code c) [.string (code c)] (fun _ => True) (fun _ => False) rfl rfl rfl (fun _ hk => hk.elim) (fun _ _ => trivial) HO1.out HB HB.size (by rw [hlen]; omega) ?_; intro v1 w2 HO2 HB2 hg2 ha2; clear hg2 ha2))
        go_roundw
        case rel =>
          refine ⟨j + 1, hlt, rfl, ?_, HB2⟩
          have e : codes (l.take (j + 1)) = codes (l.take j) ++ [code c] := by
            have := HN.out
            rw [List.take_succ_eq_append_getElem (by omega : j < l.length), HCC.out, getD_at _ _ _ (by omega : j < l.length)]
            simp only [codes, List.map_append, List.map_cons, List.map_nil]
          rw [e]; exact HO2
        case measure => simp [RowKit.intOf]; omega
      · have hd : decide ((j : Int) < (n : Int)) = false := by simp; omega
        obtain rfl : j = n := by omega
        rw [HN.out, List.take_length] at HO
        have hcl := codes_len l
        have hj1 : (codes l).length = j := by rw [hcl]; exact HN.out.symm
        have HJ : Aside0 (Lib.join ((codes l).map (·.data.toList)) [59] = bodyTo l l.length) := ⟨by have := join_body l l.length (Nat.le_refl _); rwa [List.take_length] at this⟩
        have HBL := Aside0.mk (body_len l HL.out l.length (Nat.le_refl _))
        rcases (Kd.own_of_R HO).2 with ⟨rfl, hz0⟩ | ⟨g, cap, cur, rfl, hg, hh, hcp, _⟩
        · omega
        · have hgl : g < wr.heap.size := (Array.getElem?_eq_some_iff.1 hh).1
          have hcells : ∀ (i : Nat) x, (codes l)[i]? = some x → wr.cell? ⟨g, 0 + i, none⟩ = some (.string x) := fun i x hi => by
            have hil := (List.getElem?_eq_some_iff.1 hi).1
            have := (Kd.R_celln ByteArray.empty HO (i : Int) (by omega) (by omega)).1
            rw [rdOf_nat, Int.toNat_natCast, getD_at _ _ _ hil] at this
            rw [Nat.zero_add, this]
            rw [List.getElem?_eq_getElem hil] at hi
            rw [Option.some.inj hi]
          have HCE := Aside0.mk hcells
          clear hh hcells HO
          rw [hj1] at hcp ⊢
          obtain ⟨J, hJ⟩ : ∃ J, J = str (bodyTo l l.length) := ⟨_, rfl⟩
          have hJs : J.size ≤ 240 := by rw [hJ, str_size]; have := HBL.out; have := HN.out; omega
          have HJE := Aside0.mk hJ
          have hjoin : Calls Tryd.prog 33 #[.slice (some ⟨g, 0, none⟩) j cap, .string ⟨#[59]⟩] wr fun e w' => e = .returned (.string J) ∧ Below w.heap.size w w' := by
            rw [← hj1]
            refine (Tryd.strings_Join g 0 cap (codes l) ⟨#[59]⟩ wr HCE.out hgl (by omega) (by omega) (by show (Lib.join ((codes l).map (·.data.toList)) [59]).length ≤ _; rw [HJ.out]; have := HBL.out; have := HN.out; omega)).mono ?_
            rintro e w1 ⟨rfl, hb1⟩
            refine ⟨?_, HB.trans (hb1.mono HB.size)⟩
            have hJ2 : Lib.join ((codes l).map (·.data.toList)) [59] = bodyTo l l.length := HJ.out
            rw [hJ]
            show Ending.returned (.string ⟨(Lib.join ((codes l).map (·.data.toList)) [59]).toArray⟩) = _
            rw [hJ2]; rfl
          clear HCE HJ hJ
          go_wp2_with (first
            | (go_at_call 33; refine hjoin.mono ?_; rintro e w1 ⟨rfl, hb1⟩))
          go_ret
          refine ⟨?_, hb1⟩
          rw [HS.out, HJE.out]
          rfl
end Go.Proofs.YtenclpkeffhjaaaDoor.Es
