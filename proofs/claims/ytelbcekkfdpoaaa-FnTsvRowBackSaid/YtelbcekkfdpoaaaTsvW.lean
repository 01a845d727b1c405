/- The walk of a row in TSV. -/
import Derived.Test.YtelbcekkfdpoaaaTsvH
import Derived.Test.YtelbcekkfdpoaaaBlu
import Derived.Laws.Tables
namespace Go.Proofs.Ytelbcekkfdpoaaa.TsvW
open Go.RowKit Go.Lib Go.Proofs.Ytelbcekkfdpoaaa.Blt Go.Proofs.Ytelbcekkfdpoaaa.GTsvHelp Go.Proofs.Ytelbcekkfdpoaaa.Small Go.Proofs.YtelbcekkfdpoaaaW.PrintWords

def tcells (n : Int) : Array Value := #[Value.int IntKind.i64 0, Value.bool false, Value.int IntKind.i64 0, Value.string { data := #[] },
          Value.slice none 0 0, Value.slice none 0 0, Value.map none, Value.string { data := #[] }, Value.bool false,
          Value.string { data := #[] }, Value.int IntKind.i64 0, Value.slice none 0 0, Value.map none,
          Value.int IntKind.i64 0, Value.int IntKind.i64 n, Value.int IntKind.i64 0, Value.int IntKind.i64 0,
          Value.slice none 0 0, Value.int IntKind.i64 0, Value.string { data := #[] }, Value.slice none 0 0,
          Value.slice none 0 0, Value.map none, Value.slice none 0 0, Value.slice none 0 0, Value.slice none 0 0,
          Value.map none, Value.slice none 0 0, Value.slice none 0 0, Value.map none, Value.slice none 0 0,
          Value.nilFunc, Value.nilFunc, Value.map none, Value.map none, Value.map none, Value.slice none 0 0,
          Value.slice none 0 0, Value.slice none 0 0, Value.pointer none, Value.bool false, Value.bool false,
          Value.string { data := #[] }]
theorem built79 (n : Int) : Try.prog.built 79 [(14, .int .i64 n), (1, .bool false)] = some (tcells n) := by kernel_rfl

theorem build79 {ops : Array Oper} {rest : List Oper} {o : Oper} {a : Act} {w : World} {Q : Exit → Act → World → Prop} {n : Int} (x y : Operand) (hg : o.guard = none) (ho : o.op = .build 79 #[(14, x), (1, y)]) (hx : a.eval x = .int .i64 n) (hy : a.eval y = .bool false)
    (h : wpList Try.prog ops Q rest (a.put o.dst (.agg (tcells n))) w) : wpList Try.prog ops Q (o :: rest) a w := by
  have e : (#[(14, x), (1, y)].map fun (i, x) => (i, a.eval x)).toList = [(14, .int .i64 n), (1, .bool false)] := by simp [hx, hy]
  refine wpList_build hg 79 _ ho ?_ ?_
  · rw [e, built79]; rfl
  · rw [e, built79]; exact h

/-- in quotes or not: as the searching functions tell -/
noncomputable def qd (l : List UInt8) : Bool := if h : l.length ≤ 100000 then Classical.choose (TsvH.cell l h) else false
noncomputable def wq (l : List UInt8) : List UInt8 := if qd l = true then [34] ++ TsvH.twice l ++ [34] else l
noncomputable def part (l : List ByteArray) : Nat → List UInt8
  | 0 => []
  | i + 1 => part l i ++ (if i = 0 then [] else [9]) ++ wq (l.getD i ByteArray.empty).data.toList
theorem qd_spec (l : List UInt8) (h : l.length ≤ 100000) : (qd l = false → ∀ b ∈ l, b ≠ 9 ∧ b ≠ 10 ∧ b ≠ 34) ∧ ∃ a b : Bool, (a || b) = qd l ∧ (∃ k, table_zzContainsAny.f k (str l) TsvH.CH = some a) ∧ (∃ k, table_zzContains.f k (str l) ⟨#[32, 32, 32, 32]⟩ = some b) ∧ (∃ k, table_zzReplaceAll.f k (str l) ⟨#[34]⟩ ⟨#[34, 34]⟩ = some (str (TsvH.twice l))) := by
  unfold qd
  rw [dif_pos h]
  exact Classical.choose_spec (TsvH.cell l h)
theorem wq_length (l : List UInt8) : (wq l).length ≤ 2 * l.length + 2 := by
  unfold wq
  have := TsvH.twice_length l
  split <;> simp <;> omega
theorem part_length (l : List ByteArray) (hl : ∀ c ∈ l, c.size ≤ 2000) : ∀ i, i ≤ l.length → (part l i).length ≤ i * 4003
  | 0, _ => by simp [part]
  | i + 1, h => by
    have h1 := part_length l hl i (by omega)
    have h2 : (l.getD i ByteArray.empty).size ≤ 2000 := by rw [getD_at _ _ _ (by omega)]; exact hl _ (List.getElem_mem _)
    have h3 := wq_length (l.getD i ByteArray.empty).data.toList
    rw [size_data] at h3
    have h4 : (if i = 0 then [] else [9] : List UInt8).length ≤ 1 := by split <;> simp
    simp only [part, List.length_append]
    omega

theorem bld_below {T e : TypeId} {B b : Nat} {bs : List Value} {w w' : World} (h : IsBuilderF T e B b bs w) (hw : Below w.heap.size w w') : IsBuilderF T e B b bs w' := by
  have hx : ∀ p, BuilderAtF T e B b p bs w → BuilderAtF T e B b p bs w' := fun p ⟨hB, v, hb, hown, hne⟩ => ⟨hB, v, get_below hw (lt_of_get hb) hb, hown.kept (grown_of_below hw none) (by cases h : v.ownBlock with | none => exact .inl rfl | some k => exact .inr (by simp)), hne⟩
  exact h.elim (fun h => .inl (hx _ h)) (fun h => .inr (hx _ h))

theorem runeCells_tab : runeCells 9 = byteCells [9] := by kernel_rfl

/-- what a round keeps: the builder's octets, the table's block, and all that was there -/
def St (w0 : World) (tg b : Nat) (N : Nat) (l : List UInt8) (wr : World) : Prop :=
  IsBuilderF 82 5 w0.heap.size b (byteCells l) wr ∧ wr.heap[tg]? = some (.cells (tcells N) 79 (0, 0)) ∧ Below w0.heap.size w0 wr
section
variable {w0 wr w' : World} {tg b N : Nat} {l : List UInt8}
theorem St.below (h : St w0 tg b N l wr) (hw : Below wr.heap.size wr w') : St w0 tg b N l w' :=
  ⟨bld_below h.1 hw, get_below hw (lt_of_get h.2.1) h.2.1, h.2.2.trans (hw.mono h.2.2.size)⟩
theorem St.alloc (h : St w0 tg b N l wr) (o : Obj) : St w0 tg b N l (wr.alloc o) := h.below ((Below.refl _ _).alloc (Nat.le_refl _) o)
theorem St.tab1 (h : St w0 tg b N l wr) : wr.cell? ⟨tg, 1, none⟩ = some (.bool false) := by rw [Lib.cell_of_heap h.2.1]; rfl
theorem St.tab14 (h : St w0 tg b N l wr) : wr.cell? ⟨tg, 14, none⟩ = some (.int .i64 N) := by rw [Lib.cell_of_heap h.2.1]; rfl
theorem St.wstr (h : St w0 tg b N l wr) (s : ByteArray) (hs : l.length + s.size ≤ 140737488355328) :
    Calls Try.prog 36 #[.pointer (some ⟨b, 0, none⟩), .string s] wr fun e w' => e = .returned (.tuple #[.int .i64 s.size, .nilIface]) ∧ St w0 tg b N (l ++ s.data.toList) w' := by
  refine (ws w0.heap.size b (byteCells l) s wr h.1 (by rw [byteCells_length]; exact hs) h.2.2.size).mono ?_
  rintro e w' ⟨he, hb, hw, ho⟩
  refine ⟨he, ?_, keep ho h.2.1 (apart h.1 h.2.1 (by decide)) (fun c fz hc => by simp at hc), h.2.2.trans hw⟩
  rw [byteCells_append]; exact hb
theorem St.wtab (h : St w0 tg b N l wr) (hs : l.length + 4 ≤ 140737488355328) :
    Calls Try.prog 34 #[.pointer (some ⟨b, 0, none⟩), .int .i32 9] wr fun e w' => (∃ v, e = .returned v) ∧ St w0 tg b N (l ++ [9]) w' := by
  refine (Blt.wr w0.heap.size b (byteCells l) 9 (by omega) (by omega) wr h.1 (by rw [byteCells_length]; exact hs) h.2.2.size).mono ?_
  rintro e w' ⟨he, hb, hw, ho⟩
  refine ⟨⟨_, he⟩, ?_, keep ho h.2.1 (apart h.1 h.2.1 (by decide)) (fun c fz hc => by simp at hc), h.2.2.trans hw⟩
  rw [byteCells_append, ← runeCells_tab]; exact hb
end

set_option maxRecDepth 100000 in
set_option maxHeartbeats 400000 in
theorem render_any (w0 w : World) (tg b : Nat) (A0 : Option Addr) (c0 : Nat) (l0 : List ByteArray) (hC : Kd.C Kd.string w0 A0 l0.length l0) (hS : St w0 tg b l0.length [] w) (hl : ∀ c ∈ l0, c.size ≤ 2000) (hn : l0.length ≤ 2001) :
    Calls Try.prog 27 #[.pointer (some ⟨tg, 0, none⟩), .pointer (some ⟨b, 0, none⟩), .slice A0 l0.length c0, .agg #[.bool false, .bool false, .bool false, .bool false, .bool false, .bool false, .bool false, .bool false, .bool false, .bool false, .bool false, .int .i64 0, .int .i64 0, .int .i64 0]] w
      fun e w' => e = .returned (.tuple #[]) ∧ St w0 tg b l0.length (part l0 l0.length) w' := by
  obtain ⟨N, hN⟩ : ∃ N, N = l0.length := ⟨_, rfl⟩
  rw [← hN] at hS hn hC ⊢
  have HC := Aside0.mk hC; have HL := Aside0.mk hl; have HN := Aside0.mk hN
  clear hC hl hN
  go_enter Try.func27, Try.ntmps27
  go_wp2_with (first
    | (go_at_call 33; refine (Any.Builder_Len_f Try.bl170 w0.heap.size b [] _ (hS.alloc _).1).mono ?_; rintro e w1 ⟨rfl, rfl⟩))
  go_loopw [18] (fun i wr => ∃ j : Nat, j ≤ N ∧ i = .int .i64 j ∧ St w0 tg b N (part l0 j) wr) (fun i _ => N - (RowKit.intOf i).toNat)
  case atStart => exact ⟨0, by omega, rfl, hS.alloc _⟩
  case round =>
    obtain ⟨j, hj, rfl, hR⟩ := hrel
    by_cases hlt : j < N
    · obtain ⟨c, hc⟩ : ∃ c, c = l0.getD j ByteArray.empty := ⟨_, rfl⟩
      obtain ⟨ad, rfl, hcell⟩ := Kd.at_string (Kd.C_below HC.out hR.2.2) (j : Int) (by omega) (by omega)
      rw [rdOf_nat, ← hc, Int.toNat_natCast] at hcell
      have hcl : c.size ≤ 2000 := by rw [hc, getD_at _ _ _ (by rw [← HN.out]; exact hlt)]; exact HL.out _ (List.getElem_mem _)
      obtain ⟨hq, a, bb, hab, ⟨ka, hka⟩, ⟨kb, hkb⟩, ⟨kr, hkr⟩⟩ := qd_spec c.data.toList (by rw [size_data]; omega)
      rw [str_of] at hka hkb hkr
      have hpl := part_length l0 HL.out j (by rw [← HN.out]; omega)
      have t1 := hR.tab1
      have hnext : part l0 (j + 1) = part l0 j ++ (if j = 0 then [] else [9]) ++ (if (a || bb) = true then [34] ++ TsvH.twice c.data.toList ++ [34] else c.data.toList) := by
        rw [hab]; simp only [part, ← hc]; rfl
      have hsz2 : (str (TsvH.twice c.data.toList)).size ≤ 4000 := by
        have := TsvH.twice_length c.data.toList
        rw [size_data] at this; rw [str_size]; omega
      have KA := Aside0.mk hka; have KB := Aside0.mk hkb; have KR := Aside0.mk hkr; have HX := Aside0.mk hnext
      clear hc hq hab hka hkb hkr hnext
      have hd : decide ((j : Int) < (N : Int)) = true := by simp; omega
      have q1 : (⟨#[34]⟩ : ByteArray).size = 1 := rfl
      have q2 : (⟨#[34]⟩ : ByteArray).data.toList = [34] := rfl
      have hlt1 : j + 1 ≤ N := hlt
      have S := hR
      rcases Nat.eq_zero_or_pos j with rfl | hj0
      · have hcell0 : wr.cell? ad = some (.string c) := by rw [show ad.add 0 = ad from by cases ad; rfl] at hcell; exact hcell
        have HZ : Aside0 ((0 : Nat) = 0) := Aside0.mk rfl
        cases a <;> cases bb
        all_goals
          go_wp2_with (first
            | (go_at_call 34; refine (S.wtab (by omega)).mono ?_; rintro e w1 ⟨⟨v1, rfl⟩, S1⟩; replace S := S1; clear S1)
            | (go_at_call 38; refine (table_zzContainsAny.calls ka c TsvH.CH _ _ KA.out).mono ?_; rintro e w2 ⟨rfl, hb2⟩; replace S := S.below hb2)
            | (go_at_call 39; refine (table_zzContains.calls kb c _ _ _ KB.out).mono ?_; rintro e w3 ⟨rfl, hb3⟩; replace S := S.below hb3.below)
            | (go_at_call 40; refine (table_zzReplaceAll.calls kr c ⟨#[34]⟩ ⟨#[34, 34]⟩ _ _ KR.out).mono ?_; rintro e w3 ⟨rfl, hb3⟩; replace S := S.below hb3)
            | (go_at_call 36; refine (S.wstr _ (by simp only [ByteArray.size_append, List.length_append, List.length_singleton, part, List.length_nil, q1]; omega)).mono ?_; rintro e w4 ⟨rfl, S4⟩))
          go_roundw
          case rel =>
            refine ⟨_, hlt, rfl, ?_⟩
            rw [HX.out]
            simpa [ByteArray.data_append, q2, str_data, HZ.out] using S4
          case measure => first | (simp only [RowKit.intOf]; omega) | (simp [RowKit.intOf]; omega)
      · have hjz : ((j : Int) == 0) = false := by simp; omega
        have hjp : decide ((j : Int) > 0) = true := by simp; omega
        have HZ : Aside0 (¬ j = 0) := Aside0.mk (by omega)
        cases a <;> cases bb
        all_goals
          go_wp2_with (first
            | (go_at_call 34; refine (S.wtab (by omega)).mono ?_; rintro e w1 ⟨⟨v1, rfl⟩, S1⟩; replace S := S1; clear S1)
            | (go_at_call 38; refine (table_zzContainsAny.calls ka c TsvH.CH _ _ KA.out).mono ?_; rintro e w2 ⟨rfl, hb2⟩; replace S := S.below hb2)
            | (go_at_call 39; refine (table_zzContains.calls kb c _ _ _ KB.out).mono ?_; rintro e w3 ⟨rfl, hb3⟩; replace S := S.below hb3.below)
            | (go_at_call 40; refine (table_zzReplaceAll.calls kr c ⟨#[34]⟩ ⟨#[34, 34]⟩ _ _ KR.out).mono ?_; rintro e w3 ⟨rfl, hb3⟩; replace S := S.below hb3)
            | (go_at_call 36; refine (S.wstr _ (by simp only [ByteArray.size_append, List.length_append, List.length_singleton, part, List.length_nil, q1]; omega)).mono ?_; rintro e w4 ⟨rfl, S4⟩))
          go_roundw
          case rel =>
            refine ⟨_, hlt, rfl, ?_⟩
            rw [HX.out]
            simpa [ByteArray.data_append, q2, str_data, HZ.out] using S4
          case measure => first | (simp only [RowKit.intOf]; omega) | (simp [RowKit.intOf]; omega)
    · obtain rfl : j = N := by omega
      have t14 := hR.tab14
      have e1 : decide ((j : Int) < (j : Int)) = false := by simp
      go_wp2_with fail
      refine wp_loop_once ?_
      go_wp2_with fail
      go_end0
      exact ⟨rfl, hR⟩

set_option maxRecDepth 100000 in
set_option maxHeartbeats 400000 in
theorem row_any (A0 : Option Addr) (c0 : Nat) (l0 : List ByteArray) (w : World) (hC : Kd.C Kd.string w A0 l0.length l0) (hl : ∀ c ∈ l0, c.size ≤ 2000) (hn : l0.length ≤ 2001) :
    Calls Try.prog 22 #[.slice A0 l0.length c0, .int .i64 l0.length, .bool false, .int .i64 0] w fun e w' => e = .returned (.string (str (part l0 l0.length))) ∧ Below w.heap.size w w' := by
  have HC := Aside0.mk hC; have HL := Aside0.mk hl
  clear hC hl
  go_enter Try.func22, Try.ntmps22
  go_wp2_with (first
    | ((with_reducible refine gate_dst (N := 13) rfl ?_); refine build79 (n := l0.length) (.tmp 11) (.tmp 12) rfl rfl rfl rfl ?_)
    | (go_at_call 27
       have hS : St w w.heap.size (w.heap.size + 1) l0.length [] ((w.alloc (.cells (tcells l0.length) 79)).alloc (.cells #[.pointer none, .slice none 0 0] 82)) := ⟨.inl ⟨by omega, _, get_alloc_next _ _ _, World.ownsRowF_nil _ _ _ _, by simp [Value.ownBlock]⟩, alloc_get (get_alloc_self _ _) _, ((Below.refl _ w).alloc (Nat.le_refl _) _).alloc (by simp) _⟩
       refine (render_any w _ w.heap.size (w.heap.size + 1) A0 c0 l0 HC.out hS HL.out hn).mono ?_; rintro e w3 ⟨rfl, S3⟩)
    | (go_at_call 28; refine (Try.Builder_String_any_k w.heap.size (w.heap.size + 1) _ w3 S3.1 S3.2.2.size).mono ?_; rintro e w4 ⟨rfl, hb4, hw4, _⟩))
  go_ret
  exact ⟨rfl, S3.2.2.trans hw4⟩
end Go.Proofs.Ytelbcekkfdpoaaa.TsvW
