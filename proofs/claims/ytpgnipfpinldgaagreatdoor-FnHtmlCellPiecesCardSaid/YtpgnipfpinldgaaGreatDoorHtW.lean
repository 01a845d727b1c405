/- The walk of a cell in HTML: impl.HtmlCell without spans. -/
import Derived.Test.YtpgnipfpinldgaaGreatDoorHtp
import Derived.Test.YtpgnipfpinldgaaGreatDoorBld
import Derived.Lib.OthersKept
import Derived.Laws.Tables
import Derived.Deep.DeepMust
namespace Go.Proofs.YtpgnipfpinldgaaGreatDoor.HtW
open Go Go.RowKit Go.Lib Go.Proofs.YtpgnipfpinldgaaGreatDoor.GHtBody Go.Proofs.YtpgnipfpinldgaaGreatDoorW.PrintWords Go.Proofs.YtpgnipfpinldgaaGreatDoorW.PrintLast Go.Proofs.YtpgnipfpinldgaaGreatDoorW.PrintMore Go.Proofs.YtpgnipfpinldgaaGreatDoor.Small Go.Proofs.YtpgnipfpinldgaaGreatDoor.Htp

def ocells (e : Bool) (q : ByteArray) : Array Value := #[.bool false, .string ⟨#[]⟩, .string ⟨#[]⟩, .bool e, .string q]
def scells (e : Bool) (q : ByteArray) : Array Value := #[.string ⟨#[]⟩, .string ⟨#[]⟩, .string ⟨#[]⟩, .string ⟨#[]⟩, .string ⟨#[]⟩, .string ⟨#[]⟩, .string ⟨#[]⟩, .string ⟨#[]⟩, .string ⟨#[]⟩, .string ⟨#[]⟩, .string ⟨#[]⟩, .string ⟨#[]⟩, .string ⟨#[]⟩, .string ⟨#[]⟩, .string ⟨#[]⟩, .string ⟨#[]⟩, .string ⟨#[]⟩, .string ⟨#[]⟩, .string ⟨#[]⟩, .pointer none, .slice none 0 0, .slice none 0 0, .slice none 0 0, .slice none 0 0, .slice none 0 0, .slice none 0 0, .slice none 0 0, .bool false, .int .i64 0, .int .i64 0, .int .i64 0, .int .i64 0, .int .i64 0, .int .i64 0, .int .i64 0, .int .i64 0, .int .i64 0, .int .i64 0, .bool false, .string ⟨#[]⟩, .string ⟨#[]⟩, .bool e, .string q, .bool false, .bool false, .bool false, .bool false, .bool false, .bool false, .bool false, .bool false, .int .i64 0, .int .i64 0, .int .i64 0, .slice none 0 0, .int .i64 0]
def tcells (g : Nat) : Array Value := #[.int .i64 0, .bool false, .int .i64 0, .string ⟨#[]⟩, .slice none 0 0, .slice none 0 0, .map none, .string ⟨#[]⟩, .bool false, .string ⟨#[]⟩, .int .i64 0, .slice none 0 0, .map none, .int .i64 0, .int .i64 0, .int .i64 0, .int .i64 0, .slice none 0 0, .int .i64 0, .string ⟨#[]⟩, .slice none 0 0, .slice none 0 0, .map none, .slice none 0 0, .slice none 0 0, .slice none 0 0, .map none, .slice none 0 0, .slice none 0 0, .map none, .slice none 0 0, .nilFunc, .nilFunc, .map none, .map none, .map none, .slice none 0 0, .slice none 0 0, .slice none 0 0, .pointer (some ⟨g, 0, none⟩), .bool false, .bool false, .string ⟨#[]⟩]
theorem built26 (e : Bool) (q : ByteArray) : Tryz.prog.built 26 [(0, .bool false), (3, .bool e), (4, .string q)] = some (ocells e q) := by kernel_rfl
theorem built57 (e : Bool) (q : ByteArray) : Tryz.prog.built 57 [(5, .agg (ocells e q))] = some (scells e q) := by kernel_rfl
theorem built81 (g : Nat) : Tryz.prog.built 81 [(37, .pointer (some ⟨g, 0, none⟩))] = some (tcells g) := by kernel_rfl
theorem b26 {ops : Array Oper} {rest : List Oper} {o : Oper} {a : Act} {w : World} {Q : Exit → Act → World → Prop} {e : Bool} {q : ByteArray} (x y z : Operand) (hg : o.guard = none) (ho : o.op = .build 26 #[(0, x), (3, y), (4, z)]) (hx : a.eval x = .bool false) (hy : a.eval y = .bool e) (hz : a.eval z = .string q)
    (h : wpList Tryz.prog ops Q rest (a.put o.dst (.agg (ocells e q))) w) : wpList Tryz.prog ops Q (o :: rest) a w := by
  have e1 : (#[(0, x), (3, y), (4, z)].map fun (i, x) => (i, a.eval x)).toList = [(0, .bool false), (3, .bool e), (4, .string q)] := by simp [hx, hy, hz]
  refine wpList_build hg 26 _ ho ?_ ?_
  · rw [e1, built26]; rfl
  · rw [e1, built26]; exact h
theorem b57 {ops : Array Oper} {rest : List Oper} {o : Oper} {a : Act} {w : World} {Q : Exit → Act → World → Prop} {e : Bool} {q : ByteArray} (x : Operand) (hg : o.guard = none) (ho : o.op = .build 57 #[(5, x)]) (hx : a.eval x = .agg (ocells e q))
    (h : wpList Tryz.prog ops Q rest (a.put o.dst (.agg (scells e q))) w) : wpList Tryz.prog ops Q (o :: rest) a w := by
  have e1 : (#[(5, x)].map fun (i, x) => (i, a.eval x)).toList = [(5, .agg (ocells e q))] := by simp [hx]
  refine wpList_build hg 57 _ ho ?_ ?_
  · rw [e1, built57]; rfl
  · rw [e1, built57]; exact h
theorem b81 {ops : Array Oper} {rest : List Oper} {o : Oper} {a : Act} {w : World} {Q : Exit → Act → World → Prop} {g : Nat} (x : Operand) (hg : o.guard = none) (ho : o.op = .build 81 #[(37, x)]) (hx : a.eval x = .pointer (some ⟨g, 0, none⟩))
    (h : wpList Tryz.prog ops Q rest (a.put o.dst (.agg (tcells g))) w) : wpList Tryz.prog ops Q (o :: rest) a w := by
  have e1 : (#[(37, x)].map fun (i, x) => (i, a.eval x)).toList = [(37, .pointer (some ⟨g, 0, none⟩))] := by simp [hx]
  refine wpList_build hg 81 _ ho ?_ ?_
  · rw [e1, built81]; rfl
  · rw [e1, built81]; exact h

theorem ws (B b : Nat) (bs : List Value) (s : ByteArray) (w : World) (h : IsBuilderF 30 5 B b bs w) (hlen : bs.length + s.size ≤ 140737488355328) (hBw : B ≤ w.heap.size) :
    Calls Tryz.prog 11 #[.pointer (some ⟨b, 0, none⟩), .string s] w fun e w' => e = .returned (.tuple #[.int .i64 s.size, .nilIface]) ∧ IsBuilderF 30 5 B b (bs ++ strCells s) w' ∧ Below B w w' :=
  (Any.Builder_WriteString_k Tryz.bl166 Tryz.bx166 B b bs s w h hlen hBw).mono fun _ _ h => ⟨h.1, .inr h.2.1, h.2.2.1⟩
theorem bld_below {T e : TypeId} {B b : Nat} {bs : List Value} {w w' : World} (h : IsBuilderF T e B b bs w) (hw : Below w.heap.size w w') : IsBuilderF T e B b bs w' := by
  have lt : ∀ {k : Nat} {o : Obj}, w.heap[k]? = some o → k < w.heap.size := fun h => (Array.getElem?_eq_some_iff.1 h).1
  have gr : w.grownBy w' none := ⟨hw.os, hw.tape, hw.output, hw.size, fun i hi _ => hw.block i hi⟩
  have hx : ∀ p, BuilderAtF T e B b p bs w → BuilderAtF T e B b p bs w' := fun p ⟨hB, v, hb, hown, hne⟩ => ⟨hB, v, by rw [hw.block _ (lt hb)]; exact hb, hown.kept gr (by cases h : v.ownBlock with | none => exact .inl rfl | some k => exact .inr (by simp)), hne⟩
  exact h.elim (fun h => .inl (hx _ h)) (fun h => .inr (hx _ h))

set_option linter.all false in
set_option maxRecDepth 100000 in
set_option maxHeartbeats 1000000 in
theorem render (w0 w : World) (tg sg b : Nat) (e : Bool) (s q : ByteArray) (ht : w.heap[tg]? = some (.cells (tcells sg) 81 (0, 0))) (hs : w.heap[sg]? = some (.cells (scells e q) 57 (0, 0))) (hb : IsBuilderF 30 5 w0.heap.size b [] w) (hB : Below w0.heap.size w0 w) (hsl : s.size ≤ 700) (hql : q.size ≤ 20) :
    Calls Tryz.prog 6 #[.pointer (some ⟨tg, 0, none⟩), .pointer (some ⟨b, 0, none⟩), .string s] w fun x w' => x = .returned (.tuple #[]) ∧ IsBuilderF 30 5 w0.heap.size b (byteCells (htm e q.data.toList s.data.toList)) w' ∧ Below w0.heap.size w0 w' := by
  have t39 : w.cell? ⟨tg, 39, none⟩ = some (.pointer (some ⟨sg, 0, none⟩)) := by rw [Lib.cell_of_heap ht]; rfl
  have s38 : w.cell? ⟨sg, 38, none⟩ = some (.bool false) := by rw [Lib.cell_of_heap hs]; rfl
  have s41 : w.cell? ⟨sg, 41, none⟩ = some (.bool e) := by rw [Lib.cell_of_heap hs]; rfl
  have s42 : w.cell? ⟨sg, 42, none⟩ = some (.string q) := by rw [Lib.cell_of_heap hs]; rfl
  have hltt : tg < w.heap.size := (Array.getElem?_eq_some_iff.1 ht).1
  have hlts : sg < w.heap.size := (Array.getElem?_eq_some_iff.1 hs).1
  obtain ⟨ke, he⟩ := esc s.data.toList (by rw [size_data]; omega)
  rw [str_of] at he
  -- the text after the escape
  obtain ⟨m, hm, hml⟩ : ∃ m : ByteArray, m = str (if e = true then escL s.data.toList else s.data.toList) ∧ m.size ≤ 3500 := by
    refine ⟨_, rfl, ?_⟩
    rw [str_size]
    have := escL_len s.data.toList
    rw [size_data] at this
    split
    · omega
    · rw [size_data]; omega
  obtain ⟨kr, hr⟩ := replace m.data.toList q.data.toList (by rw [size_data]; omega) (by rw [size_data]; omega)
  rw [str_of, str_of] at hr
  have hout : htm e q.data.toList s.data.toList = if q.data.toList = [10] then m.data.toList else rep q.data.toList m.data.toList := by
    unfold htm; rw [hm, str_data]
  have hrl := rep_len q.data.toList m.data.toList
  rw [size_data, size_data] at hrl
  have hrl2 : (rep q.data.toList m.data.toList).length ≤ 73500 := by
    have h1 : (q.size + 1) * m.size ≤ 21 * 3500 := Nat.mul_le_mul (by omega) hml
    omega
  have HW := fun (x : ByteArray) (w1 : World) (hb1 : IsBuilderF 30 5 w0.heap.size b [] w1) (hB1 : Below w0.heap.size w0 w1) (hx : x.size ≤ 73500) => ws w0.heap.size b [] x w1 hb1 (by simp; omega) hB1.size
  have HE := Aside0.mk he; have HR := Aside0.mk hr; have HO := Aside0.mk hout; have HM := Aside0.mk hm; have HRL := Aside0.mk hrl2
  clear he hr hout hrl hrl2 ht hs
  cases e with
  | true =>
    have hm1 : str (escL s.data.toList) = m := by rw [HM.out]; rfl
    have HM1 := Aside0.mk hm1
    clear hm1 hm
    by_cases hq : q.data.toList = [10]
    · have hqq : (q.toList == [10]) = true := by rw [Small.toList_data, hq]; rfl
      have HQ := Aside0.mk hq
      clear hq
      have hqn : (q.toList != [10]) = false := by rw [bne, hqq]; rfl
      go_enter Tryz.func6, Tryz.ntmps6
      go_wp2_with (first
        | (go_at_call 9; refine (table_zzEscape.calls ke s _ _ HE.out).mono ?_; rintro x w1 ⟨rfl, hb1⟩; rw [HM1.out]; have hbb := bld_below hb hb1; have hBB := hB.trans (hb1.mono hB.size); have t39' := (hb1.cell hltt).trans t39; have s42' := (hb1.cell hlts).trans s42)
        | (go_at_call 11; refine (HW m _ hbb hBB (by omega)).mono ?_; rintro x w2 ⟨rfl, hb2, hB2⟩))
      go_end0
      refine ⟨rfl, ?_, hBB.trans hB2⟩
      rw [HO.out, if_pos HQ.out, ← strCells_eq]; exact hb2
    · have hqq : (q.toList == [10]) = false := by rw [Small.toList_data]; simpa using hq
      have HQ := Aside0.mk hq
      clear hq
      have hqn : (q.toList != [10]) = true := by rw [bne, hqq]; rfl
      go_enter Tryz.func6, Tryz.ntmps6
      go_wp2_with (first
        | (go_at_call 9; refine (table_zzEscape.calls ke s _ _ HE.out).mono ?_; rintro x w1 ⟨rfl, hb1⟩; rw [HM1.out]; have hbb := bld_below hb hb1; have hBB := hB.trans (hb1.mono hB.size); have t39' := (hb1.cell hltt).trans t39; have s42' := (hb1.cell hlts).trans s42)
        | (go_at_call 10; refine (table_zzReplaceAll.calls kr m ⟨#[10]⟩ q _ _ HR.out).mono ?_; rintro x w3 ⟨rfl, hb3⟩; replace hbb := bld_below hbb hb3; replace hBB := hBB.trans (hb3.mono hBB.size))
        | (go_at_call 11; refine (HW _ _ hbb hBB (by rw [str_size]; exact HRL.out)).mono ?_; rintro x w2 ⟨rfl, hb2, hB2⟩))
      go_end0
      refine ⟨rfl, ?_, hBB.trans hB2⟩
      rw [HO.out, if_neg HQ.out]; exact hb2
  | false =>
    have hm1 : s = m := by rw [HM.out]; exact (str_of s).symm
    clear hm HM
    subst hm1
    by_cases hq : q.data.toList = [10]
    · have hqq : (q.toList == [10]) = true := by rw [Small.toList_data, hq]; rfl
      have HQ := Aside0.mk hq
      clear hq
      have hqn : (q.toList != [10]) = false := by rw [bne, hqq]; rfl
      go_enter Tryz.func6, Tryz.ntmps6
      go_wp2_with (first
        | (go_at_call 11; refine (HW s _ hb hB (by omega)).mono ?_; rintro x w2 ⟨rfl, hb2, hB2⟩))
      go_end0
      refine ⟨rfl, ?_, hB.trans hB2⟩
      rw [HO.out, if_pos HQ.out, ← strCells_eq]; exact hb2
    · have hqq : (q.toList == [10]) = false := by rw [Small.toList_data]; simpa using hq
      have HQ := Aside0.mk hq
      clear hq
      have hqn : (q.toList != [10]) = true := by rw [bne, hqq]; rfl
      go_enter Tryz.func6, Tryz.ntmps6
      go_wp2_with (first
        | (go_at_call 10; refine (table_zzReplaceAll.calls kr s ⟨#[10]⟩ q _ _ HR.out).mono ?_; rintro x w3 ⟨rfl, hb3⟩; have hbb := bld_below hb hb3; have hBB := hB.trans (hb3.mono hB.size))
        | (go_at_call 11; refine (HW _ _ hbb hBB (by rw [str_size]; exact HRL.out)).mono ?_; rintro x w2 ⟨rfl, hb2, hB2⟩))
      go_end0
      refine ⟨rfl, ?_, hBB.trans hB2⟩
      rw [HO.out, if_neg HQ.out]; exact hb2

theorem four (w : World) (o1 o2 o3 o4 : Obj) : ((((w.alloc o1).alloc o2).alloc o3).alloc o4).heap[w.heap.size + 1]? = some o2 ∧ ((((w.alloc o1).alloc o2).alloc o3).alloc o4).heap[w.heap.size + 2]? = some o3 ∧ ((((w.alloc o1).alloc o2).alloc o3).alloc o4).heap[w.heap.size + 3]? = some o4 ∧ Below w.heap.size w ((((w.alloc o1).alloc o2).alloc o3).alloc o4) := by
  refine ⟨?_, ?_, ?_, ((((Below.refl _ w).alloc (Nat.le_refl _) _).alloc ?_ _).alloc ?_ _).alloc ?_ _⟩
  · show ((((w.heap.push o1).push o2).push o3).push o4)[w.heap.size + 1]? = _
    rw [Array.getElem?_push, if_neg (by simp only [Array.size_push]; omega), Array.getElem?_push, if_neg (by simp only [Array.size_push]; omega), Array.getElem?_push, if_pos (by simp only [Array.size_push])]
  · show ((((w.heap.push o1).push o2).push o3).push o4)[w.heap.size + 2]? = _
    rw [Array.getElem?_push, if_neg (by simp only [Array.size_push]; omega), Array.getElem?_push, if_pos (by simp only [Array.size_push])]
  · show ((((w.heap.push o1).push o2).push o3).push o4)[w.heap.size + 3]? = _
    rw [Array.getElem?_push, if_pos (by simp only [Array.size_push])]
  · show w.heap.size ≤ (w.heap.push o1).size
    simp
  · show w.heap.size ≤ ((w.heap.push o1).push o2).size
    simp only [Array.size_push]; omega
  · show w.heap.size ≤ (((w.heap.push o1).push o2).push o3).size
    simp only [Array.size_push]; omega
set_option linter.all false in
set_option maxRecDepth 100000 in
set_option maxHeartbeats 1000000 in
theorem column (w : World) (e : Bool) (s q : ByteArray) (hsl : s.size ≤ 700) (hql : q.size ≤ 20) :
    Calls Tryz.prog 5 #[.string s, .agg (ocells e q)] w fun x w' => x = .returned (.string (str (htm e q.data.toList s.data.toList))) ∧ Below w.heap.size w w' := by
  obtain ⟨O, hO⟩ : ∃ O, O = htm e q.data.toList s.data.toList := ⟨_, rfl⟩
  have HO := Aside0.mk hO
  rw [← hO]
  clear hO
  unfold ocells
  go_enter Tryz.func5, Tryz.ntmps5
  go_wp2_with (first
    | ((with_reducible refine gate_dst (N := 7) rfl ?_); refine b57 (e := e) (q := q) (.tmp 6) rfl rfl rfl ?_)
    | ((with_reducible refine gate_dst (N := 9) rfl ?_); refine b81 (.tmp 8) rfl rfl rfl ?_)
    | (go_at_call 6; go_must (refine (render w _ _ (w.heap.size + 2) _ e s q ?ht ?hs ?hb ?hB hsl hql).mono ?_; rotate_left 4; rintro x w3 ⟨rfl, hb3, hB3⟩))
    | (go_at_call 7; go_must (refine (Any.Builder_String_any_f Tryz.bl169 Tryz.bx169 w.heap.size _ _ w3 hb3 hB3.size).mono ?_; rintro x w4 ⟨rfl, hb4, hB4⟩)))
  case ht => exact (four w _ _ _ _).2.2.1
  case hs => exact (four w _ _ _ _).2.1
  case hb => exact .inl ⟨Nat.le_succ _, _, (four w _ _ _ _).1, World.ownsRowF_nil _ _ _ _, by simp [Value.ownBlock]⟩
  case hB => exact (four w _ _ _ _).2.2.2
  go_ret
  exact ⟨by rw [HO.out]; rfl, hB3.trans hB4⟩

set_option linter.all false in
set_option maxRecDepth 100000 in
set_option maxHeartbeats 1000000 in
theorem html (w : World) (e : Bool) (s q : ByteArray) (hsl : s.size ≤ 700) (hql : q.size ≤ 20) :
    Calls Tryz.prog 4 #[.string s, .bool false, .bool e, .string q] w fun x w' => x = .returned (.string (str (htm e q.data.toList s.data.toList))) ∧ Below w.heap.size w w' := by
  obtain ⟨O, hO⟩ : ∃ O, O = str (htm e q.data.toList s.data.toList) := ⟨_, rfl⟩
  have HC := Aside0.mk (column w e s q hsl hql)
  rw [← hO] at HC ⊢
  clear hO
  go_enter Tryz.func4, Tryz.ntmps4
  go_wp2_with (first
    | ((with_reducible refine gate_dst (N := 13) rfl ?_); refine b26 (e := e) (q := q) (.tmp 10) (.tmp 11) (.tmp 12) rfl rfl rfl rfl rfl ?_)
    | (go_at_call 5; refine HC.out.mono ?_; rintro x w1 ⟨rfl, hb1⟩))
  go_ret
  exact ⟨rfl, hb1⟩
end Go.Proofs.YtpgnipfpinldgaaGreatDoor.HtW

