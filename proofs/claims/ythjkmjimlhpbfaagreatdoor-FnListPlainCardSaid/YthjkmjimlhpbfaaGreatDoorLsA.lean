/- A list in memory: its own block, the row of its items' addresses, its items; and the walks of the small steps. -/
import Derived.Test.YthjkmjimlhpbfaaGreatDoorProg
import Derived.Test.YthjkmjimlhpbfaaGreatDoorWWords
import Derived.WalkKit
import Derived.OwnWalk
import Derived.BigQuiet
import Derived.Deep.QuietTactic
import Derived.Deep.DeepMust
import Derived.Maps.AppendAt
import Derived.Laws.Tables
import Derived.Lib.Builder
import Derived.OrdersHeld
import Derived.Deep.RegionHeld3
import Derived.Test.YthjkmjimlhpbfaaGreatDoorWTab
import Derived.Test.YthjkmjimlhpbfaaGreatDoorWMore
section
/- A list in memory: its own block, the row of its items' addresses, its items; and the walks of the small steps. -/
namespace Go.Proofs.YthjkmjimlhpbfaaGreatDoor.Lst
open Go Go.RowKit Go.Lib Go.Proofs.YthjkmjimlhpbfaaGreatDoorW.PrintWords

def lcells (ap : Int) (cv css : ByteArray) (v : Value) (lv : Int) (sp : Option Addr) : Array Value := #[.int .i64 ap, .string cv, .string css, v, .int .i64 lv, .pointer sp]
def icells (x : Int × ByteArray) : Array Value := #[.int .i64 x.1, .string x.2]
def ptr (p : Nat) : Value := .pointer (some ⟨p, 0, none⟩)
/-- the list at b holds these items, its level is lv -/
structure LstV (w0 : World) (b : Nat) (v : Value) (ps : List Nat) (xs : List (Int × ByteArray)) (lv ap : Int) (cv css : ByteArray) (sp : Option Addr) (w : World) : Prop where
  ge : w0.heap.size ≤ b
  below : Below w0.heap.size w0 w
  own : w.heap[b]? = some (.cells (lcells ap cv css v lv sp) 52 (0, 0))
  len : ps.length = xs.length
  row : w.ownsRow w0.heap.size 61 1 v xs.length (ps.map ptr)
  item : ∀ (i p : Nat) (x : Int × ByteArray), ps[i]? = some p → xs[i]? = some x → w0.heap.size ≤ p ∧ w.heap[p]? = some (.cells (icells x) 63 (0, 0))
def Lst (w0 : World) (b : Nat) (xs : List (Int × ByteArray)) (lv ap : Int) (cv css : ByteArray) (sp : Option Addr) (w : World) : Prop := ∃ v ps, LstV w0 b v ps xs lv ap cv css sp w

theorem lt_of {w : World} {k : Nat} {o : Obj} (h : w.heap[k]? = some o) : k < w.heap.size := (Array.getElem?_eq_some_iff.1 h).1
theorem put_get {w : World} {g : Nat} {cs : Array Value} {t : TypeId} {fr : Nat × Nat} (h : w.heap[g]? = some (.cells cs t fr)) (i : Nat) (v : Value) : (w.setCell ⟨g, i, none⟩ v).heap[g]? = some (.cells (cs.setIfInBounds i v) t fr) := by
  simp [World.setCell, Array.getElem?_modify, h]
theorem put_other {w : World} {g k : Nat} (h : k ≠ g) (i : Nat) (v : Value) : (w.setCell ⟨g, i, none⟩ v).heap[k]? = w.heap[k]? := by
  have : g ≠ k := fun e => h e.symm
  simp [World.setCell, Array.getElem?_modify, this]
theorem put_size (w : World) (a : Addr) (v : Value) : (w.setCell a v).heap.size = w.heap.size := by simp [World.setCell]
theorem put_grown (w : World) (g i : Nat) (v : Value) : w.grownBy (w.setCell ⟨g, i, none⟩ v) (some g) :=
  ⟨rfl, rfl, rfl, by rw [put_size]; exact Nat.le_refl _, fun k _ hne => put_other (fun e => hne (by rw [e])) i v⟩
theorem ne_of_type {w : World} {k b : Nat} {c d : Array Value} {T U : TypeId} {f g : Nat × Nat} (hk : w.heap[k]? = some (.cells c T f)) (hb : w.heap[b]? = some (.cells d U g)) (h : T ≠ U) : k ≠ b := by
  rintro rfl
  rw [hk] at hb
  injection hb with hb
  injection hb with _ hb
  exact h hb
theorem own_neb {w : World} {B : Nat} {e : TypeId} {v : Value} {n b : Nat} {xs : List Value} {d : Array Value} {U : TypeId} {g : Nat × Nat} (h : w.ownsRow B e 1 v n xs) (hb : w.heap[b]? = some (.cells d U g)) (hU : e ≠ U) : v.ownBlock = none ∨ v.ownBlock ≠ some b := by
  rcases h.2 with ⟨rfl, _⟩ | ⟨k, cap, cur, rfl, _, hk, _⟩
  · exact .inl rfl
  · refine .inr fun e' => ?_
    simp only [Value.ownBlock, Option.some.injEq] at e'
    exact ne_of_type hk hb hU e'

section
variable {w0 w w' : World} {b : Nat} {v : Value} {ps : List Nat} {xs : List (Int × ByteArray)} {lv ap : Int} {cv css : ByteArray} {sp : Option Addr}
theorem LstV.kept (h : LstV w0 b v ps xs lv ap cv css sp w) (hw : Below w.heap.size w w') : LstV w0 b v ps xs lv ap cv css sp w' :=
  ⟨h.ge, h.below.trans (hw.mono h.below.size), (hw.block _ (lt_of h.own)).trans h.own, h.len, h.row.kept (row := none) ⟨hw.os, hw.tape, hw.output, hw.size, fun i hi _ => hw.block i hi⟩ (by cases v.ownBlock <;> simp),
    fun i p x hp hx => by
      obtain ⟨h1, h2⟩ := h.item i p x hp hx
      exact ⟨h1, (hw.block _ (lt_of h2)).trans h2⟩⟩
/-- a cell of the list's own block is written -/
theorem LstV.put (h : LstV w0 b v ps xs lv ap cv css sp w) (i : Nat) (u : Value) {lv' ap' : Int} {cv' css' : ByteArray} {sp' : Option Addr} (hc : (lcells ap cv css v lv sp).setIfInBounds i u = lcells ap' cv' css' v lv' sp') :
    LstV w0 b v ps xs lv' ap' cv' css' sp' (w.setCell ⟨b, i, none⟩ u) :=
  ⟨h.ge, h.below.trans ⟨rfl, rfl, rfl, by rw [put_size]; exact Nat.le_refl _, fun k hk => put_other (by have := h.ge; omega) i u⟩, by rw [put_get h.own, hc], h.len,
    h.row.kept (put_grown w b i u) (own_neb h.row h.own (by decide)),
    fun j p x hp hx => by
      obtain ⟨h1, h2⟩ := h.item j p x hp hx
      exact ⟨h1, (put_other (ne_of_type h2 h.own (by decide)) i u).trans h2⟩⟩
theorem LstV.c (h : LstV w0 b v ps xs lv ap cv css sp w) (i : Nat) : w.cell? ⟨b, i, none⟩ = (lcells ap cv css v lv sp)[i]? := by rw [Lib.cell_of_heap h.own]
theorem LstV.fz (h : LstV w0 b v ps xs lv ap cv css sp w) (i : Nat) : w.frozen? ⟨b, i, none⟩ = false := by
  rw [Lib.frozen_of_heap h.own]
  first | done | simp
/-- the row's value -/
theorem LstV.val (h : LstV w0 b v ps xs lv ap cv css sp w) : (xs.length = 0 ∧ v = .slice none 0 0) ∨ ∃ g cap, v = .slice (some ⟨g, 0, none⟩) xs.length cap ∧ xs.length ≤ cap ∧ ∀ i p, ps[i]? = some p → w.cell? ⟨g, i, none⟩ = some (ptr p) := by
  rcases h.row.2 with ⟨rfl, h0⟩ | ⟨g, cap, cur, rfl, _, hg, hn, _, hcur, htake⟩
  · exact .inl ⟨h0, rfl⟩
  · refine .inr ⟨g, cap, rfl, hn, fun i p hp => ?_⟩
    rw [Lib.cell_of_heap hg]
    have hi : i < xs.length := by have := (List.getElem?_eq_some_iff.1 hp).1; rw [← h.len]; exact this
    have : (cur.toList.take (xs.length * 1))[i]? = some (ptr p) := by rw [htake, List.getElem?_map, hp]; rfl
    rw [List.getElem?_take_of_lt (by omega)] at this
    simpa using this
end

set_option linter.all false in
set_option maxRecDepth 100000 in
set_option maxHeartbeats 1000000 in
theorem unindent (w0 w : World) (b : Nat) (xs : List (Int × ByteArray)) (lv ap : Int) (cv css : ByteArray) (sp : Option Addr) (h : Lst w0 b xs lv ap cv css sp w) (h0 : 0 ≤ lv) (h1 : lv ≤ 1000000) :
    Calls Tryz.prog 32 #[.pointer (some ⟨b, 0, none⟩)] w fun e w' => e = .returned (.tuple #[]) ∧ Lst w0 b xs (if lv > 0 then lv - 1 else lv) ap cv css sp w' := by
  obtain ⟨v, ps, S⟩ := h
  have c4 : w.cell? ⟨b, 4, none⟩ = some (.int .i64 lv) := S.c 4
  have f4 := S.fz 4
  have SA := Aside0.mk S
  clear S
  by_cases hl : lv > 0
  · have hd : decide (lv > 0) = true := decide_eq_true hl
    have hw : IntKind.i64.wrap (lv - 1) = lv - 1 := by
      unfold IntKind.wrap; simp [IntKind.bits, IntKind.signed]; omega
    rw [if_pos hl]
    clear hl
    go_enter Tryz.func32, Tryz.ntmps32
    go_wp2_with (fail)
    go_end0
    exact ⟨rfl, v, ps, SA.out.put 4 _ rfl⟩
  · have hd : decide (lv > 0) = false := decide_eq_false hl
    rw [if_neg hl]
    clear hl
    go_enter Tryz.func32, Tryz.ntmps32
    go_wp2_with (fail)
    go_end0
    exact ⟨rfl, v, ps, SA.out⟩

set_option linter.all false in
set_option maxRecDepth 100000 in
set_option maxHeartbeats 1000000 in
theorem unall (w0 w : World) (b : Nat) (xs : List (Int × ByteArray)) (lv ap : Int) (cv css : ByteArray) (sp : Option Addr) (h : Lst w0 b xs lv ap cv css sp w) :
    Calls Tryz.prog 33 #[.pointer (some ⟨b, 0, none⟩)] w fun e w' => e = .returned (.tuple #[]) ∧ Lst w0 b xs 0 ap cv css sp w' := by
  obtain ⟨v, ps, S⟩ := h
  have f4 := S.fz 4
  have c4 : w.cell? ⟨b, 4, none⟩ = some (.int .i64 lv) := S.c 4
  have SA := Aside0.mk S
  clear S
  go_enter Tryz.func33, Tryz.ntmps33
  go_wp2_with (fail)
  go_end0
  exact ⟨rfl, v, ps, SA.out.put 4 _ rfl⟩
end Go.Proofs.YthjkmjimlhpbfaaGreatDoor.Lst
end

section
/- The walks of the list's other small steps: Indent, SetStyle, zzText. -/
namespace Go.Proofs.YthjkmjimlhpbfaaGreatDoor.Lsm
open Go Go.RowKit Go.Lib Go.Proofs.YthjkmjimlhpbfaaGreatDoor.Lst Go.Proofs.YthjkmjimlhpbfaaGreatDoorW.PrintWords

set_option linter.all false in
set_option maxRecDepth 100000 in
set_option maxHeartbeats 1000000 in
theorem zztext (t : ByteArray) (w : World) : Calls Tryz.prog 57 #[.iface 9 (.string t)] w fun e w' => e = .returned (.string t) ∧ w' = w := by
  have hA : ∀ w : World, (Instr.typeAssert (.iface 9 (.string t)) 20 9 true).run Tryz.prog w = .ok (.tuple #[.string t, .bool true]) w := fun w => by kernel_rfl
  go_enter Tryz.func57, Tryz.ntmps57
  go_wp2_with (fail)
  go_ret
  exact ⟨rfl, rfl⟩

def scells (s : Fin 10 → Value) : Array Value := #[s 0, s 1, s 2, s 3, s 4, s 5, s 6, s 7, s 8, s 9]
set_option linter.all false in
set_option maxRecDepth 100000 in
set_option maxHeartbeats 1000000 in
theorem setstyle (w0 w : World) (b : Nat) (xs : List (Int × ByteArray)) (lv ap : Int) (cv css : ByteArray) (sp : Option Addr) (fm : Int) (s1 s2 s3 s4 s5 s6 s7 s8 s9 : ByteArray) (h : Lst w0 b xs lv ap cv css sp w) :
    Calls Tryz.prog 15 #[.pointer (some ⟨b, 0, none⟩), .agg #[.int .i64 fm, .string s1, .string s2, .string s3, .string s4, .string s5, .string s6, .string s7, .string s8, .string s9]] w fun e w' => e = .returned (.tuple #[]) ∧
      ∃ sg, Lst w0 b xs lv ap cv css (some ⟨sg, 0, none⟩) w' ∧ w0.heap.size ≤ sg ∧ w'.heap[sg]? = some (.cells #[.int .i64 fm, .string s1, .string s2, .string s3, .string s4, .string s5, .string s6, .string s7, .string s8, .string s9] 45 (0, 0)) := by
  obtain ⟨v, ps, S⟩ := h
  have hb1 : ∀ o, Below w.heap.size w (w.alloc o) := fun o => (Below.refl _ w).alloc (Nat.le_refl _) o
  have f5 : ∀ o, (w.alloc o).frozen? ⟨b, 5, none⟩ = false := fun o => (S.kept (hb1 o)).fz 5
  have c5 : ∀ o, (w.alloc o).cell? ⟨b, 5, none⟩ = some (.pointer sp) := fun o => (S.kept (hb1 o)).c 5
  have SA := Aside0.mk S
  clear S
  go_enter Tryz.func15, Tryz.ntmps15
  go_wp2_with (fail)
  go_end0
  refine ⟨rfl, w.heap.size, ⟨v, ps, (SA.out.kept (hb1 _)).put 5 _ rfl⟩, SA.out.below.size, ?_⟩
  refine (put_other ?_ 5 _).trans (heap_alloc_new w _)
  have := lt_of SA.out.own
  omega

theorem sl {w0 w : World} {b : Nat} {v : Value} {ps : List Nat} {xs : List (Int × ByteArray)} {lv ap : Int} {cv css : ByteArray} {sp : Option Addr} (h : LstV w0 b v ps xs lv ap cv css sp w) : ∃ A c, v = .slice A xs.length c := by
  rcases h.val with ⟨h0, rfl⟩ | ⟨g, cap, rfl, _⟩
  · exact ⟨none, 0, by rw [h0]⟩
  · exact ⟨_, _, rfl⟩
/-- the level behind Indent -/
def deeper (xs : List (Int × ByteArray)) (lv : Int) : Int := match xs.getLast? with
  | none => lv
  | some x => if lv > x.1 then lv else lv + 1
set_option linter.all false in
set_option maxRecDepth 100000 in
set_option maxHeartbeats 1000000 in
theorem indent (w0 w : World) (b : Nat) (xs : List (Int × ByteArray)) (lv ap : Int) (cv css : ByteArray) (sp : Option Addr) (h : Lst w0 b xs lv ap cv css sp w) (hn : xs.length ≤ 100000) (h0 : 0 ≤ lv) (h1 : lv ≤ 1000000) :
    Calls Tryz.prog 31 #[.pointer (some ⟨b, 0, none⟩)] w fun e w' => e = .returned (.tuple #[]) ∧ Lst w0 b xs (deeper xs lv) ap cv css sp w' := by
  obtain ⟨v, ps, S⟩ := h
  rcases Nat.eq_zero_or_pos xs.length with hz | hp
  · obtain ⟨A, c, rfl⟩ := sl S
    have hd : deeper xs lv = lv := by
      unfold deeper
      rw [List.eq_nil_of_length_eq_zero hz]; rfl
    rw [hd]
    have c3 : w.cell? ⟨b, 3, none⟩ = some (.slice A 0 c) := by rw [← hz]; exact S.c 3
    have SA := Aside0.mk S
    clear S hd hz
    go_enter Tryz.func31, Tryz.ntmps31
    go_wp2_with (fail)
    go_end0
    exact ⟨rfl, _, ps, SA.out⟩
  · rcases S.val with ⟨hz, _⟩ | ⟨g, cap, rfl, hcap, hcells⟩
    · omega
    obtain ⟨n, hn1⟩ : ∃ n, xs.length = n + 1 := ⟨xs.length - 1, by omega⟩
    obtain ⟨p, hps⟩ : ∃ p, ps[n]? = some p := ⟨_, List.getElem?_eq_getElem (by rw [S.len]; omega)⟩
    obtain ⟨x, hx⟩ : ∃ x, xs[n]? = some x := ⟨_, List.getElem?_eq_getElem (by omega)⟩
    obtain ⟨_, hpi⟩ := S.item n p x hps hx
    have hlast : xs.getLast? = some x := by rw [List.getLast?_eq_getElem?, show xs.length - 1 = n by omega]; exact hx
    have c3 : w.cell? ⟨b, 3, none⟩ = some (.slice (some ⟨g, 0, none⟩) (n + 1) cap) := by rw [← hn1]; exact S.c 3
    have c4 : w.cell? ⟨b, 4, none⟩ = some (.int .i64 lv) := S.c 4
    have f4 := S.fz 4
    have cg : w.cell? ⟨g, n, none⟩ = some (.pointer (some ⟨p, 0, none⟩)) := hcells n p hps
    have cp : w.cell? ⟨p, 0, none⟩ = some (.int .i64 x.1) := by rw [Lib.cell_of_heap hpi]; rfl
    have hd : deeper xs lv = if lv > x.1 then lv else lv + 1 := by unfold deeper; rw [hlast]
    rw [hd]
    have hz : (((n + 1 : Nat) : Int) == 0) = false := by rw [beq_eq_false_iff_ne]; omega
    have hw1 : IntKind.i64.wrap (((n + 1 : Nat) : Int) - 1) = (n : Int) := by
      unfold IntKind.wrap; simp [IntKind.bits, IntKind.signed]; omega
    have hw3 : IntKind.i64.wrap (n : Int) = (n : Int) := by
      unfold IntKind.wrap; simp [IntKind.bits, IntKind.signed]; omega
    have hw2 : IntKind.i64.wrap (lv + 1) = lv + 1 := by
      unfold IntKind.wrap; simp [IntKind.bits, IntKind.signed]; omega
    have hi0 : decide (0 ≤ (n : Int)) = true := by simp
    have hi1 : decide ((n : Int) < ((n + 1 : Nat) : Int)) = true := by simp; omega
    have SA := Aside0.mk S
    obtain ⟨y, hy⟩ : ∃ y, y = x.1 := ⟨_, rfl⟩
    rw [← hy] at cp ⊢
    clear S hd hx hps hpi hlast hcells hn1 hp hcap hy
    by_cases hl : lv > y
    · have hld : decide (lv > y) = true := decide_eq_true hl
      rw [if_pos hl]
      clear hl
      go_enter Tryz.func31, Tryz.ntmps31
      go_wp2_with (fail)
      go_region
      go_wp2_with (fail)
      go_end0
      exact ⟨rfl, _, ps, SA.out.kept ⟨rfl, rfl, rfl, Nat.le_refl _, fun _ _ => rfl⟩⟩
    · have hld : decide (lv > y) = false := decide_eq_false hl
      rw [if_neg hl]
      clear hl
      go_enter Tryz.func31, Tryz.ntmps31
      go_wp2_with (fail)
      go_region
      go_wp2_with (fail)
      go_end0
      exact ⟨rfl, _, ps, (SA.out.kept (w' := w.drew) ⟨rfl, rfl, rfl, Nat.le_refl _, fun _ _ => rfl⟩).put 4 _ rfl⟩
end Go.Proofs.YthjkmjimlhpbfaaGreatDoor.Lsm
end

section
/- The walk of AppendItem, over a contract of analyzeAndStringify. -/
namespace Go.Proofs.YthjkmjimlhpbfaaGreatDoor.Lap
open Go Go.RowKit Go.Lib Go.Proofs.YthjkmjimlhpbfaaGreatDoor.Lst Go.Proofs.YthjkmjimlhpbfaaGreatDoorW.PrintWords Go.Proofs.YthjkmjimlhpbfaaGreatDoorW.PrintLast Go.Proofs.YthjkmjimlhpbfaaGreatDoorW.PrintMore

def T0 : Bool × List (List Nat × List Nat) := (true, [([], []), ([], []), ([1], [1]), ([2], [2]), ([3], [3]), ([], []), ([], []), ([5, 6], [5, 6]), ([7], [7]),
    ([4, 8, 7], [4, 8]), ([0, 0, 1, 2, 3, 4, 5, 6, 7, 8, 9], [0]), ([10, 0, 1, 2, 3, 4, 5, 6, 7, 8, 9], [10]),
    ([11, 9, 9, 0, 1, 2, 3, 4, 5, 6, 7, 8, 9], [9, 11])])
def B0 : List Nat := [0, 0, 2, 6, 14, 0, 0, 96, 224, 510, 1023, 2047, 4095]
theorem tab0 : rtab .any (opsOf Tryz.f29 0) = T0 := by kernel_rfl
theorem bits0 : waitsOk T0.2 B0 = true := by kernel_rfl
theorem info64 : (Tryz.prog.info? 61).map (fun i => (i.zero, i.size, i.bytes)) = some (some (.pointer none), 1, 8) := by kernel_rfl

theorem app_ {P : Program} {oi : Oper} {a : Act} {w w' : World} {v v' x : Value} {s y : Operand} {t : TypeId} (hop : oi.op = .call { callee := .builtin .append, args := #[s, y], argTypes := #[t, t] }) (hs : a.eval s = v) (hx : a.eval y = x)
    (hr : (Builtin.append_ #[t, t] oi.type #[v, x]).run P w = .ok v' w') : (execOp a.eval oi).run P w = .ok (.value v') w' := by
  unfold execOp
  simp only [hop, resolve, invoke, builtin, Sem.run_bind, Sem.run_pure, Result.andThen_ok, List.map_toArray, List.map_cons, List.map_nil, hs, hx, hr]

set_option linter.all false in
set_option maxRecDepth 100000 in
set_option maxHeartbeats 4000000 in
theorem append (w0 w : World) (b : Nat) (v : Value) (ps : List Nat) (xs : List (Int × ByteArray)) (lv ap : Int) (cv css : ByteArray) (sp : Option Addr) (it : Value) (t : ByteArray) (S : LstV w0 b v ps xs lv ap cv css sp w) (hn : xs.length ≤ 100000)
    (HA : ∀ w1, LstV w0 b v ps xs lv ap cv css sp w1 → Calls Tryz.prog 42 #[.pointer (some ⟨b, 0, none⟩), it] w1 fun e w' => ∃ p, e = .returned (ptr p) ∧ LstV w0 b v ps xs lv ap cv css sp w' ∧ w0.heap.size ≤ p ∧ w'.heap[p]? = some (.cells (icells (lv, t)) 63 (0, 0))) :
    Calls Tryz.prog 29 #[.pointer (some ⟨b, 0, none⟩), it] w fun e w' => e = .returned (.tuple #[]) ∧ Lst w0 b (xs ++ [(lv, t)]) lv ap cv css sp w' := by
  have SA := Aside0.mk S
  have HAA := Aside0.mk HA
  clear S HA
  have S1 : LstV w0 b v ps xs lv ap cv css sp w.drew := SA.out.kept ⟨rfl, rfl, rfl, Nat.le_refl _, fun _ _ => rfl⟩
  have SB := Aside0.mk S1
  clear S1
  go_enter Tryz.func29, Tryz.ntmps29
  refine start_ (n := 13) (S := fun w' => w'.cell? ⟨b, 3, none⟩ = some v) (ds := [12]) #[false, false, false, false, false, false, false, false, false, false, false, false, false] (by kernel_rfl) rfl rfl (SB.out.c 3) (fun hHeld => ?_); refine with_tabW tab0 bits0 (fun HT_ HW_ => ?_)
  refine pure_ (i := 0) (N := some 4) (v := ?_) (a' := ?_) #[true, false, false, false, false, false, false, false, false, false, false, false, false] rfl rfl (any_of HT_.out (by kernel_rfl)) (fun _ _ _ h => h) (Or.inl ⟨by rfl, ?_⟩) ?_ ?_
  rotate_left
  · intro w'
    go_simp
    with_reducible rfl
  rotate_left
  · simp only [Act.put, List.setIfInBounds_toArray, List.set_cons_zero, List.set_cons_succ, i64_w, i32_w]
    rfl
  refine pure_ (i := 1) (N := some 5) (v := ?_) (a' := ?_) #[true, true, false, false, false, false, false, false, false, false, false, false, false] rfl rfl (any_of HT_.out (by kernel_rfl)) (fun _ _ _ h => h) (Or.inl ⟨by rfl, ?_⟩) ?_ ?_
  rotate_left
  · intro w'
    go_simp
    with_reducible rfl
  rotate_left
  · simp only [Act.put, List.setIfInBounds_toArray, List.set_cons_zero, List.set_cons_succ, i64_w, i32_w]
    rfl
  refine pure_ (i := 2) (N := some 6) (v := ?_) (a' := ?_) #[true, true, true, false, false, false, false, false, false, false, false, false, false] rfl rfl (any_of HT_.out (by kernel_rfl)) (fun _ _ _ h => h) (Or.inl ⟨by rfl, ?_⟩) ?_ ?_
  rotate_left
  · intro w'
    go_simp
    with_reducible rfl
  rotate_left
  · simp only [Act.put, List.setIfInBounds_toArray, List.set_cons_zero, List.set_cons_succ, i64_w, i32_w]
    rfl
  refine pure_ (i := 3) (N := some 7) (v := ?_) (a' := ?_) #[true, true, true, true, false, false, false, false, false, false, false, false, false] rfl rfl (any_of HT_.out (by kernel_rfl)) (fun _ _ _ h => h) (Or.inl ⟨by rfl, ?_⟩) ?_ ?_
  rotate_left
  · intro w'
    go_simp
    with_reducible rfl
  rotate_left
  · simp only [Act.put, List.setIfInBounds_toArray, List.set_cons_zero, List.set_cons_succ, i64_w, i32_w]
    rfl
  refine pure_ (i := 5) (N := some 9) (v := ?_) (a' := ?_) #[true, true, true, true, false, true, false, false, false, false, false, false, false] rfl rfl (any_of HT_.out (by kernel_rfl)) (fun _ _ _ h => h) (Or.inl ⟨by rfl, ?_⟩) ?_ ?_
  rotate_left
  · intro w'
    go_simp
    with_reducible rfl
  rotate_left
  · simp only [Act.put, List.setIfInBounds_toArray, List.set_cons_zero, List.set_cons_succ, i64_w, i32_w]
    rfl
  refine pure_ (i := 6) (N := some 10) (v := ?_) (a' := ?_) #[true, true, true, true, false, true, true, false, false, false, false, false, false] rfl rfl (any_of HT_.out (by kernel_rfl)) (fun _ _ _ h => h) (Or.inl ⟨by rfl, ?_⟩) ?_ ?_
  rotate_left
  · intro w'
    go_simp
    with_reducible rfl
  rotate_left
  · simp only [Act.put, List.setIfInBounds_toArray, List.set_cons_zero, List.set_cons_succ, i64_w, i32_w]
    rfl
  refine take_ (i := 4) (N := some 8) (v := ?_) (a' := ?_) #[true, true, true, true, true, true, true, false, false, false, false, false, false] rfl rfl (take_ofW HT_.out HW_.out (by kernel_rfl)) (fun _ _ _ h => h) (Or.inl ⟨by rfl, ?_⟩) hHeld ?_ ?_
  rotate_left
  · rintro w' s0
    go_simp
    with_reducible rfl
  rotate_left
  · simp only [Act.put, List.setIfInBounds_toArray, List.set_cons_zero, List.set_cons_succ, i64_w, i32_w]
    rfl
  refine one_ (i := 7) (N := some 11) #[true, true, true, true, true, true, true, true, false, false, false, false, false] rfl rfl (one_of HT_.out (by kernel_rfl)) (by decide) (fun K hK => ?_)
  refine goes_ Tryz.func42 (by kernel_rfl) rfl #[.pointer (some ⟨b, 0, none⟩), it] (by rfl) rfl rfl (by (try simp only [List.map_toArray, List.map_cons, List.map_nil]); first | done | rfl) ?_
  refine (HAA.out _ SB.out).mono ?_
  rintro e w1 ⟨p, rfl, hS1, hp, hpi⟩
  refine ⟨_, rfl, ?_⟩
  have SC := Aside0.mk hS1
  have HP := Aside0.mk (And.intro hp hpi)
  clear hS1 hp hpi
  refine hK.out _ _ (SC.out.c 3) (fun hHeld => ?_)
  clear hK K
  refine norm_ (a' := ?_) ?_ ?_
  rotate_left
  · show Act.put _ (some 11) _ = _
    simp only [Act.put, List.setIfInBounds_toArray, List.set_cons_zero, List.set_cons_succ, i64_w, i32_w]
    rfl
  -- the one cell of what is appended
  refine one_ (i := 8) (N := some 12) #[true, true, true, true, true, true, true, true, true, false, false, false, false] rfl rfl (one_of HT_.out (by kernel_rfl)) (by decide) (fun K hK => ?_)
  refine value_ (w1 := w1.alloc (.cells #[ptr p] 61)) (v := .slice (some ⟨w1.heap.size, 0, none⟩) 1 1) (by rfl) rfl ?_ ?_
  · go_simp
    rfl
  have hb1 : Below w1.heap.size w1 (w1.alloc (.cells #[ptr p] 61)) := (Below.refl _ w1).alloc (Nat.le_refl _) _
  have SD := Aside0.mk (SC.out.kept hb1)
  refine hK.out _ _ (SD.out.c 3) (fun hHeld => ?_)
  clear hK K
  refine norm_ (a' := ?_) ?_ ?_
  rotate_left
  · show Act.put _ (some 12) _ = _
    simp only [Act.put, List.setIfInBounds_toArray, List.set_cons_zero, List.set_cons_succ, i64_w, i32_w]
    rfl
  have hlen := SD.out.len
  have hrow := SD.out.row
  have hbw := SD.out.below
  obtain ⟨i64, hi64⟩ : ∃ i, Tryz.prog.info? 61 = some i := by
    cases h : Tryz.prog.info? 61 with
    | none => have := info64; rw [h] at this; cases this
    | some i => exact ⟨i, rfl⟩
  have hinf := info64
  rw [hi64] at hinf
  simp only [Option.map_some, Option.some.injEq, Prod.mk.injEq] at hinf
  obtain ⟨hz, hsz, hby⟩ := hinf
  obtain ⟨v2, w3, hrun, hown2, hgr, _, hat⟩ := run_append_own_at (P := Tryz.prog) (w1.alloc (.cells #[ptr p] 61)) w0.heap.size 49 49 61 i64 (.pointer none) 1 8 Tryz.underlying49 hi64 hz hsz hby rfl (by decide) v xs.length (ps.map ptr) hrow ⟨w1.heap.size, 0, none⟩ 1 1 [ptr p] rfl (cell_one_new w1 (ptr p) 61) (by intro u hu; rw [List.mem_singleton.1 hu]; rfl) (by unfold maxLen; omega) (by omega) hbw.size
  obtain ⟨g2, cap2, rfl⟩ : ∃ g2 cap2, v2 = .slice (some ⟨g2, 0, none⟩) (xs.length + 1) cap2 := by
    rcases hown2.2 with ⟨_, h0⟩ | ⟨g2, cap2, _, hv2, _⟩
    · omega
    · exact ⟨g2, cap2, hv2⟩
  have hnb : some b ≠ v.ownBlock := by
    rcases own_neb hrow SD.out.own (by decide) with h | h
    · rw [h]; simp
    · exact fun e => h e.symm
  have hni : ∀ (k : Nat) (x : Int × ByteArray), (w1.alloc (.cells #[ptr p] 61)).heap[k]? = some (.cells (icells x) 63 (0, 0)) → w3.heap[k]? = some (.cells (icells x) 63 (0, 0)) := fun k x hk => by
    refine (hgr.block k (lt_of hk) ?_).trans hk
    rcases own_neb hrow hk (by decide) with h | h
    · rw [h]; simp
    · exact fun e => h e.symm
  have hb3 : w3.heap[b]? = some (.cells (lcells ap cv css v lv sp) 52 (0, 0)) := (hgr.block b (lt_of SD.out.own) hnb).trans SD.out.own
  have hp3 : w3.heap[p]? = some (.cells (icells (lv, t)) 63 (0, 0)) := hni p _ ((hb1.block p (lt_of HP.out.2)).trans HP.out.2)
  have hB3 : Below w0.heap.size w0 w3 := ⟨hgr.os.trans hbw.os, hgr.tape.trans hbw.tape, hgr.output.trans hbw.output, Nat.le_trans hbw.size hgr.size, fun k hk => by
    refine (hgr.block k (by have := hbw.size; omega) ?_).trans (hbw.block k hk)
    rcases hrow.2 with ⟨rfl, _⟩ | ⟨g, cap, cur, rfl, hg, _⟩
    · simp [Value.ownBlock]
    · simp only [Value.ownBlock, ne_eq, Option.some.injEq]; omega⟩
  have hc3 : w3.cell? ⟨b, 3, none⟩ = some v := by rw [Lib.cell_of_heap hb3]; rfl
  have hf3 : w3.frozen? ⟨b, 3, none⟩ = false := by rw [Lib.frozen_of_heap hb3]; first | done | simp
  have FIN : Lst w0 b (xs ++ [(lv, t)]) lv ap cv css sp (w3.setCell ⟨b, 3, none⟩ (.slice (some ⟨g2, 0, none⟩) (xs.length + 1) cap2)) := by
    refine ⟨.slice (some ⟨g2, 0, none⟩) (xs.length + 1) cap2, ps ++ [p], SD.out.ge, hB3.trans ⟨rfl, rfl, rfl, by rw [put_size]; exact Nat.le_refl _, fun k hk => put_other (by have := SD.out.ge; omega) 3 _⟩, by rw [put_get hb3]; rfl, by simp [hlen], ?_, ?_⟩
    · have e1 : (ps ++ [p]).map ptr = ps.map ptr ++ [ptr p] := by simp
      rw [e1, List.length_append, List.length_singleton]
      refine hown2.kept (put_grown w3 b 3 _) ?_
      exact own_neb hown2 hb3 (by decide)
    · intro i q x hq hx
      have hi : i < ps.length ∨ i = ps.length := by have := (List.getElem?_eq_some_iff.1 hq).1; simp at this; omega
      rcases hi with hi | rfl
      · rw [List.getElem?_append_left hi] at hq
        rw [List.getElem?_append_left (by omega)] at hx
        obtain ⟨h1, h2⟩ := SD.out.item i q x hq hx
        have h3 := hni q x h2
        exact ⟨h1, (put_other (ne_of_type h3 hb3 (by decide)) 3 _).trans h3⟩
      · rw [List.getElem?_append_right (Nat.le_refl _), Nat.sub_self] at hq
        rw [List.getElem?_append_right (by omega), hlen, Nat.sub_self] at hx
        simp only [List.getElem?_cons_zero, Option.some.injEq] at hq hx
        subst hq; subst hx
        exact ⟨HP.out.1, (put_other (ne_of_type hp3 hb3 (by decide)) 3 _).trans hp3⟩
  have FINA := Aside0.mk FIN
  refine one_ (i := 9) (N := some 13) #[true, true, true, true, true, true, true, true, true, true, false, false, false] rfl rfl (one_of HT_.out (by kernel_rfl)) (by decide) (fun K hK => ?_)
  refine value_ (w1 := w3) (v := .slice (some ⟨g2, 0, none⟩) (xs.length + 1) cap2) (by rfl) rfl ?_ ?_
  · exact app_ (s := .tmp 8) (y := .tmp 12) rfl rfl rfl hrun
  refine hK.out _ _ hc3 (fun hHeld => ?_)
  clear hK K FIN hrun hown2 hgr hat hnb hni hb3 hp3 hB3 hrow hbw
  refine norm_ (a' := ?_) ?_ ?_
  rotate_left
  · show Act.put _ (some 13) _ = _
    simp only [Act.put, List.setIfInBounds_toArray, List.set_cons_zero, List.set_cons_succ, i64_w, i32_w]
    rfl
  refine pure_ (i := 10) (N := some 14) (v := ?_) (a' := ?_) #[true, true, true, true, true, true, true, true, true, true, true, false, false] rfl rfl (any_of HT_.out (by kernel_rfl)) (fun _ _ _ h => h) (Or.inl ⟨by rfl, ?_⟩) ?_ ?_
  rotate_left
  · intro w'
    go_simp
    with_reducible rfl
  rotate_left
  · simp only [Act.put, List.setIfInBounds_toArray, List.set_cons_zero, List.set_cons_succ, i64_w, i32_w]
    rfl
  refine pure_ (i := 11) (N := some 15) (v := ?_) (a' := ?_) #[true, true, true, true, true, true, true, true, true, true, true, true, false] rfl rfl (any_of HT_.out (by kernel_rfl)) (fun _ _ _ h => h) (Or.inl ⟨by rfl, ?_⟩) ?_ ?_
  rotate_left
  · intro w'
    go_simp
    with_reducible rfl
  rotate_left
  · simp only [Act.put, List.setIfInBounds_toArray, List.set_cons_zero, List.set_cons_succ, i64_w, i32_w]
    rfl
  refine last_ (i := 12) (N := none) #[true, true, true, true, true, true, true, true, true, true, true, true, true] rfl rfl (one_of HT_.out (by kernel_rfl)) (by decide) (fun K hK => ?_)
  refine skip_ (w1 := w3.setCell ⟨b, 3, none⟩ (.slice (some ⟨g2, 0, none⟩) (xs.length + 1) cap2)) (by rfl) rfl ?_ ?_
  · go_simp
  refine hK.out _ _ ?_
  clear hK K
  refine done_ (done_of HT_.out (by kernel_rfl)) ?_
  try go_wp2
  go_end0
  exact ⟨rfl, FINA.out⟩
end Go.Proofs.YthjkmjimlhpbfaaGreatDoor.Lap
end
