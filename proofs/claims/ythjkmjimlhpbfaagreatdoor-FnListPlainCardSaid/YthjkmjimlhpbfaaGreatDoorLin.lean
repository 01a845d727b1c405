/- The walk of initForRender. -/
import Derived.Test.YthjkmjimlhpbfaaGreatDoorLsC
import Derived.Test.YthjkmjimlhpbfaaGreatDoorShelf
import Derived.Deep.CutRange
import Derived.OrdersHeld
import Derived.Test.YthjkmjimlhpbfaaGreatDoorWTab
import Derived.Test.YthjkmjimlhpbfaaGreatDoorWMore
import Derived.Deep.RegionWith
namespace Go.Proofs.YthjkmjimlhpbfaaGreatDoor.Lin
open Go Go.RowKit Go.Lib Go.Proofs.YthjkmjimlhpbfaaGreatDoor.GLsBody Go.Proofs.YthjkmjimlhpbfaaGreatDoor.Lst Go.Proofs.YthjkmjimlhpbfaaGreatDoor.Lmo Go.Proofs.YthjkmjimlhpbfaaGreatDoor.Blb Go.Proofs.YthjkmjimlhpbfaaGreatDoor.Lpr Go.Proofs.YthjkmjimlhpbfaaGreatDoor.Lan Go.Proofs.YthjkmjimlhpbfaaGreatDoor.Lri Go.Proofs.YthjkmjimlhpbfaaGreatDoorW.PrintWords Go.Proofs.YthjkmjimlhpbfaaGreatDoorW.PrintLast Go.Proofs.YthjkmjimlhpbfaaGreatDoorW.PrintMore

set_option linter.all false in
set_option maxRecDepth 100000 in
set_option maxHeartbeats 1000000 in
/-- Style, where one is set -/
theorem styled {w0 w : World} {b sg : Nat} {v : Value} {ps : List Nat} {xs : List (Int × ByteArray)} {lv ap : Int} {cv css : ByteArray} (S : LstV w0 b v ps xs lv ap cv css (some ⟨sg, 0, none⟩) w) :
    Calls Tryz.prog 43 #[.pointer (some ⟨b, 0, none⟩)] w fun e w' => e = .returned (.pointer (some ⟨sg, 0, none⟩)) ∧ w' = w := by
  have c5 : w.cell? ⟨b, 5, none⟩ = some (.pointer (some ⟨sg, 0, none⟩)) := S.c 5
  clear S
  go_enter Tryz.func43, Tryz.ntmps43
  go_wp2_with (fail)
  go_ret
  exact ⟨rfl, rfl⟩

theorem iter_below (w : World) (s : ByteArray) (pos : Nat) : Below w.heap.size w (w.iter s pos) := by
  first | exact (Below.refl _ w).alloc (Nat.le_refl _) _ | exact below_iter _ _ _

/-- counted: where the counter goes after, a block more -/
theorem count (s : ByteArray) (w : World) (hs : s.size ≤ 100000) :
    Calls Tryz.prog 45 #[.string s] w fun e w' => e = .returned (.int .i64 (Lib.runeCount s)) ∧ Below w.heap.size w w' :=
  (Tryz.utf8_RuneCountInString s w (by omega)).mono (by rintro e w' ⟨he, pos, rfl⟩; exact ⟨he, iter_below _ _ _⟩)

/-- list and style lie, the size told so far is n -/
structure Ist (Ex : Nat → Obj → Prop) (w0 : World) (b sg : Nat) (v : Value) (ps : List Nat) (xs : List (Int × ByteArray)) (lv fm : Int) (cv css s1 s2 s3 s4 s5 s6 s7 s8 s9 : ByteArray) (n : Int) (w : World) : Prop where
  lst : LstV w0 b v ps xs lv n cv css (some ⟨sg, 0, none⟩) w
  sty : Sty w sg fm s1 s2 s3 s4 s5 s6 s7 s8 s9
  /-- these blocks lie, too -/
  ex : ∀ k o, Ex k o → k ≠ b ∧ w.heap[k]? = some o
section
variable {Ex : Nat → Obj → Prop} {w0 w w' : World} {b sg : Nat} {v : Value} {ps : List Nat} {xs : List (Int × ByteArray)} {lv fm : Int} {cv css s1 s2 s3 s4 s5 s6 s7 s8 s9 : ByteArray} {n : Int}
theorem Ist.kept (h : Ist Ex w0 b sg v ps xs lv fm cv css s1 s2 s3 s4 s5 s6 s7 s8 s9 n w) (hw : Below w.heap.size w w') : Ist Ex w0 b sg v ps xs lv fm cv css s1 s2 s3 s4 s5 s6 s7 s8 s9 n w' :=
  ⟨h.lst.kept hw, (hw.block _ (Lst.lt_of h.sty)).trans h.sty, fun k o he => ⟨(h.ex k o he).1, (hw.block _ (Lst.lt_of (h.ex k o he).2)).trans (h.ex k o he).2⟩⟩
theorem Ist.drew (h : Ist Ex w0 b sg v ps xs lv fm cv css s1 s2 s3 s4 s5 s6 s7 s8 s9 n w) : Ist Ex w0 b sg v ps xs lv fm cv css s1 s2 s3 s4 s5 s6 s7 s8 s9 n w.drew := h.kept ⟨rfl, rfl, rfl, Nat.le_refl _, fun _ _ => rfl⟩
theorem Ist.put (h : Ist Ex w0 b sg v ps xs lv fm cv css s1 s2 s3 s4 s5 s6 s7 s8 s9 n w) (m : Int) : Ist Ex w0 b sg v ps xs lv fm cv css s1 s2 s3 s4 s5 s6 s7 s8 s9 m (w.setCell ⟨b, 0, none⟩ (.int .i64 m)) :=
  ⟨h.lst.put 0 _ rfl, (put_other (ne_of_type h.sty h.lst.own (by decide)) 0 _).trans h.sty, fun k o he => ⟨(h.ex k o he).1, (put_other (h.ex k o he).1 0 _).trans (h.ex k o he).2⟩⟩
theorem Ist.put1 (h : Ist Ex w0 b sg v ps xs lv fm cv css s1 s2 s3 s4 s5 s6 s7 s8 s9 n w) (c : ByteArray) : Ist Ex w0 b sg v ps xs lv fm c css s1 s2 s3 s4 s5 s6 s7 s8 s9 n (w.setCell ⟨b, 1, none⟩ (.string c)) :=
  ⟨h.lst.put 1 _ rfl, (put_other (ne_of_type h.sty h.lst.own (by decide)) 1 _).trans h.sty, fun k o he => ⟨(h.ex k o he).1, (put_other (h.ex k o he).1 1 _).trans (h.ex k o he).2⟩⟩
theorem Ist.put2 (h : Ist Ex w0 b sg v ps xs lv fm cv css s1 s2 s3 s4 s5 s6 s7 s8 s9 n w) (c : ByteArray) : Ist Ex w0 b sg v ps xs lv fm cv c s1 s2 s3 s4 s5 s6 s7 s8 s9 n (w.setCell ⟨b, 2, none⟩ (.string c)) :=
  ⟨h.lst.put 2 _ rfl, (put_other (ne_of_type h.sty h.lst.own (by decide)) 2 _).trans h.sty, fun k o he => ⟨(h.ex k o he).1, (put_other (h.ex k o he).1 2 _).trans (h.ex k o he).2⟩⟩
theorem Ist.facts (h : Ist Ex w0 b sg v ps xs lv fm cv css s1 s2 s3 s4 s5 s6 s7 s8 s9 n w) : w.cell? ⟨b, 0, none⟩ = some (.int .i64 n) ∧ w.cell? ⟨b, 5, none⟩ = some (.pointer (some ⟨sg, 0, none⟩)) ∧ w.cell? ⟨sg, 8, none⟩ = some (.string s8) ∧ w.cell? ⟨sg, 5, none⟩ = some (.string s5) ∧ w.cell? ⟨sg, 7, none⟩ = some (.string s7) ∧ w.frozen? ⟨b, 0, none⟩ = false :=
  ⟨h.lst.c 0, h.lst.c 5, (Lib.cell_of_heap h.sty 8).trans rfl, (Lib.cell_of_heap h.sty 5).trans rfl, (Lib.cell_of_heap h.sty 7).trans rfl, h.lst.fz 0⟩
end

theorem row_of {w0 w : World} {b : Nat} {v : Value} {ps : List Nat} {xs : List (Int × ByteArray)} {lv ap : Int} {cv css : ByteArray} {sp : Option Addr} (S : LstV w0 b v ps xs lv ap cv css sp w) : ∃ A c, v = .slice A xs.length c := by
  rcases S.val with ⟨hz, rfl⟩ | ⟨g, cap, rfl, _, _⟩
  · exact ⟨none, 0, by rw [hz]⟩
  · exact ⟨_, _, rfl⟩
theorem row_at {w0 w : World} {b : Nat} {v : Value} {ps : List Nat} {xs : List (Int × ByteArray)} {lv ap : Int} {cv css : ByteArray} {sp : Option Addr} (S : LstV w0 b v ps xs lv ap cv css sp w) (j : Nat) (hj : j < xs.length) :
    ∃ g c p, v = .slice (some ⟨g, 0, none⟩) xs.length c ∧ ps[j]? = some p ∧ w.cell? ⟨g, j, none⟩ = some (.pointer (some ⟨p, 0, none⟩)) ∧ w.heap[p]? = some (.cells (icells xs[j]) 63 (0, 0)) := by
  have hl : j < ps.length := by rw [S.len]; exact hj
  rcases S.val with ⟨hz, rfl⟩ | ⟨g, cap, rfl, _, hc⟩
  · omega
  · exact ⟨g, cap, ps[j], rfl, List.getElem?_eq_getElem hl, hc j _ (List.getElem?_eq_getElem hl), (S.item j _ _ (List.getElem?_eq_getElem hl) (List.getElem?_eq_getElem hj)).2⟩

-- TABLES
def T6 : Bool × List (List Nat × List Nat) := (true, [([], []), ([0], [0]), ([1], [1]), ([2], [2]), ([], []), ([4], [4]), ([5], [5]), ([6], [6]), ([7], [7]), ([8], [8]), ([9], [9]), ([10], [10]), ([3, 11], [3, 11]), ([0, 0, 1, 2, 3, 4, 5, 6, 7, 8, 9, 10, 11, 12], [0]), ([13, 0, 1, 2, 3, 4, 5, 6, 7, 8, 9, 10, 11, 12], [13]), ([14, 12, 11, 0, 1, 2, 3, 4, 5, 6, 7, 8, 9, 10, 11, 12], [12, 14])])
def B6 : List Nat := [0, 1, 3, 7, 0, 16, 48, 112, 240, 496, 1008, 2032, 4095, 8191, 16383, 32767]
theorem tab6 : rtab .any (opsOf Tryz.f35 6) = T6 := by kernel_rfl
theorem bits6 : waitsOk T6.2 B6 = true := by kernel_rfl
def T8 : Bool × List (List Nat × List Nat) := (true, [([], []), ([0], [0]), ([1], [1]), ([2], [2]), ([], []), ([4], [4]), ([5], [5]), ([6], [6]), ([7], [7]), ([8], [8]), ([9], [9]), ([10], [10]), ([], []), ([12], [12]), ([13], [13]), ([14], [14]), ([11, 15], [11, 15]), ([3, 16], [3, 16]), ([0, 0, 1, 2, 3, 4, 5, 6, 7, 8, 9, 10, 11, 12, 13, 14, 15, 16, 17], [0]), ([18, 0, 1, 2, 3, 4, 5, 6, 7, 8, 9, 10, 11, 12, 13, 14, 15, 16, 17], [18]), ([19, 17, 11, 0, 1, 2, 3, 4, 5, 6, 7, 8, 9, 10, 11, 12, 13, 14, 15, 16, 17], [17, 19])])
def B8 : List Nat := [0, 1, 3, 7, 0, 16, 48, 112, 240, 496, 1008, 2032, 0, 4096, 12288, 28672, 65520, 131071, 262143, 524287, 1048575]
theorem tab8 : rtab .any (opsOf Tryz.f35 8) = T8 := by kernel_rfl
theorem bits8 : waitsOk T8.2 B8 = true := by kernel_rfl
def T9 : Bool × List (List Nat × List Nat) := (true, [([], []), ([0], [0]), ([1], [1]), ([2], [2]), ([], []), ([4], [4]), ([5], [5]), ([6], [6]), ([7], [7]), ([8], [8]), ([9], [9]), ([10], [10]), ([3, 11], [3, 11]), ([0, 0, 1, 2, 3, 4, 5, 6, 7, 8, 9, 10, 11, 12], [0]), ([13, 0, 1, 2, 3, 4, 5, 6, 7, 8, 9, 10, 11, 12], [13]), ([14, 12, 11, 0, 1, 2, 3, 4, 5, 6, 7, 8, 9, 10, 11, 12], [12, 14])])
def B9 : List Nat := [0, 1, 3, 7, 0, 16, 48, 112, 240, 496, 1008, 2032, 4095, 8191, 16383, 32767]
theorem tab9 : rtab .any (opsOf Tryz.f35 9) = T9 := by kernel_rfl
theorem bits9 : waitsOk T9.2 B9 = true := by kernel_rfl
def T10 : Bool × List (List Nat × List Nat) := (true, [([], []), ([0], [0]), ([1], [1]), ([2], [2]), ([], []), ([4], [4]), ([5], [5]), ([6], [6]), ([7], [7]), ([3, 8], [3, 8]), ([0, 0, 1, 2, 3, 4, 5, 6, 7, 8, 9], [0]), ([10, 0, 1, 2, 3, 4, 5, 6, 7, 8, 9], [10]), ([11, 9, 8, 0, 1, 2, 3, 4, 5, 6, 7, 8, 9], [9, 11])])
def B10 : List Nat := [0, 1, 3, 7, 0, 16, 48, 112, 240, 511, 1023, 2047, 4095]
theorem tab10 : rtab .any (opsOf Tryz.f35 10) = T10 := by kernel_rfl
theorem bits10 : waitsOk T10.2 B10 = true := by kernel_rfl
def T11 : Bool × List (List Nat × List Nat) := (true, [([], []), ([0], [0]), ([1], [1]), ([2], [2]), ([], []), ([4], [4]), ([5], [5]), ([6], [6]), ([7], [7]), ([8], [8]), ([9], [9]), ([10], [10]), ([3, 11], [3, 11]), ([0, 0, 1, 2, 3, 4, 5, 6, 7, 8, 9, 10, 11, 12], [0]), ([13, 0, 1, 2, 3, 4, 5, 6, 7, 8, 9, 10, 11, 12], [13]), ([14, 12, 11, 0, 1, 2, 3, 4, 5, 6, 7, 8, 9, 10, 11, 12], [12, 14])])
def B11 : List Nat := [0, 1, 3, 7, 0, 16, 48, 112, 240, 496, 1008, 2032, 4095, 8191, 16383, 32767]
theorem tab11 : rtab .any (opsOf Tryz.f35 11) = T11 := by kernel_rfl
theorem bits11 : waitsOk T11.2 B11 = true := by kernel_rfl
-- END TABLES

set_option linter.all false in
set_option maxRecDepth 100000 in
set_option maxHeartbeats 4000000 in
theorem init {Ex : Nat → Obj → Prop} {w0 w : World} {b sg : Nat} {A : Option Addr} {c : Nat} {ps : List Nat} {xs : List (Int × ByteArray)} {lv ap fm : Int} {cv css s1 s2 s3 s4 s5 s6 s7 s8 s9 : ByteArray} (HSt : Calls Tryz.prog 43 #[.pointer (some ⟨b, 0, none⟩)] w fun e w' => e = .returned (.pointer (some ⟨sg, 0, none⟩)) ∧ Ist Ex w0 b sg (.slice A xs.length c) ps xs lv fm cv css s1 s2 s3 s4 s5 s6 s7 s8 s9 ap w')
    (hn : xs.length ≤ 100000) (h5 : s5.size ≤ 1000) (h7 : s7.size ≤ 1000) (h8 : s8.size ≤ 1000) (hx : ∀ x ∈ xs, 0 ≤ x.1 ∧ x.1 ≤ 100000 ∧ x.2.size ≤ 100000) :
    Calls Tryz.prog 35 #[.pointer (some ⟨b, 0, none⟩)] w fun e w' => e = .returned (.tuple #[]) ∧ ∃ n css', 0 ≤ n ∧ n ≤ 100000000000000 ∧ Ist Ex w0 b sg (.slice A xs.length c) ps xs lv fm ⟨(Lib.repeatL [32] (Lib.runeCount s5)).toArray⟩ css' s1 s2 s3 s4 s5 s6 s7 s8 s9 n w' := by
  have HSA := Aside0.mk HSt
  have H5 := Aside0.mk (And.intro h5 (And.intro h7 (And.intro h8 (And.intro hn hx))))
  obtain ⟨cw, hcw⟩ : ∃ cw : ByteArray, cw = ⟨(Lib.repeatL [32] (Lib.runeCount s5)).toArray⟩ := ⟨_, rfl⟩
  rw [← hcw]
  have HCW := Aside0.mk hcw
  clear HSt h5 hx h7 h8 hn hcw
  obtain ⟨n, hN⟩ : ∃ n, n = xs.length := ⟨_, rfl⟩
  have HN := Aside0.mk hN
  have c3f : ∀ w', Ist Ex w0 b sg (.slice A xs.length c) ps xs lv fm cv css s1 s2 s3 s4 s5 s6 s7 s8 s9 ap w' → w'.cell? ⟨b, 3, none⟩ = some (.slice A n c) := fun w' h => by rw [hN]; exact h.lst.c 3
  have C3F := Aside0.mk c3f
  clear hN c3f
  go_enter Tryz.func35, Tryz.ntmps35
  go_wp2_with (first
    | (go_at_call 43; go_must (refine (HSA.out).mono ?_; rintro e w1 ⟨rfl, I1⟩; have f5 := I1.facts.2.2.2.1; have f1 := I1.facts.2.1; have HF := Aside0.mk I1; clear I1))
    | (go_at_call 45; go_must (refine (count s5 _ (by have := H5.out; omega)).mono ?_; rintro e w2 ⟨rfl, hb2⟩))
    | (go_at_call 44; go_must (refine (Tryz.strings_Repeat ⟨#[32]⟩ (Lib.runeCount s5) _ (by have := H5.out; have := Lib.runeCount_le s5; omega) (by have := H5.out; have := Lib.runeCount_le s5; show 1 * _ ≤ _; omega)).mono ?_; rintro e w3 ⟨rfl, hb3⟩; rw [show (⟨(Lib.repeatL (ByteArray.mk #[32]).data.toList (Lib.runeCount s5)).toArray⟩ : ByteArray) = cw from HCW.out.symm]; have I3 := (HF.out.kept hb2).kept hb3; have q0 : w3.cell? ⟨b, 0, none⟩ = some (.int .i64 ap) := I3.lst.c 0; have q1 : w3.cell? ⟨b, 1, none⟩ = some (.string cv) := I3.lst.c 1; have q3 := C3F.out _ I3; have z0 := I3.lst.fz 0; have z1 := I3.lst.fz 1; have I4 := Aside0.mk I3; clear I3 hb2 hb3)))
  have I5 : Aside0 (Ist Ex w0 b sg (.slice A xs.length c) ps xs lv fm cw css s1 s2 s3 s4 s5 s6 s7 s8 s9 0 ((w3.setCell ⟨b, 1, none⟩ (.string cw)).setCell ⟨b, 0, none⟩ (.int .i64 0))) :=
    ⟨(I4.out.put1 cw).put 0⟩
  clear q0 q1 q3 z0 z1 I4 f5 f1
  go_loopw [26] (fun i wr => ∃ j : Nat, j ≤ n ∧ i = .int .i64 j ∧ ∃ m : Int, 0 ≤ m ∧ m ≤ j * 200000000 ∧ Aside0 (Ist Ex w0 b sg (.slice A xs.length c) ps xs lv fm cw css s1 s2 s3 s4 s5 s6 s7 s8 s9 m wr)) (fun i _ => n - (RowKit.intOf i).toNat)
  case atStart => exact ⟨0, by omega, rfl, 0, by omega, by omega, I5⟩
  case round =>
    obtain ⟨j, hj, rfl, m, hm0, hm1, IA⟩ := hrel
    by_cases hlt : j < n
    · have hd : decide ((j : Int) < (n : Int)) = true := by simp; omega
      have hjl : j < xs.length := by rw [← HN.out]; exact hlt
      obtain ⟨g, c', p, hv, hp, cg, hpi⟩ := row_at IA.out.lst j hjl
      obtain ⟨rfl, _, rfl⟩ : A = some ⟨g, 0, none⟩ ∧ xs.length = xs.length ∧ c = c' := by injection hv with a1 a2 a3; exact ⟨a1, a2, a3⟩
      have hxj := H5.out.2.2.2.2 _ (List.getElem_mem hjl)
      obtain ⟨x, hxe⟩ : ∃ x, x = xs[j] := ⟨_, rfl⟩
      rw [← hxe] at hpi hxj
      obtain ⟨K, t⟩ := x
      have HP := Aside0.mk hpi
      have HX := Aside0.mk (show 0 ≤ K ∧ K ≤ 100000 ∧ t.size ≤ 100000 from hxj)
      clear hpi hxj hxe hv hp
      have p0 : wr.cell? ⟨p, 0, none⟩ = some (.int .i64 K) := (Lib.cell_of_heap HP.out 0).trans rfl
      clear p0
      obtain ⟨hb5, hb7, hb8, hbn, _⟩ := H5.out
      obtain ⟨hk0, hk1, hts⟩ := HX.out
      have hc8 := Lib.runeCount_le s8
      have hc5 := Lib.runeCount_le s5
      have hc7 := Lib.runeCount_le s7
      have hct := Lib.runeCount_le t
      have hnb : n ≤ 100000 := by rw [HN.out]; exact hbn
      obtain ⟨m6, e6⟩ : ∃ m6 : Int, m6 = m + (Lib.runeCount s8 : Int) := ⟨_, rfl⟩
      have hw6 : IntKind.i64.wrap (m + (Lib.runeCount s8 : Int)) = m6 := by rw [wrap_i _ (by omega) (by omega)]; exact e6.symm
      by_cases hK : 0 < K
      · have q : decide (0 < K) = true := decide_eq_true hK
        have hmul : (Lib.runeCount s5 : Int) * K ≤ 1000 * 100000 := Int.mul_le_mul (by omega) hk1 hk0 (by omega)
        have hmul0 : 0 ≤ (Lib.runeCount s5 : Int) * K := Int.mul_nonneg (by omega) hk0
        obtain ⟨mk, ek⟩ : ∃ mk : Int, mk = (Lib.runeCount s5 : Int) * K := ⟨_, rfl⟩
        rw [← ek] at hmul hmul0
        have hwk : IntKind.i64.wrap ((Lib.runeCount s5 : Int) * K) = mk := by rw [← ek]; exact wrap_i _ (by omega) (by omega)
        obtain ⟨m8, e8⟩ : ∃ m8 : Int, m8 = m6 + mk := ⟨_, rfl⟩
        have hw8 : IntKind.i64.wrap (m6 + mk) = m8 := by rw [wrap_i _ (by omega) (by omega)]; exact e8.symm
        obtain ⟨m9, e9⟩ : ∃ m9 : Int, m9 = m8 + (Lib.runeCount s5 : Int) := ⟨_, rfl⟩
        have hw9 : IntKind.i64.wrap (m8 + (Lib.runeCount s5 : Int)) = m9 := by rw [wrap_i _ (by omega) (by omega)]; exact e9.symm
        obtain ⟨m10, e10⟩ : ∃ m10 : Int, m10 = m9 + (Lib.runeCount t : Int) := ⟨_, rfl⟩
        have hw10 : IntKind.i64.wrap (m9 + (Lib.runeCount t : Int)) = m10 := by rw [wrap_i _ (by omega) (by omega)]; exact e10.symm
        obtain ⟨m11, e11⟩ : ∃ m11 : Int, m11 = m10 + (Lib.runeCount s7 : Int) := ⟨_, rfl⟩
        have hw11 : IntKind.i64.wrap (m10 + (Lib.runeCount s7 : Int)) = m11 := by rw [wrap_i _ (by omega) (by omega)]; exact e11.symm
        have HB : Aside0 (0 ≤ m11 ∧ m11 ≤ ((j + 1 : Nat) : Int) * 200000000) := ⟨by constructor <;> omega⟩
        clear e6 ek e8 e9 e10 e11 hm0 hm1 hmul hmul0 hb5 hb7 hb8 hbn hk0 hk1 hts hc8 hc5 hc7 hct hK
        -- ROUND 1
        go_wp2_with (fail)
        obtain ⟨c0, c5, c8, c5', c7, z0⟩ := IA.out.facts
        have hS0 := Aside0.mk (show World.cell? wr ⟨b, 0, none⟩ = some (.int .i64 m) ∧ World.cell? wr ⟨b, 5, none⟩ = some (.pointer (some ⟨sg, 0, none⟩)) ∧ World.cell? wr ⟨sg, 8, none⟩ = some (.string s8) from ⟨c0, c5, c8⟩)
        clear c0 c5 c8 c5' c7 z0
        refine start_ (n := 16) (S := fun w' => w'.cell? ⟨b, 0, none⟩ = some (.int .i64 m) ∧ w'.cell? ⟨b, 5, none⟩ = some (.pointer (some ⟨sg, 0, none⟩)) ∧ w'.cell? ⟨sg, 8, none⟩ = some (.string s8)) (ds := [15]) #[false, false, false, false, false, false, false, false, false, false, false, false, false, false, false, false] (by kernel_rfl) rfl rfl hS0.out (fun hHeld => ?_); refine with_tabW tab6 bits6 (fun HT_ HW_ => ?_)
        refine pure_ (i := 0) (N := some 30) (v := ?_) (a' := ?_) #[true, false, false, false, false, false, false, false, false, false, false, false, false, false, false, false] rfl rfl (any_of HT_.out (by kernel_rfl)) (fun _ _ _ h => h) (Or.inl ⟨by rfl, ?_⟩) ?_ ?_
        rotate_left
        · intro w'
          go_simp
          with_reducible rfl
        rotate_left
        · simp only [Act.put, List.setIfInBounds_toArray, List.set_cons_zero, List.set_cons_succ, i64_w, i32_w]
          rfl
        refine pure_ (i := 1) (N := some 31) (v := ?_) (a' := ?_) #[true, true, false, false, false, false, false, false, false, false, false, false, false, false, false, false] rfl rfl (any_of HT_.out (by kernel_rfl)) (fun _ _ _ h => h) (Or.inl ⟨by rfl, ?_⟩) ?_ ?_
        rotate_left
        · intro w'
          go_simp
          with_reducible rfl
        rotate_left
        · simp only [Act.put, List.setIfInBounds_toArray, List.set_cons_zero, List.set_cons_succ, i64_w, i32_w]
          rfl
        refine pure_ (i := 2) (N := some 32) (v := ?_) (a' := ?_) #[true, true, true, false, false, false, false, false, false, false, false, false, false, false, false, false] rfl rfl (any_of HT_.out (by kernel_rfl)) (fun _ _ _ h => h) (Or.inl ⟨by rfl, ?_⟩) ?_ ?_
        rotate_left
        · intro w'
          go_simp
          with_reducible rfl
        rotate_left
        · simp only [Act.put, List.setIfInBounds_toArray, List.set_cons_zero, List.set_cons_succ, i64_w, i32_w]
          rfl
        refine take_ (i := 3) (N := some 33) (v := ?_) (a' := ?_) #[true, true, true, true, false, false, false, false, false, false, false, false, false, false, false, false] rfl rfl (take_ofW HT_.out HW_.out (by kernel_rfl)) (fun _ _ _ h => h) (Or.inl ⟨by rfl, ?_⟩) hHeld ?_ ?_
        rotate_left
        · rintro w' ⟨s0, s1, s2⟩
          go_simp
          with_reducible rfl
        rotate_left
        · simp only [Act.put, List.setIfInBounds_toArray, List.set_cons_zero, List.set_cons_succ, i64_w, i32_w]
          rfl
        refine pure_ (i := 4) (N := some 34) (v := ?_) (a' := ?_) #[true, true, true, true, true, false, false, false, false, false, false, false, false, false, false, false] rfl rfl (any_of HT_.out (by kernel_rfl)) (fun _ _ _ h => h) (Or.inl ⟨by rfl, ?_⟩) ?_ ?_
        rotate_left
        · intro w'
          go_simp
          with_reducible rfl
        rotate_left
        · simp only [Act.put, List.setIfInBounds_toArray, List.set_cons_zero, List.set_cons_succ, i64_w, i32_w]
          rfl
        refine pure_ (i := 5) (N := some 35) (v := ?_) (a' := ?_) #[true, true, true, true, true, true, false, false, false, false, false, false, false, false, false, false] rfl rfl (any_of HT_.out (by kernel_rfl)) (fun _ _ _ h => h) (Or.inl ⟨by rfl, ?_⟩) ?_ ?_
        rotate_left
        · intro w'
          go_simp
          with_reducible rfl
        rotate_left
        · simp only [Act.put, List.setIfInBounds_toArray, List.set_cons_zero, List.set_cons_succ, i64_w, i32_w]
          rfl
        refine pure_ (i := 6) (N := some 36) (v := ?_) (a' := ?_) #[true, true, true, true, true, true, true, false, false, false, false, false, false, false, false, false] rfl rfl (any_of HT_.out (by kernel_rfl)) (fun _ _ _ h => h) (Or.inl ⟨by rfl, ?_⟩) ?_ ?_
        rotate_left
        · intro w'
          go_simp
          with_reducible rfl
        rotate_left
        · simp only [Act.put, List.setIfInBounds_toArray, List.set_cons_zero, List.set_cons_succ, i64_w, i32_w]
          rfl
        refine take_ (i := 7) (N := some 37) (v := ?_) (a' := ?_) #[true, true, true, true, true, true, true, true, false, false, false, false, false, false, false, false] rfl rfl (take_ofW HT_.out HW_.out (by kernel_rfl)) (fun _ _ _ h => h) (Or.inl ⟨by rfl, ?_⟩) hHeld ?_ ?_
        rotate_left
        · rintro w' ⟨s0, s1, s2⟩
          go_simp
          with_reducible rfl
        rotate_left
        · simp only [Act.put, List.setIfInBounds_toArray, List.set_cons_zero, List.set_cons_succ, i64_w, i32_w]
          rfl
        refine pure_ (i := 8) (N := some 38) (v := ?_) (a' := ?_) #[true, true, true, true, true, true, true, true, true, false, false, false, false, false, false, false] rfl rfl (any_of HT_.out (by kernel_rfl)) (fun _ _ _ h => h) (Or.inl ⟨by rfl, ?_⟩) ?_ ?_
        rotate_left
        · intro w'
          go_simp
          with_reducible rfl
        rotate_left
        · simp only [Act.put, List.setIfInBounds_toArray, List.set_cons_zero, List.set_cons_succ, i64_w, i32_w]
          rfl
        refine pure_ (i := 9) (N := some 39) (v := ?_) (a' := ?_) #[true, true, true, true, true, true, true, true, true, true, false, false, false, false, false, false] rfl rfl (any_of HT_.out (by kernel_rfl)) (fun _ _ _ h => h) (Or.inl ⟨by rfl, ?_⟩) ?_ ?_
        rotate_left
        · intro w'
          go_simp
          with_reducible rfl
        rotate_left
        · simp only [Act.put, List.setIfInBounds_toArray, List.set_cons_zero, List.set_cons_succ, i64_w, i32_w]
          rfl
        refine take_ (i := 10) (N := some 40) (v := ?_) (a' := ?_) #[true, true, true, true, true, true, true, true, true, true, true, false, false, false, false, false] rfl rfl (take_ofW HT_.out HW_.out (by kernel_rfl)) (fun _ _ _ h => h) (Or.inl ⟨by rfl, ?_⟩) hHeld ?_ ?_
        rotate_left
        · rintro w' ⟨s0, s1, s2⟩
          go_simp
          with_reducible rfl
        rotate_left
        · simp only [Act.put, List.setIfInBounds_toArray, List.set_cons_zero, List.set_cons_succ, i64_w, i32_w]
          rfl
        refine one_ (i := 11) (N := some 41) #[true, true, true, true, true, true, true, true, true, true, true, true, false, false, false, false] rfl rfl (one_of HT_.out (by kernel_rfl)) (by decide) (fun Kc hKc => ?_)
        refine goes_ Tryz.func45 (by kernel_rfl) rfl #[.string s8] (by rfl) rfl rfl (by (try simp only [List.map_toArray, List.map_cons, List.map_nil]); first | done | rfl) ?_
        refine (count s8 _ (by have := H5.out; have := HX.out; omega)).mono ?_
        rintro e wa6 ⟨rfl, hba⟩
        refine ⟨_, rfl, ?_⟩
        have ib6 := Aside0.mk (IA.out.drew.kept hba)
        have hp6 := Aside0.mk ((hba.block _ (Lst.lt_of HP.out)).trans HP.out)
        obtain ⟨c0, c5, c8, c5', c7, z0⟩ := ib6.out.facts
        have hS1 := Aside0.mk (show World.cell? wa6 ⟨b, 0, none⟩ = some (.int .i64 m) ∧ World.cell? wa6 ⟨b, 5, none⟩ = some (.pointer (some ⟨sg, 0, none⟩)) ∧ World.cell? wa6 ⟨sg, 8, none⟩ = some (.string s8) from ⟨c0, c5, c8⟩)
        clear c0 c5 c8 c5' c7
        obtain ⟨w6, hw6⟩ : ∃ w6, w6 = World.setCell wa6 ⟨b, 0, none⟩ (.int .i64 m6) := ⟨_, rfl⟩
        have HW6 := Aside0.mk hw6
        have I6 : Aside0 (Ist Ex w0 b sg (.slice (some ⟨g, 0, none⟩) xs.length c) ps xs lv fm cw css s1 s2 s3 s4 s5 s6 s7 s8 s9 m6 w6) := ⟨by rw [hw6]; exact ib6.out.put _⟩
        have HP6 : Aside0 (w6.heap[p]? = some (.cells (icells (K, t)) 63 (0, 0))) := ⟨by rw [hw6]; exact (put_other (ne_of_type hp6.out ib6.out.lst.own (by decide)) 0 _).trans hp6.out⟩
        clear hw6 hba
        refine hKc.out _ _ hS1.out (fun hHeld => ?_)
        clear hKc Kc
        refine norm_ (a' := ?_) ?_ ?_
        rotate_left
        · show Act.put _ (some 41) _ = _
          simp only [Act.put, List.setIfInBounds_toArray, List.set_cons_zero, List.set_cons_succ, i64_w, i32_w]
          rfl
        refine pure_ (i := 12) (N := some 42) (v := ?_) (a' := ?_) #[true, true, true, true, true, true, true, true, true, true, true, true, true, false, false, false] rfl rfl (any_of HT_.out (by kernel_rfl)) (fun _ _ _ h => h) (Or.inl ⟨by rfl, ?_⟩) ?_ ?_
        rotate_left
        · intro w'
          go_simp
          with_reducible rfl
        rotate_left
        · simp only [Act.put, List.setIfInBounds_toArray, List.set_cons_zero, List.set_cons_succ, i64_w, i32_w]
          rfl
        refine pure_ (i := 13) (N := some 43) (v := ?_) (a' := ?_) #[true, true, true, true, true, true, true, true, true, true, true, true, true, true, false, false] rfl rfl (any_of HT_.out (by kernel_rfl)) (fun _ _ _ h => h) (Or.inl ⟨by rfl, ?_⟩) ?_ ?_
        rotate_left
        · intro w'
          go_simp
          with_reducible rfl
        rotate_left
        · simp only [Act.put, List.setIfInBounds_toArray, List.set_cons_zero, List.set_cons_succ, i64_w, i32_w]
          rfl
        refine pure_ (i := 14) (N := some 44) (v := ?_) (a' := ?_) #[true, true, true, true, true, true, true, true, true, true, true, true, true, true, true, false] rfl rfl (any_of HT_.out (by kernel_rfl)) (fun _ _ _ h => h) (Or.inl ⟨by rfl, ?_⟩) ?_ ?_
        rotate_left
        · intro w'
          go_simp
          with_reducible rfl
        rotate_left
        · simp only [Act.put, List.setIfInBounds_toArray, List.set_cons_zero, List.set_cons_succ, i64_w, i32_w]
          rfl
        refine last_ (i := 15) (N := none) #[true, true, true, true, true, true, true, true, true, true, true, true, true, true, true, true] rfl rfl (one_of HT_.out (by kernel_rfl)) (by decide) (fun Kc hKc => ?_)
        refine skip_ (w1 := w6) (by rfl) rfl ?_ ?_
        · rw [HW6.out]; go_simp
          try rfl
        refine hKc.out _ _ ?_
        clear hKc Kc
        refine done_ (done_of HT_.out (by kernel_rfl)) ?_
        clear hS0 hS1 hHeld z0
        have p0 : World.cell? w6 ⟨p, 0, none⟩ = some (.int .i64 K) := (Lib.cell_of_heap HP6.out 0).trans rfl
        go_wp2_with (fail)
        clear p0
        obtain ⟨c0, c5, c8, c5', c7, z0⟩ := I6.out.facts
        have hS0 := Aside0.mk (show World.cell? w6 ⟨b, 0, none⟩ = some (.int .i64 m6) ∧ World.cell? w6 ⟨b, 5, none⟩ = some (.pointer (some ⟨sg, 0, none⟩)) ∧ World.cell? w6 ⟨sg, 5, none⟩ = some (.string s5) ∧ World.cell? w6 ⟨p, 0, none⟩ = some (.int .i64 K) from ⟨c0, c5, c5', ((Lib.cell_of_heap HP6.out 0).trans rfl)⟩)
        clear c0 c5 c8 c5' c7 z0
        refine start_ (n := 21) (S := fun w' => w'.cell? ⟨b, 0, none⟩ = some (.int .i64 m6) ∧ w'.cell? ⟨b, 5, none⟩ = some (.pointer (some ⟨sg, 0, none⟩)) ∧ w'.cell? ⟨sg, 5, none⟩ = some (.string s5) ∧ w'.cell? ⟨p, 0, none⟩ = some (.int .i64 K)) (ds := [20]) #[false, false, false, false, false, false, false, false, false, false, false, false, false, false, false, false, false, false, false, false, false] (by kernel_rfl) rfl rfl hS0.out (fun hHeld => ?_); refine with_tabW tab8 bits8 (fun HT_ HW_ => ?_)
        refine pure_ (i := 0) (N := some 50) (v := ?_) (a' := ?_) #[true, false, false, false, false, false, false, false, false, false, false, false, false, false, false, false, false, false, false, false, false] rfl rfl (any_of HT_.out (by kernel_rfl)) (fun _ _ _ h => h) (Or.inl ⟨by rfl, ?_⟩) ?_ ?_
        rotate_left
        · intro w'
          go_simp
          with_reducible rfl
        rotate_left
        · simp only [Act.put, List.setIfInBounds_toArray, List.set_cons_zero, List.set_cons_succ, i64_w, i32_w]
          rfl
        refine pure_ (i := 1) (N := some 51) (v := ?_) (a' := ?_) #[true, true, false, false, false, false, false, false, false, false, false, false, false, false, false, false, false, false, false, false, false] rfl rfl (any_of HT_.out (by kernel_rfl)) (fun _ _ _ h => h) (Or.inl ⟨by rfl, ?_⟩) ?_ ?_
        rotate_left
        · intro w'
          go_simp
          with_reducible rfl
        rotate_left
        · simp only [Act.put, List.setIfInBounds_toArray, List.set_cons_zero, List.set_cons_succ, i64_w, i32_w]
          rfl
        refine pure_ (i := 2) (N := some 52) (v := ?_) (a' := ?_) #[true, true, true, false, false, false, false, false, false, false, false, false, false, false, false, false, false, false, false, false, false] rfl rfl (any_of HT_.out (by kernel_rfl)) (fun _ _ _ h => h) (Or.inl ⟨by rfl, ?_⟩) ?_ ?_
        rotate_left
        · intro w'
          go_simp
          with_reducible rfl
        rotate_left
        · simp only [Act.put, List.setIfInBounds_toArray, List.set_cons_zero, List.set_cons_succ, i64_w, i32_w]
          rfl
        refine take_ (i := 3) (N := some 53) (v := ?_) (a' := ?_) #[true, true, true, true, false, false, false, false, false, false, false, false, false, false, false, false, false, false, false, false, false] rfl rfl (take_ofW HT_.out HW_.out (by kernel_rfl)) (fun _ _ _ h => h) (Or.inl ⟨by rfl, ?_⟩) hHeld ?_ ?_
        rotate_left
        · rintro w' ⟨s0, s1, s2, s3⟩
          go_simp
          with_reducible rfl
        rotate_left
        · simp only [Act.put, List.setIfInBounds_toArray, List.set_cons_zero, List.set_cons_succ, i64_w, i32_w]
          rfl
        refine pure_ (i := 4) (N := some 54) (v := ?_) (a' := ?_) #[true, true, true, true, true, false, false, false, false, false, false, false, false, false, false, false, false, false, false, false, false] rfl rfl (any_of HT_.out (by kernel_rfl)) (fun _ _ _ h => h) (Or.inl ⟨by rfl, ?_⟩) ?_ ?_
        rotate_left
        · intro w'
          go_simp
          with_reducible rfl
        rotate_left
        · simp only [Act.put, List.setIfInBounds_toArray, List.set_cons_zero, List.set_cons_succ, i64_w, i32_w]
          rfl
        refine pure_ (i := 5) (N := some 55) (v := ?_) (a' := ?_) #[true, true, true, true, true, true, false, false, false, false, false, false, false, false, false, false, false, false, false, false, false] rfl rfl (any_of HT_.out (by kernel_rfl)) (fun _ _ _ h => h) (Or.inl ⟨by rfl, ?_⟩) ?_ ?_
        rotate_left
        · intro w'
          go_simp
          with_reducible rfl
        rotate_left
        · simp only [Act.put, List.setIfInBounds_toArray, List.set_cons_zero, List.set_cons_succ, i64_w, i32_w]
          rfl
        refine pure_ (i := 6) (N := some 56) (v := ?_) (a' := ?_) #[true, true, true, true, true, true, true, false, false, false, false, false, false, false, false, false, false, false, false, false, false] rfl rfl (any_of HT_.out (by kernel_rfl)) (fun _ _ _ h => h) (Or.inl ⟨by rfl, ?_⟩) ?_ ?_
        rotate_left
        · intro w'
          go_simp
          with_reducible rfl
        rotate_left
        · simp only [Act.put, List.setIfInBounds_toArray, List.set_cons_zero, List.set_cons_succ, i64_w, i32_w]
          rfl
        refine take_ (i := 7) (N := some 57) (v := ?_) (a' := ?_) #[true, true, true, true, true, true, true, true, false, false, false, false, false, false, false, false, false, false, false, false, false] rfl rfl (take_ofW HT_.out HW_.out (by kernel_rfl)) (fun _ _ _ h => h) (Or.inl ⟨by rfl, ?_⟩) hHeld ?_ ?_
        rotate_left
        · rintro w' ⟨s0, s1, s2, s3⟩
          go_simp
          with_reducible rfl
        rotate_left
        · simp only [Act.put, List.setIfInBounds_toArray, List.set_cons_zero, List.set_cons_succ, i64_w, i32_w]
          rfl
        refine pure_ (i := 8) (N := some 58) (v := ?_) (a' := ?_) #[true, true, true, true, true, true, true, true, true, false, false, false, false, false, false, false, false, false, false, false, false] rfl rfl (any_of HT_.out (by kernel_rfl)) (fun _ _ _ h => h) (Or.inl ⟨by rfl, ?_⟩) ?_ ?_
        rotate_left
        · intro w'
          go_simp
          with_reducible rfl
        rotate_left
        · simp only [Act.put, List.setIfInBounds_toArray, List.set_cons_zero, List.set_cons_succ, i64_w, i32_w]
          rfl
        refine pure_ (i := 9) (N := some 59) (v := ?_) (a' := ?_) #[true, true, true, true, true, true, true, true, true, true, false, false, false, false, false, false, false, false, false, false, false] rfl rfl (any_of HT_.out (by kernel_rfl)) (fun _ _ _ h => h) (Or.inl ⟨by rfl, ?_⟩) ?_ ?_
        rotate_left
        · intro w'
          go_simp
          with_reducible rfl
        rotate_left
        · simp only [Act.put, List.setIfInBounds_toArray, List.set_cons_zero, List.set_cons_succ, i64_w, i32_w]
          rfl
        refine take_ (i := 10) (N := some 60) (v := ?_) (a' := ?_) #[true, true, true, true, true, true, true, true, true, true, true, false, false, false, false, false, false, false, false, false, false] rfl rfl (take_ofW HT_.out HW_.out (by kernel_rfl)) (fun _ _ _ h => h) (Or.inl ⟨by rfl, ?_⟩) hHeld ?_ ?_
        rotate_left
        · rintro w' ⟨s0, s1, s2, s3⟩
          go_simp
          with_reducible rfl
        rotate_left
        · simp only [Act.put, List.setIfInBounds_toArray, List.set_cons_zero, List.set_cons_succ, i64_w, i32_w]
          rfl
        refine pure_ (i := 12) (N := some 62) (v := ?_) (a' := ?_) #[true, true, true, true, true, true, true, true, true, true, true, false, true, false, false, false, false, false, false, false, false] rfl rfl (any_of HT_.out (by kernel_rfl)) (fun _ _ _ h => h) (Or.inl ⟨by rfl, ?_⟩) ?_ ?_
        rotate_left
        · intro w'
          go_simp
          with_reducible rfl
        rotate_left
        · simp only [Act.put, List.setIfInBounds_toArray, List.set_cons_zero, List.set_cons_succ, i64_w, i32_w]
          rfl
        refine pure_ (i := 13) (N := some 63) (v := ?_) (a' := ?_) #[true, true, true, true, true, true, true, true, true, true, true, false, true, true, false, false, false, false, false, false, false] rfl rfl (any_of HT_.out (by kernel_rfl)) (fun _ _ _ h => h) (Or.inl ⟨by rfl, ?_⟩) ?_ ?_
        rotate_left
        · intro w'
          go_simp
          with_reducible rfl
        rotate_left
        · simp only [Act.put, List.setIfInBounds_toArray, List.set_cons_zero, List.set_cons_succ, i64_w, i32_w]
          rfl
        refine pure_ (i := 14) (N := some 64) (v := ?_) (a' := ?_) #[true, true, true, true, true, true, true, true, true, true, true, false, true, true, true, false, false, false, false, false, false] rfl rfl (any_of HT_.out (by kernel_rfl)) (fun _ _ _ h => h) (Or.inl ⟨by rfl, ?_⟩) ?_ ?_
        rotate_left
        · intro w'
          go_simp
          with_reducible rfl
        rotate_left
        · simp only [Act.put, List.setIfInBounds_toArray, List.set_cons_zero, List.set_cons_succ, i64_w, i32_w]
          rfl
        refine take_ (i := 15) (N := some 65) (v := ?_) (a' := ?_) #[true, true, true, true, true, true, true, true, true, true, true, false, true, true, true, true, false, false, false, false, false] rfl rfl (take_ofW HT_.out HW_.out (by kernel_rfl)) (fun _ _ _ h => h) (Or.inl ⟨by rfl, ?_⟩) hHeld ?_ ?_
        rotate_left
        · rintro w' ⟨s0, s1, s2, s3⟩
          go_simp
          with_reducible rfl
        rotate_left
        · simp only [Act.put, List.setIfInBounds_toArray, List.set_cons_zero, List.set_cons_succ, i64_w, i32_w]
          rfl
        refine one_ (i := 11) (N := some 61) #[true, true, true, true, true, true, true, true, true, true, true, true, true, true, true, true, false, false, false, false, false] rfl rfl (one_of HT_.out (by kernel_rfl)) (by decide) (fun Kc hKc => ?_)
        refine goes_ Tryz.func45 (by kernel_rfl) rfl #[.string s5] (by rfl) rfl rfl (by (try simp only [List.map_toArray, List.map_cons, List.map_nil]); first | done | rfl) ?_
        refine (count s5 _ (by have := H5.out; have := HX.out; omega)).mono ?_
        rintro e wa8 ⟨rfl, hba⟩
        refine ⟨_, rfl, ?_⟩
        have ib8 := Aside0.mk (I6.out.drew.kept hba)
        have hp8 := Aside0.mk ((hba.block _ (Lst.lt_of HP6.out)).trans HP6.out)
        obtain ⟨c0, c5, c8, c5', c7, z0⟩ := ib8.out.facts
        have hS1 := Aside0.mk (show World.cell? wa8 ⟨b, 0, none⟩ = some (.int .i64 m6) ∧ World.cell? wa8 ⟨b, 5, none⟩ = some (.pointer (some ⟨sg, 0, none⟩)) ∧ World.cell? wa8 ⟨sg, 5, none⟩ = some (.string s5) ∧ World.cell? wa8 ⟨p, 0, none⟩ = some (.int .i64 K) from ⟨c0, c5, c5', ((Lib.cell_of_heap hp8.out 0).trans rfl)⟩)
        clear c0 c5 c8 c5' c7
        obtain ⟨w8, hw8⟩ : ∃ w8, w8 = World.setCell wa8 ⟨b, 0, none⟩ (.int .i64 m8) := ⟨_, rfl⟩
        have HW8 := Aside0.mk hw8
        have I8 : Aside0 (Ist Ex w0 b sg (.slice (some ⟨g, 0, none⟩) xs.length c) ps xs lv fm cw css s1 s2 s3 s4 s5 s6 s7 s8 s9 m8 w8) := ⟨by rw [hw8]; exact ib8.out.put _⟩
        have HP8 : Aside0 (w8.heap[p]? = some (.cells (icells (K, t)) 63 (0, 0))) := ⟨by rw [hw8]; exact (put_other (ne_of_type hp8.out ib8.out.lst.own (by decide)) 0 _).trans hp8.out⟩
        clear hw8 hba
        refine hKc.out _ _ hS1.out (fun hHeld => ?_)
        clear hKc Kc
        refine norm_ (a' := ?_) ?_ ?_
        rotate_left
        · show Act.put _ (some 61) _ = _
          simp only [Act.put, List.setIfInBounds_toArray, List.set_cons_zero, List.set_cons_succ, i64_w, i32_w]
          rfl
        refine pure_ (i := 16) (N := some 66) (v := ?_) (a' := ?_) #[true, true, true, true, true, true, true, true, true, true, true, true, true, true, true, true, true, false, false, false, false] rfl rfl (any_of HT_.out (by kernel_rfl)) (fun _ _ _ h => h) (Or.inl ⟨by rfl, ?_⟩) ?_ ?_
        rotate_left
        · intro w'
          go_simp
          with_reducible rfl
        rotate_left
        · simp only [Act.put, List.setIfInBounds_toArray, List.set_cons_zero, List.set_cons_succ, i64_w, i32_w]
          rfl
        refine pure_ (i := 17) (N := some 67) (v := ?_) (a' := ?_) #[true, true, true, true, true, true, true, true, true, true, true, true, true, true, true, true, true, true, false, false, false] rfl rfl (any_of HT_.out (by kernel_rfl)) (fun _ _ _ h => h) (Or.inl ⟨by rfl, ?_⟩) ?_ ?_
        rotate_left
        · intro w'
          go_simp
          with_reducible rfl
        rotate_left
        · simp only [Act.put, List.setIfInBounds_toArray, List.set_cons_zero, List.set_cons_succ, i64_w, i32_w]
          rfl
        refine pure_ (i := 18) (N := some 68) (v := ?_) (a' := ?_) #[true, true, true, true, true, true, true, true, true, true, true, true, true, true, true, true, true, true, true, false, false] rfl rfl (any_of HT_.out (by kernel_rfl)) (fun _ _ _ h => h) (Or.inl ⟨by rfl, ?_⟩) ?_ ?_
        rotate_left
        · intro w'
          go_simp
          with_reducible rfl
        rotate_left
        · simp only [Act.put, List.setIfInBounds_toArray, List.set_cons_zero, List.set_cons_succ, i64_w, i32_w]
          rfl
        refine pure_ (i := 19) (N := some 69) (v := ?_) (a' := ?_) #[true, true, true, true, true, true, true, true, true, true, true, true, true, true, true, true, true, true, true, true, false] rfl rfl (any_of HT_.out (by kernel_rfl)) (fun _ _ _ h => h) (Or.inl ⟨by rfl, ?_⟩) ?_ ?_
        rotate_left
        · intro w'
          go_simp
          with_reducible rfl
        rotate_left
        · simp only [Act.put, List.setIfInBounds_toArray, List.set_cons_zero, List.set_cons_succ, i64_w, i32_w]
          rfl
        refine last_ (i := 20) (N := none) #[true, true, true, true, true, true, true, true, true, true, true, true, true, true, true, true, true, true, true, true, true] rfl rfl (one_of HT_.out (by kernel_rfl)) (by decide) (fun Kc hKc => ?_)
        refine skip_ (w1 := w8) (by rfl) rfl ?_ ?_
        · rw [HW8.out]; go_simp
          try rfl
        refine hKc.out _ _ ?_
        clear hKc Kc
        refine done_ (done_of HT_.out (by kernel_rfl)) ?_
        clear hS0 hS1 hHeld z0
        go_wp2_with (fail)
        obtain ⟨c0, c5, c8, c5', c7, z0⟩ := I8.out.facts
        have hS0 := Aside0.mk (show World.cell? w8 ⟨b, 0, none⟩ = some (.int .i64 m8) ∧ World.cell? w8 ⟨b, 5, none⟩ = some (.pointer (some ⟨sg, 0, none⟩)) ∧ World.cell? w8 ⟨sg, 5, none⟩ = some (.string s5) from ⟨c0, c5, c5'⟩)
        clear c0 c5 c8 c5' c7 z0
        refine start_ (n := 16) (S := fun w' => w'.cell? ⟨b, 0, none⟩ = some (.int .i64 m8) ∧ w'.cell? ⟨b, 5, none⟩ = some (.pointer (some ⟨sg, 0, none⟩)) ∧ w'.cell? ⟨sg, 5, none⟩ = some (.string s5)) (ds := [15]) #[false, false, false, false, false, false, false, false, false, false, false, false, false, false, false, false] (by kernel_rfl) rfl rfl hS0.out (fun hHeld => ?_); refine with_tabW tab9 bits9 (fun HT_ HW_ => ?_)
        refine pure_ (i := 0) (N := some 70) (v := ?_) (a' := ?_) #[true, false, false, false, false, false, false, false, false, false, false, false, false, false, false, false] rfl rfl (any_of HT_.out (by kernel_rfl)) (fun _ _ _ h => h) (Or.inl ⟨by rfl, ?_⟩) ?_ ?_
        rotate_left
        · intro w'
          go_simp
          with_reducible rfl
        rotate_left
        · simp only [Act.put, List.setIfInBounds_toArray, List.set_cons_zero, List.set_cons_succ, i64_w, i32_w]
          rfl
        refine pure_ (i := 1) (N := some 71) (v := ?_) (a' := ?_) #[true, true, false, false, false, false, false, false, false, false, false, false, false, false, false, false] rfl rfl (any_of HT_.out (by kernel_rfl)) (fun _ _ _ h => h) (Or.inl ⟨by rfl, ?_⟩) ?_ ?_
        rotate_left
        · intro w'
          go_simp
          with_reducible rfl
        rotate_left
        · simp only [Act.put, List.setIfInBounds_toArray, List.set_cons_zero, List.set_cons_succ, i64_w, i32_w]
          rfl
        refine pure_ (i := 2) (N := some 72) (v := ?_) (a' := ?_) #[true, true, true, false, false, false, false, false, false, false, false, false, false, false, false, false] rfl rfl (any_of HT_.out (by kernel_rfl)) (fun _ _ _ h => h) (Or.inl ⟨by rfl, ?_⟩) ?_ ?_
        rotate_left
        · intro w'
          go_simp
          with_reducible rfl
        rotate_left
        · simp only [Act.put, List.setIfInBounds_toArray, List.set_cons_zero, List.set_cons_succ, i64_w, i32_w]
          rfl
        refine take_ (i := 3) (N := some 73) (v := ?_) (a' := ?_) #[true, true, true, true, false, false, false, false, false, false, false, false, false, false, false, false] rfl rfl (take_ofW HT_.out HW_.out (by kernel_rfl)) (fun _ _ _ h => h) (Or.inl ⟨by rfl, ?_⟩) hHeld ?_ ?_
        rotate_left
        · rintro w' ⟨s0, s1, s2⟩
          go_simp
          with_reducible rfl
        rotate_left
        · simp only [Act.put, List.setIfInBounds_toArray, List.set_cons_zero, List.set_cons_succ, i64_w, i32_w]
          rfl
        refine pure_ (i := 4) (N := some 74) (v := ?_) (a' := ?_) #[true, true, true, true, true, false, false, false, false, false, false, false, false, false, false, false] rfl rfl (any_of HT_.out (by kernel_rfl)) (fun _ _ _ h => h) (Or.inl ⟨by rfl, ?_⟩) ?_ ?_
        rotate_left
        · intro w'
          go_simp
          with_reducible rfl
        rotate_left
        · simp only [Act.put, List.setIfInBounds_toArray, List.set_cons_zero, List.set_cons_succ, i64_w, i32_w]
          rfl
        refine pure_ (i := 5) (N := some 75) (v := ?_) (a' := ?_) #[true, true, true, true, true, true, false, false, false, false, false, false, false, false, false, false] rfl rfl (any_of HT_.out (by kernel_rfl)) (fun _ _ _ h => h) (Or.inl ⟨by rfl, ?_⟩) ?_ ?_
        rotate_left
        · intro w'
          go_simp
          with_reducible rfl
        rotate_left
        · simp only [Act.put, List.setIfInBounds_toArray, List.set_cons_zero, List.set_cons_succ, i64_w, i32_w]
          rfl
        refine pure_ (i := 6) (N := some 76) (v := ?_) (a' := ?_) #[true, true, true, true, true, true, true, false, false, false, false, false, false, false, false, false] rfl rfl (any_of HT_.out (by kernel_rfl)) (fun _ _ _ h => h) (Or.inl ⟨by rfl, ?_⟩) ?_ ?_
        rotate_left
        · intro w'
          go_simp
          with_reducible rfl
        rotate_left
        · simp only [Act.put, List.setIfInBounds_toArray, List.set_cons_zero, List.set_cons_succ, i64_w, i32_w]
          rfl
        refine take_ (i := 7) (N := some 77) (v := ?_) (a' := ?_) #[true, true, true, true, true, true, true, true, false, false, false, false, false, false, false, false] rfl rfl (take_ofW HT_.out HW_.out (by kernel_rfl)) (fun _ _ _ h => h) (Or.inl ⟨by rfl, ?_⟩) hHeld ?_ ?_
        rotate_left
        · rintro w' ⟨s0, s1, s2⟩
          go_simp
          with_reducible rfl
        rotate_left
        · simp only [Act.put, List.setIfInBounds_toArray, List.set_cons_zero, List.set_cons_succ, i64_w, i32_w]
          rfl
        refine pure_ (i := 8) (N := some 78) (v := ?_) (a' := ?_) #[true, true, true, true, true, true, true, true, true, false, false, false, false, false, false, false] rfl rfl (any_of HT_.out (by kernel_rfl)) (fun _ _ _ h => h) (Or.inl ⟨by rfl, ?_⟩) ?_ ?_
        rotate_left
        · intro w'
          go_simp
          with_reducible rfl
        rotate_left
        · simp only [Act.put, List.setIfInBounds_toArray, List.set_cons_zero, List.set_cons_succ, i64_w, i32_w]
          rfl
        refine pure_ (i := 9) (N := some 79) (v := ?_) (a' := ?_) #[true, true, true, true, true, true, true, true, true, true, false, false, false, false, false, false] rfl rfl (any_of HT_.out (by kernel_rfl)) (fun _ _ _ h => h) (Or.inl ⟨by rfl, ?_⟩) ?_ ?_
        rotate_left
        · intro w'
          go_simp
          with_reducible rfl
        rotate_left
        · simp only [Act.put, List.setIfInBounds_toArray, List.set_cons_zero, List.set_cons_succ, i64_w, i32_w]
          rfl
        refine take_ (i := 10) (N := some 80) (v := ?_) (a' := ?_) #[true, true, true, true, true, true, true, true, true, true, true, false, false, false, false, false] rfl rfl (take_ofW HT_.out HW_.out (by kernel_rfl)) (fun _ _ _ h => h) (Or.inl ⟨by rfl, ?_⟩) hHeld ?_ ?_
        rotate_left
        · rintro w' ⟨s0, s1, s2⟩
          go_simp
          with_reducible rfl
        rotate_left
        · simp only [Act.put, List.setIfInBounds_toArray, List.set_cons_zero, List.set_cons_succ, i64_w, i32_w]
          rfl
        refine one_ (i := 11) (N := some 81) #[true, true, true, true, true, true, true, true, true, true, true, true, false, false, false, false] rfl rfl (one_of HT_.out (by kernel_rfl)) (by decide) (fun Kc hKc => ?_)
        refine goes_ Tryz.func45 (by kernel_rfl) rfl #[.string s5] (by rfl) rfl rfl (by (try simp only [List.map_toArray, List.map_cons, List.map_nil]); first | done | rfl) ?_
        refine (count s5 _ (by have := H5.out; have := HX.out; omega)).mono ?_
        rintro e wa9 ⟨rfl, hba⟩
        refine ⟨_, rfl, ?_⟩
        have ib9 := Aside0.mk (I8.out.drew.kept hba)
        have hp9 := Aside0.mk ((hba.block _ (Lst.lt_of HP8.out)).trans HP8.out)
        obtain ⟨c0, c5, c8, c5', c7, z0⟩ := ib9.out.facts
        have hS1 := Aside0.mk (show World.cell? wa9 ⟨b, 0, none⟩ = some (.int .i64 m8) ∧ World.cell? wa9 ⟨b, 5, none⟩ = some (.pointer (some ⟨sg, 0, none⟩)) ∧ World.cell? wa9 ⟨sg, 5, none⟩ = some (.string s5) from ⟨c0, c5, c5'⟩)
        clear c0 c5 c8 c5' c7
        obtain ⟨w9, hw9⟩ : ∃ w9, w9 = World.setCell wa9 ⟨b, 0, none⟩ (.int .i64 m9) := ⟨_, rfl⟩
        have HW9 := Aside0.mk hw9
        have I9 : Aside0 (Ist Ex w0 b sg (.slice (some ⟨g, 0, none⟩) xs.length c) ps xs lv fm cw css s1 s2 s3 s4 s5 s6 s7 s8 s9 m9 w9) := ⟨by rw [hw9]; exact ib9.out.put _⟩
        have HP9 : Aside0 (w9.heap[p]? = some (.cells (icells (K, t)) 63 (0, 0))) := ⟨by rw [hw9]; exact (put_other (ne_of_type hp9.out ib9.out.lst.own (by decide)) 0 _).trans hp9.out⟩
        clear hw9 hba
        refine hKc.out _ _ hS1.out (fun hHeld => ?_)
        clear hKc Kc
        refine norm_ (a' := ?_) ?_ ?_
        rotate_left
        · show Act.put _ (some 81) _ = _
          simp only [Act.put, List.setIfInBounds_toArray, List.set_cons_zero, List.set_cons_succ, i64_w, i32_w]
          rfl
        refine pure_ (i := 12) (N := some 82) (v := ?_) (a' := ?_) #[true, true, true, true, true, true, true, true, true, true, true, true, true, false, false, false] rfl rfl (any_of HT_.out (by kernel_rfl)) (fun _ _ _ h => h) (Or.inl ⟨by rfl, ?_⟩) ?_ ?_
        rotate_left
        · intro w'
          go_simp
          with_reducible rfl
        rotate_left
        · simp only [Act.put, List.setIfInBounds_toArray, List.set_cons_zero, List.set_cons_succ, i64_w, i32_w]
          rfl
        refine pure_ (i := 13) (N := some 83) (v := ?_) (a' := ?_) #[true, true, true, true, true, true, true, true, true, true, true, true, true, true, false, false] rfl rfl (any_of HT_.out (by kernel_rfl)) (fun _ _ _ h => h) (Or.inl ⟨by rfl, ?_⟩) ?_ ?_
        rotate_left
        · intro w'
          go_simp
          with_reducible rfl
        rotate_left
        · simp only [Act.put, List.setIfInBounds_toArray, List.set_cons_zero, List.set_cons_succ, i64_w, i32_w]
          rfl
        refine pure_ (i := 14) (N := some 84) (v := ?_) (a' := ?_) #[true, true, true, true, true, true, true, true, true, true, true, true, true, true, true, false] rfl rfl (any_of HT_.out (by kernel_rfl)) (fun _ _ _ h => h) (Or.inl ⟨by rfl, ?_⟩) ?_ ?_
        rotate_left
        · intro w'
          go_simp
          with_reducible rfl
        rotate_left
        · simp only [Act.put, List.setIfInBounds_toArray, List.set_cons_zero, List.set_cons_succ, i64_w, i32_w]
          rfl
        refine last_ (i := 15) (N := none) #[true, true, true, true, true, true, true, true, true, true, true, true, true, true, true, true] rfl rfl (one_of HT_.out (by kernel_rfl)) (by decide) (fun Kc hKc => ?_)
        refine skip_ (w1 := w9) (by rfl) rfl ?_ ?_
        · rw [HW9.out]; go_simp
          try rfl
        refine hKc.out _ _ ?_
        clear hKc Kc
        refine done_ (done_of HT_.out (by kernel_rfl)) ?_
        clear hS0 hS1 hHeld z0
        go_wp2_with (fail)
        obtain ⟨c0, c5, c8, c5', c7, z0⟩ := I9.out.facts
        have hS0 := Aside0.mk (show World.cell? w9 ⟨b, 0, none⟩ = some (.int .i64 m9) ∧ World.cell? w9 ⟨p, 1, none⟩ = some (.string t) from ⟨c0, ((Lib.cell_of_heap HP9.out 1).trans rfl)⟩)
        clear c0 c5 c8 c5' c7 z0
        refine start_ (n := 13) (S := fun w' => w'.cell? ⟨b, 0, none⟩ = some (.int .i64 m9) ∧ w'.cell? ⟨p, 1, none⟩ = some (.string t)) (ds := [12]) #[false, false, false, false, false, false, false, false, false, false, false, false, false] (by kernel_rfl) rfl rfl hS0.out (fun hHeld => ?_); refine with_tabW tab10 bits10 (fun HT_ HW_ => ?_)
        refine pure_ (i := 0) (N := some 85) (v := ?_) (a' := ?_) #[true, false, false, false, false, false, false, false, false, false, false, false, false] rfl rfl (any_of HT_.out (by kernel_rfl)) (fun _ _ _ h => h) (Or.inl ⟨by rfl, ?_⟩) ?_ ?_
        rotate_left
        · intro w'
          go_simp
          with_reducible rfl
        rotate_left
        · simp only [Act.put, List.setIfInBounds_toArray, List.set_cons_zero, List.set_cons_succ, i64_w, i32_w]
          rfl
        refine pure_ (i := 1) (N := some 86) (v := ?_) (a' := ?_) #[true, true, false, false, false, false, false, false, false, false, false, false, false] rfl rfl (any_of HT_.out (by kernel_rfl)) (fun _ _ _ h => h) (Or.inl ⟨by rfl, ?_⟩) ?_ ?_
        rotate_left
        · intro w'
          go_simp
          with_reducible rfl
        rotate_left
        · simp only [Act.put, List.setIfInBounds_toArray, List.set_cons_zero, List.set_cons_succ, i64_w, i32_w]
          rfl
        refine pure_ (i := 2) (N := some 87) (v := ?_) (a' := ?_) #[true, true, true, false, false, false, false, false, false, false, false, false, false] rfl rfl (any_of HT_.out (by kernel_rfl)) (fun _ _ _ h => h) (Or.inl ⟨by rfl, ?_⟩) ?_ ?_
        rotate_left
        · intro w'
          go_simp
          with_reducible rfl
        rotate_left
        · simp only [Act.put, List.setIfInBounds_toArray, List.set_cons_zero, List.set_cons_succ, i64_w, i32_w]
          rfl
        refine take_ (i := 3) (N := some 88) (v := ?_) (a' := ?_) #[true, true, true, true, false, false, false, false, false, false, false, false, false] rfl rfl (take_ofW HT_.out HW_.out (by kernel_rfl)) (fun _ _ _ h => h) (Or.inl ⟨by rfl, ?_⟩) hHeld ?_ ?_
        rotate_left
        · rintro w' ⟨s0, s1⟩
          go_simp
          with_reducible rfl
        rotate_left
        · simp only [Act.put, List.setIfInBounds_toArray, List.set_cons_zero, List.set_cons_succ, i64_w, i32_w]
          rfl
        refine pure_ (i := 4) (N := some 89) (v := ?_) (a' := ?_) #[true, true, true, true, true, false, false, false, false, false, false, false, false] rfl rfl (any_of HT_.out (by kernel_rfl)) (fun _ _ _ h => h) (Or.inl ⟨by rfl, ?_⟩) ?_ ?_
        rotate_left
        · intro w'
          go_simp
          with_reducible rfl
        rotate_left
        · simp only [Act.put, List.setIfInBounds_toArray, List.set_cons_zero, List.set_cons_succ, i64_w, i32_w]
          rfl
        refine pure_ (i := 5) (N := some 90) (v := ?_) (a' := ?_) #[true, true, true, true, true, true, false, false, false, false, false, false, false] rfl rfl (any_of HT_.out (by kernel_rfl)) (fun _ _ _ h => h) (Or.inl ⟨by rfl, ?_⟩) ?_ ?_
        rotate_left
        · intro w'
          go_simp
          with_reducible rfl
        rotate_left
        · simp only [Act.put, List.setIfInBounds_toArray, List.set_cons_zero, List.set_cons_succ, i64_w, i32_w]
          rfl
        refine pure_ (i := 6) (N := some 91) (v := ?_) (a' := ?_) #[true, true, true, true, true, true, true, false, false, false, false, false, false] rfl rfl (any_of HT_.out (by kernel_rfl)) (fun _ _ _ h => h) (Or.inl ⟨by rfl, ?_⟩) ?_ ?_
        rotate_left
        · intro w'
          go_simp
          with_reducible rfl
        rotate_left
        · simp only [Act.put, List.setIfInBounds_toArray, List.set_cons_zero, List.set_cons_succ, i64_w, i32_w]
          rfl
        refine take_ (i := 7) (N := some 92) (v := ?_) (a' := ?_) #[true, true, true, true, true, true, true, true, false, false, false, false, false] rfl rfl (take_ofW HT_.out HW_.out (by kernel_rfl)) (fun _ _ _ h => h) (Or.inl ⟨by rfl, ?_⟩) hHeld ?_ ?_
        rotate_left
        · rintro w' ⟨s0, s1⟩
          go_simp
          with_reducible rfl
        rotate_left
        · simp only [Act.put, List.setIfInBounds_toArray, List.set_cons_zero, List.set_cons_succ, i64_w, i32_w]
          rfl
        refine one_ (i := 8) (N := some 93) #[true, true, true, true, true, true, true, true, true, false, false, false, false] rfl rfl (one_of HT_.out (by kernel_rfl)) (by decide) (fun Kc hKc => ?_)
        refine goes_ Tryz.func45 (by kernel_rfl) rfl #[.string t] (by rfl) rfl rfl (by (try simp only [List.map_toArray, List.map_cons, List.map_nil]); first | done | rfl) ?_
        refine (count t _ (by have := H5.out; have := HX.out; omega)).mono ?_
        rintro e wa10 ⟨rfl, hba⟩
        refine ⟨_, rfl, ?_⟩
        have ib10 := Aside0.mk (I9.out.drew.kept hba)
        have hp10 := Aside0.mk ((hba.block _ (Lst.lt_of HP9.out)).trans HP9.out)
        obtain ⟨c0, c5, c8, c5', c7, z0⟩ := ib10.out.facts
        have hS1 := Aside0.mk (show World.cell? wa10 ⟨b, 0, none⟩ = some (.int .i64 m9) ∧ World.cell? wa10 ⟨p, 1, none⟩ = some (.string t) from ⟨c0, ((Lib.cell_of_heap hp10.out 1).trans rfl)⟩)
        clear c0 c5 c8 c5' c7
        obtain ⟨w10, hw10⟩ : ∃ w10, w10 = World.setCell wa10 ⟨b, 0, none⟩ (.int .i64 m10) := ⟨_, rfl⟩
        have HW10 := Aside0.mk hw10
        have I10 : Aside0 (Ist Ex w0 b sg (.slice (some ⟨g, 0, none⟩) xs.length c) ps xs lv fm cw css s1 s2 s3 s4 s5 s6 s7 s8 s9 m10 w10) := ⟨by rw [hw10]; exact ib10.out.put _⟩
        have HP10 : Aside0 (w10.heap[p]? = some (.cells (icells (K, t)) 63 (0, 0))) := ⟨by rw [hw10]; exact (put_other (ne_of_type hp10.out ib10.out.lst.own (by decide)) 0 _).trans hp10.out⟩
        clear hw10 hba
        refine hKc.out _ _ hS1.out (fun hHeld => ?_)
        clear hKc Kc
        refine norm_ (a' := ?_) ?_ ?_
        rotate_left
        · show Act.put _ (some 93) _ = _
          simp only [Act.put, List.setIfInBounds_toArray, List.set_cons_zero, List.set_cons_succ, i64_w, i32_w]
          rfl
        refine pure_ (i := 9) (N := some 94) (v := ?_) (a' := ?_) #[true, true, true, true, true, true, true, true, true, true, false, false, false] rfl rfl (any_of HT_.out (by kernel_rfl)) (fun _ _ _ h => h) (Or.inl ⟨by rfl, ?_⟩) ?_ ?_
        rotate_left
        · intro w'
          go_simp
          with_reducible rfl
        rotate_left
        · simp only [Act.put, List.setIfInBounds_toArray, List.set_cons_zero, List.set_cons_succ, i64_w, i32_w]
          rfl
        refine pure_ (i := 10) (N := some 95) (v := ?_) (a' := ?_) #[true, true, true, true, true, true, true, true, true, true, true, false, false] rfl rfl (any_of HT_.out (by kernel_rfl)) (fun _ _ _ h => h) (Or.inl ⟨by rfl, ?_⟩) ?_ ?_
        rotate_left
        · intro w'
          go_simp
          with_reducible rfl
        rotate_left
        · simp only [Act.put, List.setIfInBounds_toArray, List.set_cons_zero, List.set_cons_succ, i64_w, i32_w]
          rfl
        refine pure_ (i := 11) (N := some 96) (v := ?_) (a' := ?_) #[true, true, true, true, true, true, true, true, true, true, true, true, false] rfl rfl (any_of HT_.out (by kernel_rfl)) (fun _ _ _ h => h) (Or.inl ⟨by rfl, ?_⟩) ?_ ?_
        rotate_left
        · intro w'
          go_simp
          with_reducible rfl
        rotate_left
        · simp only [Act.put, List.setIfInBounds_toArray, List.set_cons_zero, List.set_cons_succ, i64_w, i32_w]
          rfl
        refine last_ (i := 12) (N := none) #[true, true, true, true, true, true, true, true, true, true, true, true, true] rfl rfl (one_of HT_.out (by kernel_rfl)) (by decide) (fun Kc hKc => ?_)
        refine skip_ (w1 := w10) (by rfl) rfl ?_ ?_
        · rw [HW10.out]; go_simp
          try rfl
        refine hKc.out _ _ ?_
        clear hKc Kc
        refine done_ (done_of HT_.out (by kernel_rfl)) ?_
        clear hS0 hS1 hHeld z0
        go_wp2_with (fail)
        obtain ⟨c0, c5, c8, c5', c7, z0⟩ := I10.out.facts
        have hS0 := Aside0.mk (show World.cell? w10 ⟨b, 0, none⟩ = some (.int .i64 m10) ∧ World.cell? w10 ⟨b, 5, none⟩ = some (.pointer (some ⟨sg, 0, none⟩)) ∧ World.cell? w10 ⟨sg, 7, none⟩ = some (.string s7) from ⟨c0, c5, c7⟩)
        clear c0 c5 c8 c5' c7 z0
        refine start_ (n := 16) (S := fun w' => w'.cell? ⟨b, 0, none⟩ = some (.int .i64 m10) ∧ w'.cell? ⟨b, 5, none⟩ = some (.pointer (some ⟨sg, 0, none⟩)) ∧ w'.cell? ⟨sg, 7, none⟩ = some (.string s7)) (ds := [15]) #[false, false, false, false, false, false, false, false, false, false, false, false, false, false, false, false] (by kernel_rfl) rfl rfl hS0.out (fun hHeld => ?_); refine with_tabW tab11 bits11 (fun HT_ HW_ => ?_)
        refine pure_ (i := 0) (N := some 97) (v := ?_) (a' := ?_) #[true, false, false, false, false, false, false, false, false, false, false, false, false, false, false, false] rfl rfl (any_of HT_.out (by kernel_rfl)) (fun _ _ _ h => h) (Or.inl ⟨by rfl, ?_⟩) ?_ ?_
        rotate_left
        · intro w'
          go_simp
          with_reducible rfl
        rotate_left
        · simp only [Act.put, List.setIfInBounds_toArray, List.set_cons_zero, List.set_cons_succ, i64_w, i32_w]
          rfl
        refine pure_ (i := 1) (N := some 98) (v := ?_) (a' := ?_) #[true, true, false, false, false, false, false, false, false, false, false, false, false, false, false, false] rfl rfl (any_of HT_.out (by kernel_rfl)) (fun _ _ _ h => h) (Or.inl ⟨by rfl, ?_⟩) ?_ ?_
        rotate_left
        · intro w'
          go_simp
          with_reducible rfl
        rotate_left
        · simp only [Act.put, List.setIfInBounds_toArray, List.set_cons_zero, List.set_cons_succ, i64_w, i32_w]
          rfl
        refine pure_ (i := 2) (N := some 99) (v := ?_) (a' := ?_) #[true, true, true, false, false, false, false, false, false, false, false, false, false, false, false, false] rfl rfl (any_of HT_.out (by kernel_rfl)) (fun _ _ _ h => h) (Or.inl ⟨by rfl, ?_⟩) ?_ ?_
        rotate_left
        · intro w'
          go_simp
          with_reducible rfl
        rotate_left
        · simp only [Act.put, List.setIfInBounds_toArray, List.set_cons_zero, List.set_cons_succ, i64_w, i32_w]
          rfl
        refine take_ (i := 3) (N := some 100) (v := ?_) (a' := ?_) #[true, true, true, true, false, false, false, false, false, false, false, false, false, false, false, false] rfl rfl (take_ofW HT_.out HW_.out (by kernel_rfl)) (fun _ _ _ h => h) (Or.inl ⟨by rfl, ?_⟩) hHeld ?_ ?_
        rotate_left
        · rintro w' ⟨s0, s1, s2⟩
          go_simp
          with_reducible rfl
        rotate_left
        · simp only [Act.put, List.setIfInBounds_toArray, List.set_cons_zero, List.set_cons_succ, i64_w, i32_w]
          rfl
        refine pure_ (i := 4) (N := some 101) (v := ?_) (a' := ?_) #[true, true, true, true, true, false, false, false, false, false, false, false, false, false, false, false] rfl rfl (any_of HT_.out (by kernel_rfl)) (fun _ _ _ h => h) (Or.inl ⟨by rfl, ?_⟩) ?_ ?_
        rotate_left
        · intro w'
          go_simp
          with_reducible rfl
        rotate_left
        · simp only [Act.put, List.setIfInBounds_toArray, List.set_cons_zero, List.set_cons_succ, i64_w, i32_w]
          rfl
        refine pure_ (i := 5) (N := some 102) (v := ?_) (a' := ?_) #[true, true, true, true, true, true, false, false, false, false, false, false, false, false, false, false] rfl rfl (any_of HT_.out (by kernel_rfl)) (fun _ _ _ h => h) (Or.inl ⟨by rfl, ?_⟩) ?_ ?_
        rotate_left
        · intro w'
          go_simp
          with_reducible rfl
        rotate_left
        · simp only [Act.put, List.setIfInBounds_toArray, List.set_cons_zero, List.set_cons_succ, i64_w, i32_w]
          rfl
        refine pure_ (i := 6) (N := some 103) (v := ?_) (a' := ?_) #[true, true, true, true, true, true, true, false, false, false, false, false, false, false, false, false] rfl rfl (any_of HT_.out (by kernel_rfl)) (fun _ _ _ h => h) (Or.inl ⟨by rfl, ?_⟩) ?_ ?_
        rotate_left
        · intro w'
          go_simp
          with_reducible rfl
        rotate_left
        · simp only [Act.put, List.setIfInBounds_toArray, List.set_cons_zero, List.set_cons_succ, i64_w, i32_w]
          rfl
        refine take_ (i := 7) (N := some 104) (v := ?_) (a' := ?_) #[true, true, true, true, true, true, true, true, false, false, false, false, false, false, false, false] rfl rfl (take_ofW HT_.out HW_.out (by kernel_rfl)) (fun _ _ _ h => h) (Or.inl ⟨by rfl, ?_⟩) hHeld ?_ ?_
        rotate_left
        · rintro w' ⟨s0, s1, s2⟩
          go_simp
          with_reducible rfl
        rotate_left
        · simp only [Act.put, List.setIfInBounds_toArray, List.set_cons_zero, List.set_cons_succ, i64_w, i32_w]
          rfl
        refine pure_ (i := 8) (N := some 105) (v := ?_) (a' := ?_) #[true, true, true, true, true, true, true, true, true, false, false, false, false, false, false, false] rfl rfl (any_of HT_.out (by kernel_rfl)) (fun _ _ _ h => h) (Or.inl ⟨by rfl, ?_⟩) ?_ ?_
        rotate_left
        · intro w'
          go_simp
          with_reducible rfl
        rotate_left
        · simp only [Act.put, List.setIfInBounds_toArray, List.set_cons_zero, List.set_cons_succ, i64_w, i32_w]
          rfl
        refine pure_ (i := 9) (N := some 106) (v := ?_) (a' := ?_) #[true, true, true, true, true, true, true, true, true, true, false, false, false, false, false, false] rfl rfl (any_of HT_.out (by kernel_rfl)) (fun _ _ _ h => h) (Or.inl ⟨by rfl, ?_⟩) ?_ ?_
        rotate_left
        · intro w'
          go_simp
          with_reducible rfl
        rotate_left
        · simp only [Act.put, List.setIfInBounds_toArray, List.set_cons_zero, List.set_cons_succ, i64_w, i32_w]
          rfl
        refine take_ (i := 10) (N := some 107) (v := ?_) (a' := ?_) #[true, true, true, true, true, true, true, true, true, true, true, false, false, false, false, false] rfl rfl (take_ofW HT_.out HW_.out (by kernel_rfl)) (fun _ _ _ h => h) (Or.inl ⟨by rfl, ?_⟩) hHeld ?_ ?_
        rotate_left
        · rintro w' ⟨s0, s1, s2⟩
          go_simp
          with_reducible rfl
        rotate_left
        · simp only [Act.put, List.setIfInBounds_toArray, List.set_cons_zero, List.set_cons_succ, i64_w, i32_w]
          rfl
        refine one_ (i := 11) (N := some 108) #[true, true, true, true, true, true, true, true, true, true, true, true, false, false, false, false] rfl rfl (one_of HT_.out (by kernel_rfl)) (by decide) (fun Kc hKc => ?_)
        refine goes_ Tryz.func45 (by kernel_rfl) rfl #[.string s7] (by rfl) rfl rfl (by (try simp only [List.map_toArray, List.map_cons, List.map_nil]); first | done | rfl) ?_
        refine (count s7 _ (by have := H5.out; have := HX.out; omega)).mono ?_
        rintro e wa11 ⟨rfl, hba⟩
        refine ⟨_, rfl, ?_⟩
        have ib11 := Aside0.mk (I10.out.drew.kept hba)
        have hp11 := Aside0.mk ((hba.block _ (Lst.lt_of HP10.out)).trans HP10.out)
        obtain ⟨c0, c5, c8, c5', c7, z0⟩ := ib11.out.facts
        have hS1 := Aside0.mk (show World.cell? wa11 ⟨b, 0, none⟩ = some (.int .i64 m10) ∧ World.cell? wa11 ⟨b, 5, none⟩ = some (.pointer (some ⟨sg, 0, none⟩)) ∧ World.cell? wa11 ⟨sg, 7, none⟩ = some (.string s7) from ⟨c0, c5, c7⟩)
        clear c0 c5 c8 c5' c7
        obtain ⟨w11, hw11⟩ : ∃ w11, w11 = World.setCell wa11 ⟨b, 0, none⟩ (.int .i64 m11) := ⟨_, rfl⟩
        have HW11 := Aside0.mk hw11
        have I11 : Aside0 (Ist Ex w0 b sg (.slice (some ⟨g, 0, none⟩) xs.length c) ps xs lv fm cw css s1 s2 s3 s4 s5 s6 s7 s8 s9 m11 w11) := ⟨by rw [hw11]; exact ib11.out.put _⟩
        have HP11 : Aside0 (w11.heap[p]? = some (.cells (icells (K, t)) 63 (0, 0))) := ⟨by rw [hw11]; exact (put_other (ne_of_type hp11.out ib11.out.lst.own (by decide)) 0 _).trans hp11.out⟩
        clear hw11 hba
        refine hKc.out _ _ hS1.out (fun hHeld => ?_)
        clear hKc Kc
        refine norm_ (a' := ?_) ?_ ?_
        rotate_left
        · show Act.put _ (some 108) _ = _
          simp only [Act.put, List.setIfInBounds_toArray, List.set_cons_zero, List.set_cons_succ, i64_w, i32_w]
          rfl
        refine pure_ (i := 12) (N := some 109) (v := ?_) (a' := ?_) #[true, true, true, true, true, true, true, true, true, true, true, true, true, false, false, false] rfl rfl (any_of HT_.out (by kernel_rfl)) (fun _ _ _ h => h) (Or.inl ⟨by rfl, ?_⟩) ?_ ?_
        rotate_left
        · intro w'
          go_simp
          with_reducible rfl
        rotate_left
        · simp only [Act.put, List.setIfInBounds_toArray, List.set_cons_zero, List.set_cons_succ, i64_w, i32_w]
          rfl
        refine pure_ (i := 13) (N := some 110) (v := ?_) (a' := ?_) #[true, true, true, true, true, true, true, true, true, true, true, true, true, true, false, false] rfl rfl (any_of HT_.out (by kernel_rfl)) (fun _ _ _ h => h) (Or.inl ⟨by rfl, ?_⟩) ?_ ?_
        rotate_left
        · intro w'
          go_simp
          with_reducible rfl
        rotate_left
        · simp only [Act.put, List.setIfInBounds_toArray, List.set_cons_zero, List.set_cons_succ, i64_w, i32_w]
          rfl
        refine pure_ (i := 14) (N := some 111) (v := ?_) (a' := ?_) #[true, true, true, true, true, true, true, true, true, true, true, true, true, true, true, false] rfl rfl (any_of HT_.out (by kernel_rfl)) (fun _ _ _ h => h) (Or.inl ⟨by rfl, ?_⟩) ?_ ?_
        rotate_left
        · intro w'
          go_simp
          with_reducible rfl
        rotate_left
        · simp only [Act.put, List.setIfInBounds_toArray, List.set_cons_zero, List.set_cons_succ, i64_w, i32_w]
          rfl
        refine last_ (i := 15) (N := none) #[true, true, true, true, true, true, true, true, true, true, true, true, true, true, true, true] rfl rfl (one_of HT_.out (by kernel_rfl)) (by decide) (fun Kc hKc => ?_)
        refine skip_ (w1 := w11) (by rfl) rfl ?_ ?_
        · rw [HW11.out]; go_simp
          try rfl
        refine hKc.out _ _ ?_
        clear hKc Kc
        refine done_ (done_of HT_.out (by kernel_rfl)) ?_
        clear hS0 hS1 hHeld z0
        go_wp2_with (fail)
        go_roundw
        case rel => exact ⟨j + 1, hlt, rfl, m11, HB.out.1, HB.out.2, I11⟩
        case measure => simp [RowKit.intOf]; omega
        -- END ROUND 1
      · have q : decide (0 < K) = false := decide_eq_false hK
        obtain ⟨m9, e9⟩ : ∃ m9 : Int, m9 = m6 + (Lib.runeCount s5 : Int) := ⟨_, rfl⟩
        have hw9 : IntKind.i64.wrap (m6 + (Lib.runeCount s5 : Int)) = m9 := by rw [wrap_i _ (by omega) (by omega)]; exact e9.symm
        obtain ⟨m10, e10⟩ : ∃ m10 : Int, m10 = m9 + (Lib.runeCount t : Int) := ⟨_, rfl⟩
        have hw10 : IntKind.i64.wrap (m9 + (Lib.runeCount t : Int)) = m10 := by rw [wrap_i _ (by omega) (by omega)]; exact e10.symm
        obtain ⟨m11, e11⟩ : ∃ m11 : Int, m11 = m10 + (Lib.runeCount s7 : Int) := ⟨_, rfl⟩
        have hw11 : IntKind.i64.wrap (m10 + (Lib.runeCount s7 : Int)) = m11 := by rw [wrap_i _ (by omega) (by omega)]; exact e11.symm
        have HB : Aside0 (0 ≤ m11 ∧ m11 ≤ ((j + 1 : Nat) : Int) * 200000000) := ⟨by constructor <;> omega⟩
        clear e6 e9 e10 e11 hm0 hm1 hb5 hb7 hb8 hbn hk0 hk1 hts hc8 hc5 hc7 hct hK
        -- ROUND 0
        go_wp2_with (fail)
        obtain ⟨c0, c5, c8, c5', c7, z0⟩ := IA.out.facts
        have hS0 := Aside0.mk (show World.cell? wr ⟨b, 0, none⟩ = some (.int .i64 m) ∧ World.cell? wr ⟨b, 5, none⟩ = some (.pointer (some ⟨sg, 0, none⟩)) ∧ World.cell? wr ⟨sg, 8, none⟩ = some (.string s8) from ⟨c0, c5, c8⟩)
        clear c0 c5 c8 c5' c7 z0
        refine start_ (n := 16) (S := fun w' => w'.cell? ⟨b, 0, none⟩ = some (.int .i64 m) ∧ w'.cell? ⟨b, 5, none⟩ = some (.pointer (some ⟨sg, 0, none⟩)) ∧ w'.cell? ⟨sg, 8, none⟩ = some (.string s8)) (ds := [15]) #[false, false, false, false, false, false, false, false, false, false, false, false, false, false, false, false] (by kernel_rfl) rfl rfl hS0.out (fun hHeld => ?_); refine with_tabW tab6 bits6 (fun HT_ HW_ => ?_)
        refine pure_ (i := 0) (N := some 30) (v := ?_) (a' := ?_) #[true, false, false, false, false, false, false, false, false, false, false, false, false, false, false, false] rfl rfl (any_of HT_.out (by kernel_rfl)) (fun _ _ _ h => h) (Or.inl ⟨by rfl, ?_⟩) ?_ ?_
        rotate_left
        · intro w'
          go_simp
          with_reducible rfl
        rotate_left
        · simp only [Act.put, List.setIfInBounds_toArray, List.set_cons_zero, List.set_cons_succ, i64_w, i32_w]
          rfl
        refine pure_ (i := 1) (N := some 31) (v := ?_) (a' := ?_) #[true, true, false, false, false, false, false, false, false, false, false, false, false, false, false, false] rfl rfl (any_of HT_.out (by kernel_rfl)) (fun _ _ _ h => h) (Or.inl ⟨by rfl, ?_⟩) ?_ ?_
        rotate_left
        · intro w'
          go_simp
          with_reducible rfl
        rotate_left
        · simp only [Act.put, List.setIfInBounds_toArray, List.set_cons_zero, List.set_cons_succ, i64_w, i32_w]
          rfl
        refine pure_ (i := 2) (N := some 32) (v := ?_) (a' := ?_) #[true, true, true, false, false, false, false, false, false, false, false, false, false, false, false, false] rfl rfl (any_of HT_.out (by kernel_rfl)) (fun _ _ _ h => h) (Or.inl ⟨by rfl, ?_⟩) ?_ ?_
        rotate_left
        · intro w'
          go_simp
          with_reducible rfl
        rotate_left
        · simp only [Act.put, List.setIfInBounds_toArray, List.set_cons_zero, List.set_cons_succ, i64_w, i32_w]
          rfl
        refine take_ (i := 3) (N := some 33) (v := ?_) (a' := ?_) #[true, true, true, true, false, false, false, false, false, false, false, false, false, false, false, false] rfl rfl (take_ofW HT_.out HW_.out (by kernel_rfl)) (fun _ _ _ h => h) (Or.inl ⟨by rfl, ?_⟩) hHeld ?_ ?_
        rotate_left
        · rintro w' ⟨s0, s1, s2⟩
          go_simp
          with_reducible rfl
        rotate_left
        · simp only [Act.put, List.setIfInBounds_toArray, List.set_cons_zero, List.set_cons_succ, i64_w, i32_w]
          rfl
        refine pure_ (i := 4) (N := some 34) (v := ?_) (a' := ?_) #[true, true, true, true, true, false, false, false, false, false, false, false, false, false, false, false] rfl rfl (any_of HT_.out (by kernel_rfl)) (fun _ _ _ h => h) (Or.inl ⟨by rfl, ?_⟩) ?_ ?_
        rotate_left
        · intro w'
          go_simp
          with_reducible rfl
        rotate_left
        · simp only [Act.put, List.setIfInBounds_toArray, List.set_cons_zero, List.set_cons_succ, i64_w, i32_w]
          rfl
        refine pure_ (i := 5) (N := some 35) (v := ?_) (a' := ?_) #[true, true, true, true, true, true, false, false, false, false, false, false, false, false, false, false] rfl rfl (any_of HT_.out (by kernel_rfl)) (fun _ _ _ h => h) (Or.inl ⟨by rfl, ?_⟩) ?_ ?_
        rotate_left
        · intro w'
          go_simp
          with_reducible rfl
        rotate_left
        · simp only [Act.put, List.setIfInBounds_toArray, List.set_cons_zero, List.set_cons_succ, i64_w, i32_w]
          rfl
        refine pure_ (i := 6) (N := some 36) (v := ?_) (a' := ?_) #[true, true, true, true, true, true, true, false, false, false, false, false, false, false, false, false] rfl rfl (any_of HT_.out (by kernel_rfl)) (fun _ _ _ h => h) (Or.inl ⟨by rfl, ?_⟩) ?_ ?_
        rotate_left
        · intro w'
          go_simp
          with_reducible rfl
        rotate_left
        · simp only [Act.put, List.setIfInBounds_toArray, List.set_cons_zero, List.set_cons_succ, i64_w, i32_w]
          rfl
        refine take_ (i := 7) (N := some 37) (v := ?_) (a' := ?_) #[true, true, true, true, true, true, true, true, false, false, false, false, false, false, false, false] rfl rfl (take_ofW HT_.out HW_.out (by kernel_rfl)) (fun _ _ _ h => h) (Or.inl ⟨by rfl, ?_⟩) hHeld ?_ ?_
        rotate_left
        · rintro w' ⟨s0, s1, s2⟩
          go_simp
          with_reducible rfl
        rotate_left
        · simp only [Act.put, List.setIfInBounds_toArray, List.set_cons_zero, List.set_cons_succ, i64_w, i32_w]
          rfl
        refine pure_ (i := 8) (N := some 38) (v := ?_) (a' := ?_) #[true, true, true, true, true, true, true, true, true, false, false, false, false, false, false, false] rfl rfl (any_of HT_.out (by kernel_rfl)) (fun _ _ _ h => h) (Or.inl ⟨by rfl, ?_⟩) ?_ ?_
        rotate_left
        · intro w'
          go_simp
          with_reducible rfl
        rotate_left
        · simp only [Act.put, List.setIfInBounds_toArray, List.set_cons_zero, List.set_cons_succ, i64_w, i32_w]
          rfl
        refine pure_ (i := 9) (N := some 39) (v := ?_) (a' := ?_) #[true, true, true, true, true, true, true, true, true, true, false, false, false, false, false, false] rfl rfl (any_of HT_.out (by kernel_rfl)) (fun _ _ _ h => h) (Or.inl ⟨by rfl, ?_⟩) ?_ ?_
        rotate_left
        · intro w'
          go_simp
          with_reducible rfl
        rotate_left
        · simp only [Act.put, List.setIfInBounds_toArray, List.set_cons_zero, List.set_cons_succ, i64_w, i32_w]
          rfl
        refine take_ (i := 10) (N := some 40) (v := ?_) (a' := ?_) #[true, true, true, true, true, true, true, true, true, true, true, false, false, false, false, false] rfl rfl (take_ofW HT_.out HW_.out (by kernel_rfl)) (fun _ _ _ h => h) (Or.inl ⟨by rfl, ?_⟩) hHeld ?_ ?_
        rotate_left
        · rintro w' ⟨s0, s1, s2⟩
          go_simp
          with_reducible rfl
        rotate_left
        · simp only [Act.put, List.setIfInBounds_toArray, List.set_cons_zero, List.set_cons_succ, i64_w, i32_w]
          rfl
        refine one_ (i := 11) (N := some 41) #[true, true, true, true, true, true, true, true, true, true, true, true, false, false, false, false] rfl rfl (one_of HT_.out (by kernel_rfl)) (by decide) (fun Kc hKc => ?_)
        refine goes_ Tryz.func45 (by kernel_rfl) rfl #[.string s8] (by rfl) rfl rfl (by (try simp only [List.map_toArray, List.map_cons, List.map_nil]); first | done | rfl) ?_
        refine (count s8 _ (by have := H5.out; have := HX.out; omega)).mono ?_
        rintro e wa6 ⟨rfl, hba⟩
        refine ⟨_, rfl, ?_⟩
        have ib6 := Aside0.mk (IA.out.drew.kept hba)
        have hp6 := Aside0.mk ((hba.block _ (Lst.lt_of HP.out)).trans HP.out)
        obtain ⟨c0, c5, c8, c5', c7, z0⟩ := ib6.out.facts
        have hS1 := Aside0.mk (show World.cell? wa6 ⟨b, 0, none⟩ = some (.int .i64 m) ∧ World.cell? wa6 ⟨b, 5, none⟩ = some (.pointer (some ⟨sg, 0, none⟩)) ∧ World.cell? wa6 ⟨sg, 8, none⟩ = some (.string s8) from ⟨c0, c5, c8⟩)
        clear c0 c5 c8 c5' c7
        obtain ⟨w6, hw6⟩ : ∃ w6, w6 = World.setCell wa6 ⟨b, 0, none⟩ (.int .i64 m6) := ⟨_, rfl⟩
        have HW6 := Aside0.mk hw6
        have I6 : Aside0 (Ist Ex w0 b sg (.slice (some ⟨g, 0, none⟩) xs.length c) ps xs lv fm cw css s1 s2 s3 s4 s5 s6 s7 s8 s9 m6 w6) := ⟨by rw [hw6]; exact ib6.out.put _⟩
        have HP6 : Aside0 (w6.heap[p]? = some (.cells (icells (K, t)) 63 (0, 0))) := ⟨by rw [hw6]; exact (put_other (ne_of_type hp6.out ib6.out.lst.own (by decide)) 0 _).trans hp6.out⟩
        clear hw6 hba
        refine hKc.out _ _ hS1.out (fun hHeld => ?_)
        clear hKc Kc
        refine norm_ (a' := ?_) ?_ ?_
        rotate_left
        · show Act.put _ (some 41) _ = _
          simp only [Act.put, List.setIfInBounds_toArray, List.set_cons_zero, List.set_cons_succ, i64_w, i32_w]
          rfl
        refine pure_ (i := 12) (N := some 42) (v := ?_) (a' := ?_) #[true, true, true, true, true, true, true, true, true, true, true, true, true, false, false, false] rfl rfl (any_of HT_.out (by kernel_rfl)) (fun _ _ _ h => h) (Or.inl ⟨by rfl, ?_⟩) ?_ ?_
        rotate_left
        · intro w'
          go_simp
          with_reducible rfl
        rotate_left
        · simp only [Act.put, List.setIfInBounds_toArray, List.set_cons_zero, List.set_cons_succ, i64_w, i32_w]
          rfl
        refine pure_ (i := 13) (N := some 43) (v := ?_) (a' := ?_) #[true, true, true, true, true, true, true, true, true, true, true, true, true, true, false, false] rfl rfl (any_of HT_.out (by kernel_rfl)) (fun _ _ _ h => h) (Or.inl ⟨by rfl, ?_⟩) ?_ ?_
        rotate_left
        · intro w'
          go_simp
          with_reducible rfl
        rotate_left
        · simp only [Act.put, List.setIfInBounds_toArray, List.set_cons_zero, List.set_cons_succ, i64_w, i32_w]
          rfl
        refine pure_ (i := 14) (N := some 44) (v := ?_) (a' := ?_) #[true, true, true, true, true, true, true, true, true, true, true, true, true, true, true, false] rfl rfl (any_of HT_.out (by kernel_rfl)) (fun _ _ _ h => h) (Or.inl ⟨by rfl, ?_⟩) ?_ ?_
        rotate_left
        · intro w'
          go_simp
          with_reducible rfl
        rotate_left
        · simp only [Act.put, List.setIfInBounds_toArray, List.set_cons_zero, List.set_cons_succ, i64_w, i32_w]
          rfl
        refine last_ (i := 15) (N := none) #[true, true, true, true, true, true, true, true, true, true, true, true, true, true, true, true] rfl rfl (one_of HT_.out (by kernel_rfl)) (by decide) (fun Kc hKc => ?_)
        refine skip_ (w1 := w6) (by rfl) rfl ?_ ?_
        · rw [HW6.out]; go_simp
          try rfl
        refine hKc.out _ _ ?_
        clear hKc Kc
        refine done_ (done_of HT_.out (by kernel_rfl)) ?_
        clear hS0 hS1 hHeld z0
        have p0 : World.cell? w6 ⟨p, 0, none⟩ = some (.int .i64 K) := (Lib.cell_of_heap HP6.out 0).trans rfl
        go_wp2_with (fail)
        clear p0
        obtain ⟨c0, c5, c8, c5', c7, z0⟩ := I6.out.facts
        have hS0 := Aside0.mk (show World.cell? w6 ⟨b, 0, none⟩ = some (.int .i64 m6) ∧ World.cell? w6 ⟨b, 5, none⟩ = some (.pointer (some ⟨sg, 0, none⟩)) ∧ World.cell? w6 ⟨sg, 5, none⟩ = some (.string s5) from ⟨c0, c5, c5'⟩)
        clear c0 c5 c8 c5' c7 z0
        refine start_ (n := 16) (S := fun w' => w'.cell? ⟨b, 0, none⟩ = some (.int .i64 m6) ∧ w'.cell? ⟨b, 5, none⟩ = some (.pointer (some ⟨sg, 0, none⟩)) ∧ w'.cell? ⟨sg, 5, none⟩ = some (.string s5)) (ds := [15]) #[false, false, false, false, false, false, false, false, false, false, false, false, false, false, false, false] (by kernel_rfl) rfl rfl hS0.out (fun hHeld => ?_); refine with_tabW tab9 bits9 (fun HT_ HW_ => ?_)
        refine pure_ (i := 0) (N := some 70) (v := ?_) (a' := ?_) #[true, false, false, false, false, false, false, false, false, false, false, false, false, false, false, false] rfl rfl (any_of HT_.out (by kernel_rfl)) (fun _ _ _ h => h) (Or.inl ⟨by rfl, ?_⟩) ?_ ?_
        rotate_left
        · intro w'
          go_simp
          with_reducible rfl
        rotate_left
        · simp only [Act.put, List.setIfInBounds_toArray, List.set_cons_zero, List.set_cons_succ, i64_w, i32_w]
          rfl
        refine pure_ (i := 1) (N := some 71) (v := ?_) (a' := ?_) #[true, true, false, false, false, false, false, false, false, false, false, false, false, false, false, false] rfl rfl (any_of HT_.out (by kernel_rfl)) (fun _ _ _ h => h) (Or.inl ⟨by rfl, ?_⟩) ?_ ?_
        rotate_left
        · intro w'
          go_simp
          with_reducible rfl
        rotate_left
        · simp only [Act.put, List.setIfInBounds_toArray, List.set_cons_zero, List.set_cons_succ, i64_w, i32_w]
          rfl
        refine pure_ (i := 2) (N := some 72) (v := ?_) (a' := ?_) #[true, true, true, false, false, false, false, false, false, false, false, false, false, false, false, false] rfl rfl (any_of HT_.out (by kernel_rfl)) (fun _ _ _ h => h) (Or.inl ⟨by rfl, ?_⟩) ?_ ?_
        rotate_left
        · intro w'
          go_simp
          with_reducible rfl
        rotate_left
        · simp only [Act.put, List.setIfInBounds_toArray, List.set_cons_zero, List.set_cons_succ, i64_w, i32_w]
          rfl
        refine take_ (i := 3) (N := some 73) (v := ?_) (a' := ?_) #[true, true, true, true, false, false, false, false, false, false, false, false, false, false, false, false] rfl rfl (take_ofW HT_.out HW_.out (by kernel_rfl)) (fun _ _ _ h => h) (Or.inl ⟨by rfl, ?_⟩) hHeld ?_ ?_
        rotate_left
        · rintro w' ⟨s0, s1, s2⟩
          go_simp
          with_reducible rfl
        rotate_left
        · simp only [Act.put, List.setIfInBounds_toArray, List.set_cons_zero, List.set_cons_succ, i64_w, i32_w]
          rfl
        refine pure_ (i := 4) (N := some 74) (v := ?_) (a' := ?_) #[true, true, true, true, true, false, false, false, false, false, false, false, false, false, false, false] rfl rfl (any_of HT_.out (by kernel_rfl)) (fun _ _ _ h => h) (Or.inl ⟨by rfl, ?_⟩) ?_ ?_
        rotate_left
        · intro w'
          go_simp
          with_reducible rfl
        rotate_left
        · simp only [Act.put, List.setIfInBounds_toArray, List.set_cons_zero, List.set_cons_succ, i64_w, i32_w]
          rfl
        refine pure_ (i := 5) (N := some 75) (v := ?_) (a' := ?_) #[true, true, true, true, true, true, false, false, false, false, false, false, false, false, false, false] rfl rfl (any_of HT_.out (by kernel_rfl)) (fun _ _ _ h => h) (Or.inl ⟨by rfl, ?_⟩) ?_ ?_
        rotate_left
        · intro w'
          go_simp
          with_reducible rfl
        rotate_left
        · simp only [Act.put, List.setIfInBounds_toArray, List.set_cons_zero, List.set_cons_succ, i64_w, i32_w]
          rfl
        refine pure_ (i := 6) (N := some 76) (v := ?_) (a' := ?_) #[true, true, true, true, true, true, true, false, false, false, false, false, false, false, false, false] rfl rfl (any_of HT_.out (by kernel_rfl)) (fun _ _ _ h => h) (Or.inl ⟨by rfl, ?_⟩) ?_ ?_
        rotate_left
        · intro w'
          go_simp
          with_reducible rfl
        rotate_left
        · simp only [Act.put, List.setIfInBounds_toArray, List.set_cons_zero, List.set_cons_succ, i64_w, i32_w]
          rfl
        refine take_ (i := 7) (N := some 77) (v := ?_) (a' := ?_) #[true, true, true, true, true, true, true, true, false, false, false, false, false, false, false, false] rfl rfl (take_ofW HT_.out HW_.out (by kernel_rfl)) (fun _ _ _ h => h) (Or.inl ⟨by rfl, ?_⟩) hHeld ?_ ?_
        rotate_left
        · rintro w' ⟨s0, s1, s2⟩
          go_simp
          with_reducible rfl
        rotate_left
        · simp only [Act.put, List.setIfInBounds_toArray, List.set_cons_zero, List.set_cons_succ, i64_w, i32_w]
          rfl
        refine pure_ (i := 8) (N := some 78) (v := ?_) (a' := ?_) #[true, true, true, true, true, true, true, true, true, false, false, false, false, false, false, false] rfl rfl (any_of HT_.out (by kernel_rfl)) (fun _ _ _ h => h) (Or.inl ⟨by rfl, ?_⟩) ?_ ?_
        rotate_left
        · intro w'
          go_simp
          with_reducible rfl
        rotate_left
        · simp only [Act.put, List.setIfInBounds_toArray, List.set_cons_zero, List.set_cons_succ, i64_w, i32_w]
          rfl
        refine pure_ (i := 9) (N := some 79) (v := ?_) (a' := ?_) #[true, true, true, true, true, true, true, true, true, true, false, false, false, false, false, false] rfl rfl (any_of HT_.out (by kernel_rfl)) (fun _ _ _ h => h) (Or.inl ⟨by rfl, ?_⟩) ?_ ?_
        rotate_left
        · intro w'
          go_simp
          with_reducible rfl
        rotate_left
        · simp only [Act.put, List.setIfInBounds_toArray, List.set_cons_zero, List.set_cons_succ, i64_w, i32_w]
          rfl
        refine take_ (i := 10) (N := some 80) (v := ?_) (a' := ?_) #[true, true, true, true, true, true, true, true, true, true, true, false, false, false, false, false] rfl rfl (take_ofW HT_.out HW_.out (by kernel_rfl)) (fun _ _ _ h => h) (Or.inl ⟨by rfl, ?_⟩) hHeld ?_ ?_
        rotate_left
        · rintro w' ⟨s0, s1, s2⟩
          go_simp
          with_reducible rfl
        rotate_left
        · simp only [Act.put, List.setIfInBounds_toArray, List.set_cons_zero, List.set_cons_succ, i64_w, i32_w]
          rfl
        refine one_ (i := 11) (N := some 81) #[true, true, true, true, true, true, true, true, true, true, true, true, false, false, false, false] rfl rfl (one_of HT_.out (by kernel_rfl)) (by decide) (fun Kc hKc => ?_)
        refine goes_ Tryz.func45 (by kernel_rfl) rfl #[.string s5] (by rfl) rfl rfl (by (try simp only [List.map_toArray, List.map_cons, List.map_nil]); first | done | rfl) ?_
        refine (count s5 _ (by have := H5.out; have := HX.out; omega)).mono ?_
        rintro e wa9 ⟨rfl, hba⟩
        refine ⟨_, rfl, ?_⟩
        have ib9 := Aside0.mk (I6.out.drew.kept hba)
        have hp9 := Aside0.mk ((hba.block _ (Lst.lt_of HP6.out)).trans HP6.out)
        obtain ⟨c0, c5, c8, c5', c7, z0⟩ := ib9.out.facts
        have hS1 := Aside0.mk (show World.cell? wa9 ⟨b, 0, none⟩ = some (.int .i64 m6) ∧ World.cell? wa9 ⟨b, 5, none⟩ = some (.pointer (some ⟨sg, 0, none⟩)) ∧ World.cell? wa9 ⟨sg, 5, none⟩ = some (.string s5) from ⟨c0, c5, c5'⟩)
        clear c0 c5 c8 c5' c7
        obtain ⟨w9, hw9⟩ : ∃ w9, w9 = World.setCell wa9 ⟨b, 0, none⟩ (.int .i64 m9) := ⟨_, rfl⟩
        have HW9 := Aside0.mk hw9
        have I9 : Aside0 (Ist Ex w0 b sg (.slice (some ⟨g, 0, none⟩) xs.length c) ps xs lv fm cw css s1 s2 s3 s4 s5 s6 s7 s8 s9 m9 w9) := ⟨by rw [hw9]; exact ib9.out.put _⟩
        have HP9 : Aside0 (w9.heap[p]? = some (.cells (icells (K, t)) 63 (0, 0))) := ⟨by rw [hw9]; exact (put_other (ne_of_type hp9.out ib9.out.lst.own (by decide)) 0 _).trans hp9.out⟩
        clear hw9 hba
        refine hKc.out _ _ hS1.out (fun hHeld => ?_)
        clear hKc Kc
        refine norm_ (a' := ?_) ?_ ?_
        rotate_left
        · show Act.put _ (some 81) _ = _
          simp only [Act.put, List.setIfInBounds_toArray, List.set_cons_zero, List.set_cons_succ, i64_w, i32_w]
          rfl
        refine pure_ (i := 12) (N := some 82) (v := ?_) (a' := ?_) #[true, true, true, true, true, true, true, true, true, true, true, true, true, false, false, false] rfl rfl (any_of HT_.out (by kernel_rfl)) (fun _ _ _ h => h) (Or.inl ⟨by rfl, ?_⟩) ?_ ?_
        rotate_left
        · intro w'
          go_simp
          with_reducible rfl
        rotate_left
        · simp only [Act.put, List.setIfInBounds_toArray, List.set_cons_zero, List.set_cons_succ, i64_w, i32_w]
          rfl
        refine pure_ (i := 13) (N := some 83) (v := ?_) (a' := ?_) #[true, true, true, true, true, true, true, true, true, true, true, true, true, true, false, false] rfl rfl (any_of HT_.out (by kernel_rfl)) (fun _ _ _ h => h) (Or.inl ⟨by rfl, ?_⟩) ?_ ?_
        rotate_left
        · intro w'
          go_simp
          with_reducible rfl
        rotate_left
        · simp only [Act.put, List.setIfInBounds_toArray, List.set_cons_zero, List.set_cons_succ, i64_w, i32_w]
          rfl
        refine pure_ (i := 14) (N := some 84) (v := ?_) (a' := ?_) #[true, true, true, true, true, true, true, true, true, true, true, true, true, true, true, false] rfl rfl (any_of HT_.out (by kernel_rfl)) (fun _ _ _ h => h) (Or.inl ⟨by rfl, ?_⟩) ?_ ?_
        rotate_left
        · intro w'
          go_simp
          with_reducible rfl
        rotate_left
        · simp only [Act.put, List.setIfInBounds_toArray, List.set_cons_zero, List.set_cons_succ, i64_w, i32_w]
          rfl
        refine last_ (i := 15) (N := none) #[true, true, true, true, true, true, true, true, true, true, true, true, true, true, true, true] rfl rfl (one_of HT_.out (by kernel_rfl)) (by decide) (fun Kc hKc => ?_)
        refine skip_ (w1 := w9) (by rfl) rfl ?_ ?_
        · rw [HW9.out]; go_simp
          try rfl
        refine hKc.out _ _ ?_
        clear hKc Kc
        refine done_ (done_of HT_.out (by kernel_rfl)) ?_
        clear hS0 hS1 hHeld z0
        go_wp2_with (fail)
        obtain ⟨c0, c5, c8, c5', c7, z0⟩ := I9.out.facts
        have hS0 := Aside0.mk (show World.cell? w9 ⟨b, 0, none⟩ = some (.int .i64 m9) ∧ World.cell? w9 ⟨p, 1, none⟩ = some (.string t) from ⟨c0, ((Lib.cell_of_heap HP9.out 1).trans rfl)⟩)
        clear c0 c5 c8 c5' c7 z0
        refine start_ (n := 13) (S := fun w' => w'.cell? ⟨b, 0, none⟩ = some (.int .i64 m9) ∧ w'.cell? ⟨p, 1, none⟩ = some (.string t)) (ds := [12]) #[false, false, false, false, false, false, false, false, false, false, false, false, false] (by kernel_rfl) rfl rfl hS0.out (fun hHeld => ?_); refine with_tabW tab10 bits10 (fun HT_ HW_ => ?_)
        refine pure_ (i := 0) (N := some 85) (v := ?_) (a' := ?_) #[true, false, false, false, false, false, false, false, false, false, false, false, false] rfl rfl (any_of HT_.out (by kernel_rfl)) (fun _ _ _ h => h) (Or.inl ⟨by rfl, ?_⟩) ?_ ?_
        rotate_left
        · intro w'
          go_simp
          with_reducible rfl
        rotate_left
        · simp only [Act.put, List.setIfInBounds_toArray, List.set_cons_zero, List.set_cons_succ, i64_w, i32_w]
          rfl
        refine pure_ (i := 1) (N := some 86) (v := ?_) (a' := ?_) #[true, true, false, false, false, false, false, false, false, false, false, false, false] rfl rfl (any_of HT_.out (by kernel_rfl)) (fun _ _ _ h => h) (Or.inl ⟨by rfl, ?_⟩) ?_ ?_
        rotate_left
        · intro w'
          go_simp
          with_reducible rfl
        rotate_left
        · simp only [Act.put, List.setIfInBounds_toArray, List.set_cons_zero, List.set_cons_succ, i64_w, i32_w]
          rfl
        refine pure_ (i := 2) (N := some 87) (v := ?_) (a' := ?_) #[true, true, true, false, false, false, false, false, false, false, false, false, false] rfl rfl (any_of HT_.out (by kernel_rfl)) (fun _ _ _ h => h) (Or.inl ⟨by rfl, ?_⟩) ?_ ?_
        rotate_left
        · intro w'
          go_simp
          with_reducible rfl
        rotate_left
        · simp only [Act.put, List.setIfInBounds_toArray, List.set_cons_zero, List.set_cons_succ, i64_w, i32_w]
          rfl
        refine take_ (i := 3) (N := some 88) (v := ?_) (a' := ?_) #[true, true, true, true, false, false, false, false, false, false, false, false, false] rfl rfl (take_ofW HT_.out HW_.out (by kernel_rfl)) (fun _ _ _ h => h) (Or.inl ⟨by rfl, ?_⟩) hHeld ?_ ?_
        rotate_left
        · rintro w' ⟨s0, s1⟩
          go_simp
          with_reducible rfl
        rotate_left
        · simp only [Act.put, List.setIfInBounds_toArray, List.set_cons_zero, List.set_cons_succ, i64_w, i32_w]
          rfl
        refine pure_ (i := 4) (N := some 89) (v := ?_) (a' := ?_) #[true, true, true, true, true, false, false, false, false, false, false, false, false] rfl rfl (any_of HT_.out (by kernel_rfl)) (fun _ _ _ h => h) (Or.inl ⟨by rfl, ?_⟩) ?_ ?_
        rotate_left
        · intro w'
          go_simp
          with_reducible rfl
        rotate_left
        · simp only [Act.put, List.setIfInBounds_toArray, List.set_cons_zero, List.set_cons_succ, i64_w, i32_w]
          rfl
        refine pure_ (i := 5) (N := some 90) (v := ?_) (a' := ?_) #[true, true, true, true, true, true, false, false, false, false, false, false, false] rfl rfl (any_of HT_.out (by kernel_rfl)) (fun _ _ _ h => h) (Or.inl ⟨by rfl, ?_⟩) ?_ ?_
        rotate_left
        · intro w'
          go_simp
          with_reducible rfl
        rotate_left
        · simp only [Act.put, List.setIfInBounds_toArray, List.set_cons_zero, List.set_cons_succ, i64_w, i32_w]
          rfl
        refine pure_ (i := 6) (N := some 91) (v := ?_) (a' := ?_) #[true, true, true, true, true, true, true, false, false, false, false, false, false] rfl rfl (any_of HT_.out (by kernel_rfl)) (fun _ _ _ h => h) (Or.inl ⟨by rfl, ?_⟩) ?_ ?_
        rotate_left
        · intro w'
          go_simp
          with_reducible rfl
        rotate_left
        · simp only [Act.put, List.setIfInBounds_toArray, List.set_cons_zero, List.set_cons_succ, i64_w, i32_w]
          rfl
        refine take_ (i := 7) (N := some 92) (v := ?_) (a' := ?_) #[true, true, true, true, true, true, true, true, false, false, false, false, false] rfl rfl (take_ofW HT_.out HW_.out (by kernel_rfl)) (fun _ _ _ h => h) (Or.inl ⟨by rfl, ?_⟩) hHeld ?_ ?_
        rotate_left
        · rintro w' ⟨s0, s1⟩
          go_simp
          with_reducible rfl
        rotate_left
        · simp only [Act.put, List.setIfInBounds_toArray, List.set_cons_zero, List.set_cons_succ, i64_w, i32_w]
          rfl
        refine one_ (i := 8) (N := some 93) #[true, true, true, true, true, true, true, true, true, false, false, false, false] rfl rfl (one_of HT_.out (by kernel_rfl)) (by decide) (fun Kc hKc => ?_)
        refine goes_ Tryz.func45 (by kernel_rfl) rfl #[.string t] (by rfl) rfl rfl (by (try simp only [List.map_toArray, List.map_cons, List.map_nil]); first | done | rfl) ?_
        refine (count t _ (by have := H5.out; have := HX.out; omega)).mono ?_
        rintro e wa10 ⟨rfl, hba⟩
        refine ⟨_, rfl, ?_⟩
        have ib10 := Aside0.mk (I9.out.drew.kept hba)
        have hp10 := Aside0.mk ((hba.block _ (Lst.lt_of HP9.out)).trans HP9.out)
        obtain ⟨c0, c5, c8, c5', c7, z0⟩ := ib10.out.facts
        have hS1 := Aside0.mk (show World.cell? wa10 ⟨b, 0, none⟩ = some (.int .i64 m9) ∧ World.cell? wa10 ⟨p, 1, none⟩ = some (.string t) from ⟨c0, ((Lib.cell_of_heap hp10.out 1).trans rfl)⟩)
        clear c0 c5 c8 c5' c7
        obtain ⟨w10, hw10⟩ : ∃ w10, w10 = World.setCell wa10 ⟨b, 0, none⟩ (.int .i64 m10) := ⟨_, rfl⟩
        have HW10 := Aside0.mk hw10
        have I10 : Aside0 (Ist Ex w0 b sg (.slice (some ⟨g, 0, none⟩) xs.length c) ps xs lv fm cw css s1 s2 s3 s4 s5 s6 s7 s8 s9 m10 w10) := ⟨by rw [hw10]; exact ib10.out.put _⟩
        have HP10 : Aside0 (w10.heap[p]? = some (.cells (icells (K, t)) 63 (0, 0))) := ⟨by rw [hw10]; exact (put_other (ne_of_type hp10.out ib10.out.lst.own (by decide)) 0 _).trans hp10.out⟩
        clear hw10 hba
        refine hKc.out _ _ hS1.out (fun hHeld => ?_)
        clear hKc Kc
        refine norm_ (a' := ?_) ?_ ?_
        rotate_left
        · show Act.put _ (some 93) _ = _
          simp only [Act.put, List.setIfInBounds_toArray, List.set_cons_zero, List.set_cons_succ, i64_w, i32_w]
          rfl
        refine pure_ (i := 9) (N := some 94) (v := ?_) (a' := ?_) #[true, true, true, true, true, true, true, true, true, true, false, false, false] rfl rfl (any_of HT_.out (by kernel_rfl)) (fun _ _ _ h => h) (Or.inl ⟨by rfl, ?_⟩) ?_ ?_
        rotate_left
        · intro w'
          go_simp
          with_reducible rfl
        rotate_left
        · simp only [Act.put, List.setIfInBounds_toArray, List.set_cons_zero, List.set_cons_succ, i64_w, i32_w]
          rfl
        refine pure_ (i := 10) (N := some 95) (v := ?_) (a' := ?_) #[true, true, true, true, true, true, true, true, true, true, true, false, false] rfl rfl (any_of HT_.out (by kernel_rfl)) (fun _ _ _ h => h) (Or.inl ⟨by rfl, ?_⟩) ?_ ?_
        rotate_left
        · intro w'
          go_simp
          with_reducible rfl
        rotate_left
        · simp only [Act.put, List.setIfInBounds_toArray, List.set_cons_zero, List.set_cons_succ, i64_w, i32_w]
          rfl
        refine pure_ (i := 11) (N := some 96) (v := ?_) (a' := ?_) #[true, true, true, true, true, true, true, true, true, true, true, true, false] rfl rfl (any_of HT_.out (by kernel_rfl)) (fun _ _ _ h => h) (Or.inl ⟨by rfl, ?_⟩) ?_ ?_
        rotate_left
        · intro w'
          go_simp
          with_reducible rfl
        rotate_left
        · simp only [Act.put, List.setIfInBounds_toArray, List.set_cons_zero, List.set_cons_succ, i64_w, i32_w]
          rfl
        refine last_ (i := 12) (N := none) #[true, true, true, true, true, true, true, true, true, true, true, true, true] rfl rfl (one_of HT_.out (by kernel_rfl)) (by decide) (fun Kc hKc => ?_)
        refine skip_ (w1 := w10) (by rfl) rfl ?_ ?_
        · rw [HW10.out]; go_simp
          try rfl
        refine hKc.out _ _ ?_
        clear hKc Kc
        refine done_ (done_of HT_.out (by kernel_rfl)) ?_
        clear hS0 hS1 hHeld z0
        go_wp2_with (fail)
        obtain ⟨c0, c5, c8, c5', c7, z0⟩ := I10.out.facts
        have hS0 := Aside0.mk (show World.cell? w10 ⟨b, 0, none⟩ = some (.int .i64 m10) ∧ World.cell? w10 ⟨b, 5, none⟩ = some (.pointer (some ⟨sg, 0, none⟩)) ∧ World.cell? w10 ⟨sg, 7, none⟩ = some (.string s7) from ⟨c0, c5, c7⟩)
        clear c0 c5 c8 c5' c7 z0
        refine start_ (n := 16) (S := fun w' => w'.cell? ⟨b, 0, none⟩ = some (.int .i64 m10) ∧ w'.cell? ⟨b, 5, none⟩ = some (.pointer (some ⟨sg, 0, none⟩)) ∧ w'.cell? ⟨sg, 7, none⟩ = some (.string s7)) (ds := [15]) #[false, false, false, false, false, false, false, false, false, false, false, false, false, false, false, false] (by kernel_rfl) rfl rfl hS0.out (fun hHeld => ?_); refine with_tabW tab11 bits11 (fun HT_ HW_ => ?_)
        refine pure_ (i := 0) (N := some 97) (v := ?_) (a' := ?_) #[true, false, false, false, false, false, false, false, false, false, false, false, false, false, false, false] rfl rfl (any_of HT_.out (by kernel_rfl)) (fun _ _ _ h => h) (Or.inl ⟨by rfl, ?_⟩) ?_ ?_
        rotate_left
        · intro w'
          go_simp
          with_reducible rfl
        rotate_left
        · simp only [Act.put, List.setIfInBounds_toArray, List.set_cons_zero, List.set_cons_succ, i64_w, i32_w]
          rfl
        refine pure_ (i := 1) (N := some 98) (v := ?_) (a' := ?_) #[true, true, false, false, false, false, false, false, false, false, false, false, false, false, false, false] rfl rfl (any_of HT_.out (by kernel_rfl)) (fun _ _ _ h => h) (Or.inl ⟨by rfl, ?_⟩) ?_ ?_
        rotate_left
        · intro w'
          go_simp
          with_reducible rfl
        rotate_left
        · simp only [Act.put, List.setIfInBounds_toArray, List.set_cons_zero, List.set_cons_succ, i64_w, i32_w]
          rfl
        refine pure_ (i := 2) (N := some 99) (v := ?_) (a' := ?_) #[true, true, true, false, false, false, false, false, false, false, false, false, false, false, false, false] rfl rfl (any_of HT_.out (by kernel_rfl)) (fun _ _ _ h => h) (Or.inl ⟨by rfl, ?_⟩) ?_ ?_
        rotate_left
        · intro w'
          go_simp
          with_reducible rfl
        rotate_left
        · simp only [Act.put, List.setIfInBounds_toArray, List.set_cons_zero, List.set_cons_succ, i64_w, i32_w]
          rfl
        refine take_ (i := 3) (N := some 100) (v := ?_) (a' := ?_) #[true, true, true, true, false, false, false, false, false, false, false, false, false, false, false, false] rfl rfl (take_ofW HT_.out HW_.out (by kernel_rfl)) (fun _ _ _ h => h) (Or.inl ⟨by rfl, ?_⟩) hHeld ?_ ?_
        rotate_left
        · rintro w' ⟨s0, s1, s2⟩
          go_simp
          with_reducible rfl
        rotate_left
        · simp only [Act.put, List.setIfInBounds_toArray, List.set_cons_zero, List.set_cons_succ, i64_w, i32_w]
          rfl
        refine pure_ (i := 4) (N := some 101) (v := ?_) (a' := ?_) #[true, true, true, true, true, false, false, false, false, false, false, false, false, false, false, false] rfl rfl (any_of HT_.out (by kernel_rfl)) (fun _ _ _ h => h) (Or.inl ⟨by rfl, ?_⟩) ?_ ?_
        rotate_left
        · intro w'
          go_simp
          with_reducible rfl
        rotate_left
        · simp only [Act.put, List.setIfInBounds_toArray, List.set_cons_zero, List.set_cons_succ, i64_w, i32_w]
          rfl
        refine pure_ (i := 5) (N := some 102) (v := ?_) (a' := ?_) #[true, true, true, true, true, true, false, false, false, false, false, false, false, false, false, false] rfl rfl (any_of HT_.out (by kernel_rfl)) (fun _ _ _ h => h) (Or.inl ⟨by rfl, ?_⟩) ?_ ?_
        rotate_left
        · intro w'
          go_simp
          with_reducible rfl
        rotate_left
        · simp only [Act.put, List.setIfInBounds_toArray, List.set_cons_zero, List.set_cons_succ, i64_w, i32_w]
          rfl
        refine pure_ (i := 6) (N := some 103) (v := ?_) (a' := ?_) #[true, true, true, true, true, true, true, false, false, false, false, false, false, false, false, false] rfl rfl (any_of HT_.out (by kernel_rfl)) (fun _ _ _ h => h) (Or.inl ⟨by rfl, ?_⟩) ?_ ?_
        rotate_left
        · intro w'
          go_simp
          with_reducible rfl
        rotate_left
        · simp only [Act.put, List.setIfInBounds_toArray, List.set_cons_zero, List.set_cons_succ, i64_w, i32_w]
          rfl
        refine take_ (i := 7) (N := some 104) (v := ?_) (a' := ?_) #[true, true, true, true, true, true, true, true, false, false, false, false, false, false, false, false] rfl rfl (take_ofW HT_.out HW_.out (by kernel_rfl)) (fun _ _ _ h => h) (Or.inl ⟨by rfl, ?_⟩) hHeld ?_ ?_
        rotate_left
        · rintro w' ⟨s0, s1, s2⟩
          go_simp
          with_reducible rfl
        rotate_left
        · simp only [Act.put, List.setIfInBounds_toArray, List.set_cons_zero, List.set_cons_succ, i64_w, i32_w]
          rfl
        refine pure_ (i := 8) (N := some 105) (v := ?_) (a' := ?_) #[true, true, true, true, true, true, true, true, true, false, false, false, false, false, false, false] rfl rfl (any_of HT_.out (by kernel_rfl)) (fun _ _ _ h => h) (Or.inl ⟨by rfl, ?_⟩) ?_ ?_
        rotate_left
        · intro w'
          go_simp
          with_reducible rfl
        rotate_left
        · simp only [Act.put, List.setIfInBounds_toArray, List.set_cons_zero, List.set_cons_succ, i64_w, i32_w]
          rfl
        refine pure_ (i := 9) (N := some 106) (v := ?_) (a' := ?_) #[true, true, true, true, true, true, true, true, true, true, false, false, false, false, false, false] rfl rfl (any_of HT_.out (by kernel_rfl)) (fun _ _ _ h => h) (Or.inl ⟨by rfl, ?_⟩) ?_ ?_
        rotate_left
        · intro w'
          go_simp
          with_reducible rfl
        rotate_left
        · simp only [Act.put, List.setIfInBounds_toArray, List.set_cons_zero, List.set_cons_succ, i64_w, i32_w]
          rfl
        refine take_ (i := 10) (N := some 107) (v := ?_) (a' := ?_) #[true, true, true, true, true, true, true, true, true, true, true, false, false, false, false, false] rfl rfl (take_ofW HT_.out HW_.out (by kernel_rfl)) (fun _ _ _ h => h) (Or.inl ⟨by rfl, ?_⟩) hHeld ?_ ?_
        rotate_left
        · rintro w' ⟨s0, s1, s2⟩
          go_simp
          with_reducible rfl
        rotate_left
        · simp only [Act.put, List.setIfInBounds_toArray, List.set_cons_zero, List.set_cons_succ, i64_w, i32_w]
          rfl
        refine one_ (i := 11) (N := some 108) #[true, true, true, true, true, true, true, true, true, true, true, true, false, false, false, false] rfl rfl (one_of HT_.out (by kernel_rfl)) (by decide) (fun Kc hKc => ?_)
        refine goes_ Tryz.func45 (by kernel_rfl) rfl #[.string s7] (by rfl) rfl rfl (by (try simp only [List.map_toArray, List.map_cons, List.map_nil]); first | done | rfl) ?_
        refine (count s7 _ (by have := H5.out; have := HX.out; omega)).mono ?_
        rintro e wa11 ⟨rfl, hba⟩
        refine ⟨_, rfl, ?_⟩
        have ib11 := Aside0.mk (I10.out.drew.kept hba)
        have hp11 := Aside0.mk ((hba.block _ (Lst.lt_of HP10.out)).trans HP10.out)
        obtain ⟨c0, c5, c8, c5', c7, z0⟩ := ib11.out.facts
        have hS1 := Aside0.mk (show World.cell? wa11 ⟨b, 0, none⟩ = some (.int .i64 m10) ∧ World.cell? wa11 ⟨b, 5, none⟩ = some (.pointer (some ⟨sg, 0, none⟩)) ∧ World.cell? wa11 ⟨sg, 7, none⟩ = some (.string s7) from ⟨c0, c5, c7⟩)
        clear c0 c5 c8 c5' c7
        obtain ⟨w11, hw11⟩ : ∃ w11, w11 = World.setCell wa11 ⟨b, 0, none⟩ (.int .i64 m11) := ⟨_, rfl⟩
        have HW11 := Aside0.mk hw11
        have I11 : Aside0 (Ist Ex w0 b sg (.slice (some ⟨g, 0, none⟩) xs.length c) ps xs lv fm cw css s1 s2 s3 s4 s5 s6 s7 s8 s9 m11 w11) := ⟨by rw [hw11]; exact ib11.out.put _⟩
        have HP11 : Aside0 (w11.heap[p]? = some (.cells (icells (K, t)) 63 (0, 0))) := ⟨by rw [hw11]; exact (put_other (ne_of_type hp11.out ib11.out.lst.own (by decide)) 0 _).trans hp11.out⟩
        clear hw11 hba
        refine hKc.out _ _ hS1.out (fun hHeld => ?_)
        clear hKc Kc
        refine norm_ (a' := ?_) ?_ ?_
        rotate_left
        · show Act.put _ (some 108) _ = _
          simp only [Act.put, List.setIfInBounds_toArray, List.set_cons_zero, List.set_cons_succ, i64_w, i32_w]
          rfl
        refine pure_ (i := 12) (N := some 109) (v := ?_) (a' := ?_) #[true, true, true, true, true, true, true, true, true, true, true, true, true, false, false, false] rfl rfl (any_of HT_.out (by kernel_rfl)) (fun _ _ _ h => h) (Or.inl ⟨by rfl, ?_⟩) ?_ ?_
        rotate_left
        · intro w'
          go_simp
          with_reducible rfl
        rotate_left
        · simp only [Act.put, List.setIfInBounds_toArray, List.set_cons_zero, List.set_cons_succ, i64_w, i32_w]
          rfl
        refine pure_ (i := 13) (N := some 110) (v := ?_) (a' := ?_) #[true, true, true, true, true, true, true, true, true, true, true, true, true, true, false, false] rfl rfl (any_of HT_.out (by kernel_rfl)) (fun _ _ _ h => h) (Or.inl ⟨by rfl, ?_⟩) ?_ ?_
        rotate_left
        · intro w'
          go_simp
          with_reducible rfl
        rotate_left
        · simp only [Act.put, List.setIfInBounds_toArray, List.set_cons_zero, List.set_cons_succ, i64_w, i32_w]
          rfl
        refine pure_ (i := 14) (N := some 111) (v := ?_) (a' := ?_) #[true, true, true, true, true, true, true, true, true, true, true, true, true, true, true, false] rfl rfl (any_of HT_.out (by kernel_rfl)) (fun _ _ _ h => h) (Or.inl ⟨by rfl, ?_⟩) ?_ ?_
        rotate_left
        · intro w'
          go_simp
          with_reducible rfl
        rotate_left
        · simp only [Act.put, List.setIfInBounds_toArray, List.set_cons_zero, List.set_cons_succ, i64_w, i32_w]
          rfl
        refine last_ (i := 15) (N := none) #[true, true, true, true, true, true, true, true, true, true, true, true, true, true, true, true] rfl rfl (one_of HT_.out (by kernel_rfl)) (by decide) (fun Kc hKc => ?_)
        refine skip_ (w1 := w11) (by rfl) rfl ?_ ?_
        · rw [HW11.out]; go_simp
          try rfl
        refine hKc.out _ _ ?_
        clear hKc Kc
        refine done_ (done_of HT_.out (by kernel_rfl)) ?_
        clear hS0 hS1 hHeld z0
        go_wp2_with (fail)
        go_roundw
        case rel => exact ⟨j + 1, hlt, rfl, m11, HB.out.1, HB.out.2, I11⟩
        case measure => simp [RowKit.intOf]; omega
        -- END ROUND 0
    · have hd : decide ((j : Int) < (n : Int)) = false := by simp; omega
      obtain rfl : j = n := by omega
      have c2 : wr.cell? ⟨b, 2, none⟩ = some (.string css) := IA.out.lst.c 2
      have z2 := IA.out.lst.fz 2
      have HB := Aside0.mk (And.intro hm0 hm1)
      by_cases h0 : css.data.toList = []
      · have q1 : css.toList.isEmpty = true := by rw [Small.toList_data, h0]; rfl
        have q2 : (css.toList == []) = true := by rw [Small.toList_data, h0]; rfl
        clear h0
        go_wp2_with (fail)
        go_end0
        exact ⟨rfl, m, _, HB.out.1, by have := HB.out; have := H5.out; have := HN.out; omega, IA.out.put2 _⟩
      · have q1 : css.toList.isEmpty = false := by rw [Small.toList_data]; simpa using h0
        have q2 : (css.toList == []) = false := by rw [Small.toList_data]; simpa using h0
        clear h0
        go_wp2_with (fail)
        go_end0
        exact ⟨rfl, m, css, HB.out.1, by have := HB.out; have := H5.out; have := HN.out; omega, IA.out⟩
end Go.Proofs.YthjkmjimlhpbfaaGreatDoor.Lin
