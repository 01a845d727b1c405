/- The walks of RenderMarkdown (a deferred closure restores the style) and ListMarkdown. -/
import Derived.Test.YthjkmjimlhpbfaaDoorLrn
import Derived.Test.YthjkmjimlhpbfaaDoorWTab
import Derived.Test.YthjkmjimlhpbfaaDoorWMore
import Derived.OrdersHeld
import Derived.Defers
namespace Go.Proofs.YthjkmjimlhpbfaaDoor.Lmd
open Go Go.RowKit Go.Lib Go.Proofs.YthjkmjimlhpbfaaDoor.Lst Go.Proofs.YthjkmjimlhpbfaaDoor.Lsm Go.Proofs.YthjkmjimlhpbfaaDoor.Lof Go.Proofs.YthjkmjimlhpbfaaDoor.Lan Go.Proofs.YthjkmjimlhpbfaaDoor.Lin Go.Proofs.YthjkmjimlhpbfaaDoor.Lre Go.Proofs.YthjkmjimlhpbfaaDoor.Lrn Go.Proofs.YthjkmjimlhpbfaaDoor.Blb Go.Proofs.YthjkmjimlhpbfaaDoorW.PrintWords Go.Proofs.YthjkmjimlhpbfaaDoorW.PrintLast Go.Proofs.YthjkmjimlhpbfaaDoorW.PrintMore

def m1 : ByteArray := ⟨#[42]⟩
def m2 : ByteArray := ⟨#[32, 32]⟩
def m7 : ByteArray := ⟨#[60, 98, 114, 47, 62]⟩
def m9 : ByteArray := ⟨#[83, 116, 121, 108, 101, 77, 97, 114, 107, 100, 111, 119, 110]⟩
def mdCells : Array Value := #[.int .i64 0, .string m1, .string m1, .string m1, .string m1, .string m2, .string m1, .string m7, .string m2, .string m9]
set_option linter.all false in
set_option maxRecDepth 100000 in
set_option maxHeartbeats 2000000 in
theorem styleMd (w : World) : Calls Tryd.prog 39 #[] w fun e w' => e = .returned (.agg #[.int .i64 0, .string m1, .string m1, .string m1, .string m1, .string m2, .string m1, .string m7, .string m2, .string m9]) ∧ Below w.heap.size w w' := by
  have HB : Aside0 (∀ o1, Below w.heap.size w (w.alloc o1)) := ⟨fun o1 => (Below.refl _ w).alloc (Nat.le_refl _) o1⟩
  go_enter Tryd.func39, Tryd.ntmps39
  go_wp2_with (fail)
  refine bodyPost_ret (v := .agg #[.int .i64 0, .string m1, .string m1, .string m1, .string m1, .string m2, .string m1, .string m7, .string m2, .string m9]) (by simp [results, go_sem, m1, m2, m7, m9]) rfl ⟨rfl, HB.out _⟩

set_option linter.all false in
set_option maxRecDepth 100000 in
set_option maxHeartbeats 1000000 in
theorem setstyle2 (w0 w : World) (b : Nat) (v : Value) (ps : List Nat) (xs : List (Int × ByteArray)) (lv ap : Int) (cv css : ByteArray) (sp : Option Addr) (fm : Int) (s1 s2 s3 s4 s5 s6 s7 s8 s9 : ByteArray) (S : LstV w0 b v ps xs lv ap cv css sp w) :
    Calls Tryd.prog 21 #[.pointer (some ⟨b, 0, none⟩), .agg #[.int .i64 fm, .string s1, .string s2, .string s3, .string s4, .string s5, .string s6, .string s7, .string s8, .string s9]] w fun e w' => e = .returned (.tuple #[]) ∧
      ∃ sg, LstV w0 b v ps xs lv ap cv css (some ⟨sg, 0, none⟩) w' ∧ Sty w' sg fm s1 s2 s3 s4 s5 s6 s7 s8 s9 ∧ ∀ k o, k ≠ b → w.heap[k]? = some o → w'.heap[k]? = some o := by
  have hb1 : ∀ o, Below w.heap.size w (w.alloc o) := fun o => (Below.refl _ w).alloc (Nat.le_refl _) o
  have f5 : ∀ o, (w.alloc o).frozen? ⟨b, 5, none⟩ = false := fun o => (S.kept (hb1 o)).fz 5
  have c5 : ∀ o, (w.alloc o).cell? ⟨b, 5, none⟩ = some (.pointer sp) := fun o => (S.kept (hb1 o)).c 5
  have SA := Aside0.mk S
  clear S
  go_enter Tryd.func21, Tryd.ntmps21
  go_wp2_with (fail)
  go_end0
  refine ⟨rfl, w.heap.size, (SA.out.kept (hb1 _)).put 5 _ rfl, ?_, fun k o hk ho => ?_⟩
  · refine (put_other ?_ 5 _).trans (heap_alloc_new w _)
    have := lt_of SA.out.own
    omega
  · exact (put_other hk 5 _).trans (((hb1 _).block k (Lst.lt_of ho)).trans ho)

def T38 : Bool × List (List Nat × List Nat) := (true, [([], []), ([], []), ([1], [1]), ([2], [2]), ([0, 3], [0, 3])])
def B38 : List Nat := [0, 0, 2, 6, 15]
theorem tab38 : rtab .any (opsOf Tryd.f38 2) = T38 := by kernel_rfl
theorem bits38 : waitsOk T38.2 B38 = true := by kernel_rfl

set_option linter.all false in
set_option maxRecDepth 100000 in
set_option maxHeartbeats 2000000 in
theorem restore (w0 w : World) (b g1 g3 sg : Nat) (xs : List (Int × ByteArray)) (lv ap : Int) (cv css : ByteArray) (sp : Option Addr) (fm : Int) (s1 s2 s3 s4 s5 s6 s7 s8 s9 : ByteArray) (u : FrameMode) (hl : Lst w0 b xs lv ap cv css sp w) (hs : Sty w sg fm s1 s2 s3 s4 s5 s6 s7 s8 s9) (h1 : w.cell? ⟨g1, 0, none⟩ = some (.pointer (some ⟨b, 0, none⟩))) (h3 : w.cell? ⟨g3, 0, none⟩ = some (.pointer (some ⟨sg, 0, none⟩))) :
    CallsD Tryd.prog 38 #[.pointer (some ⟨g3, 0, none⟩), .pointer (some ⟨g1, 0, none⟩)] u w fun e u' w' => u' = u ∧ (e = .returned (.tuple #[]) ∧ ∃ sp', Lst w0 b xs lv ap cv css sp' w') := by
  have hS0 : Aside0 (w.cell? ⟨g1, 0, none⟩ = some (.pointer (some ⟨b, 0, none⟩)) ∧ w.cell? ⟨g3, 0, none⟩ = some (.pointer (some ⟨sg, 0, none⟩)) ∧ w.cell? ⟨sg, 0, none⟩ = some (.int .i64 fm) ∧ w.cell? ⟨sg, 1, none⟩ = some (.string s1) ∧ w.cell? ⟨sg, 2, none⟩ = some (.string s2) ∧ w.cell? ⟨sg, 3, none⟩ = some (.string s3) ∧ w.cell? ⟨sg, 4, none⟩ = some (.string s4) ∧ w.cell? ⟨sg, 5, none⟩ = some (.string s5) ∧ w.cell? ⟨sg, 6, none⟩ = some (.string s6) ∧ w.cell? ⟨sg, 7, none⟩ = some (.string s7) ∧ w.cell? ⟨sg, 8, none⟩ = some (.string s8) ∧ w.cell? ⟨sg, 9, none⟩ = some (.string s9)) := ⟨h1, h3, ((Lib.cell_of_heap hs 0).trans rfl), ((Lib.cell_of_heap hs 1).trans rfl), ((Lib.cell_of_heap hs 2).trans rfl), ((Lib.cell_of_heap hs 3).trans rfl), ((Lib.cell_of_heap hs 4).trans rfl), ((Lib.cell_of_heap hs 5).trans rfl), ((Lib.cell_of_heap hs 6).trans rfl), ((Lib.cell_of_heap hs 7).trans rfl), ((Lib.cell_of_heap hs 8).trans rfl), ((Lib.cell_of_heap hs 9).trans rfl)⟩
  have HL : Aside0 (Lst w0 b xs lv ap cv css sp w.drew) := ⟨Lof.Lst.kept hl ⟨rfl, rfl, rfl, Nat.le_refl _, fun _ _ => rfl⟩⟩
  clear hl hs h1
  go_enter_d Tryd.func38, Tryd.ntmps38
  go_wp2_with (fail)
  refine start_ (n := 5) (S := fun w' => w'.cell? ⟨g1, 0, none⟩ = some (.pointer (some ⟨b, 0, none⟩)) ∧ w'.cell? ⟨g3, 0, none⟩ = some (.pointer (some ⟨sg, 0, none⟩)) ∧ w'.cell? ⟨sg, 0, none⟩ = some (.int .i64 fm) ∧ w'.cell? ⟨sg, 1, none⟩ = some (.string s1) ∧ w'.cell? ⟨sg, 2, none⟩ = some (.string s2) ∧ w'.cell? ⟨sg, 3, none⟩ = some (.string s3) ∧ w'.cell? ⟨sg, 4, none⟩ = some (.string s4) ∧ w'.cell? ⟨sg, 5, none⟩ = some (.string s5) ∧ w'.cell? ⟨sg, 6, none⟩ = some (.string s6) ∧ w'.cell? ⟨sg, 7, none⟩ = some (.string s7) ∧ w'.cell? ⟨sg, 8, none⟩ = some (.string s8) ∧ w'.cell? ⟨sg, 9, none⟩ = some (.string s9)) (ds := [4]) #[false, false, false, false, false] (by kernel_rfl) rfl rfl hS0.out (fun hHeld => ?_); refine with_tabW tab38 bits38 (fun HT_ HW_ => ?_)
  refine take_ (i := 0) (N := some 7) (v := ?_) (a' := ?_) #[true, false, false, false, false] rfl rfl (take_ofW HT_.out HW_.out (by kernel_rfl)) (fun _ _ _ h => h) (Or.inl ⟨by rfl, ?_⟩) hHeld ?_ ?_
  rotate_left
  · rintro w' ⟨y0, y1, y2, y3, y4, y5, y6, y7, y8, y9, y10, y11⟩
    go_simp
    with_reducible rfl
  rotate_left
  · simp only [Act.put, List.setIfInBounds_toArray, List.set_cons_zero, List.set_cons_succ, i64_w, i32_w]
    rfl
  refine take_ (i := 1) (N := some 8) (v := ?_) (a' := ?_) #[true, true, false, false, false] rfl rfl (take_ofW HT_.out HW_.out (by kernel_rfl)) (fun _ _ _ h => h) (Or.inl ⟨by rfl, ?_⟩) hHeld ?_ ?_
  rotate_left
  · rintro w' ⟨y0, y1, y2, y3, y4, y5, y6, y7, y8, y9, y10, y11⟩
    go_simp
    with_reducible rfl
  rotate_left
  · simp only [Act.put, List.setIfInBounds_toArray, List.set_cons_zero, List.set_cons_succ, i64_w, i32_w]
    rfl
  refine pure_ (i := 2) (N := some 9) (v := ?_) (a' := ?_) #[true, true, true, false, false] rfl rfl (any_of HT_.out (by kernel_rfl)) (fun _ _ _ h => h) (Or.inl ⟨by rfl, ?_⟩) ?_ ?_
  rotate_left
  · intro w'
    go_simp
    with_reducible rfl
  rotate_left
  · simp only [Act.put, List.setIfInBounds_toArray, List.set_cons_zero, List.set_cons_succ, i64_w, i32_w]
    rfl
  refine take_ (i := 3) (N := some 10) (v := ?_) (a' := ?_) #[true, true, true, true, false] rfl rfl (take_ofW HT_.out HW_.out (by kernel_rfl)) (fun _ _ _ h => h) (Or.inl ⟨by rfl, ?_⟩) hHeld ?_ ?_
  rotate_left
  · rintro w' ⟨y0, y1, y2, y3, y4, y5, y6, y7, y8, y9, y10, y11⟩
    go_simp
    with_reducible rfl
  rotate_left
  · simp only [Act.put, List.setIfInBounds_toArray, List.set_cons_zero, List.set_cons_succ, i64_w, i32_w]
    rfl
  refine last_ (i := 4) (N := some 11) #[true, true, true, true, true] rfl rfl (one_of HT_.out (by kernel_rfl)) (by decide) (fun Kc hKc => ?_)
  refine goes_ Tryd.func21 (by kernel_rfl) rfl #[.pointer (some ⟨b, 0, none⟩), .agg #[.int .i64 fm, .string s1, .string s2, .string s3, .string s4, .string s5, .string s6, .string s7, .string s8, .string s9]] (by rfl) rfl rfl (by (try simp only [List.map_toArray, List.map_cons, List.map_nil]); first | done | rfl) ?_
  refine (setstyle w0 _ b xs lv ap cv css sp fm s1 s2 s3 s4 s5 s6 s7 s8 s9 HL.out).mono ?_
  rintro e w1 ⟨rfl, sg2, hL2, hg2, hs2⟩
  refine ⟨_, rfl, ?_⟩
  have HF := Aside0.mk hL2
  clear hL2 hg2 hs2
  refine hKc.out _ _ ?_
  clear hKc Kc
  refine norm_ (a' := ?_) ?_ ?_
  rotate_left
  · show Act.put _ (some 11) _ = _
    simp only [Act.put, List.setIfInBounds_toArray, List.set_cons_zero, List.set_cons_succ, i64_w, i32_w]
    rfl
  refine done_ (done_of HT_.out (by kernel_rfl)) ?_
  try go_wp2_with (fail)
  go_end0
  exact ⟨rfl, ⟨_, HF.out⟩⟩

def T25 : Bool × List (List Nat × List Nat) := (true, [([], []), ([], []), ([0, 1, 1], [0, 1])])
def B25 : List Nat := [0, 0, 3]
theorem tab25 : rtab .any (opsOf Tryd.f25 3) = T25 := by kernel_rfl
theorem bits25 : waitsOk T25.2 B25 = true := by kernel_rfl

/-- what lies while Markdown is rendered -/
structure Mk (w0 : World) (b n1 n3 sg : Nat) (v : Value) (ps : List Nat) (xs : List (Int × ByteArray)) (lv ap fm : Int) (cv css s1 s2 s3 s4 s5 s6 s7 s8 s9 : ByteArray) (sp : Option Addr) (w : World) : Prop where
  lst : LstV w0 b v ps xs lv ap cv css sp w
  sty : Sty w sg fm s1 s2 s3 s4 s5 s6 s7 s8 s9
  h1 : w.heap[n1]? = some (.cells #[.pointer (some ⟨b, 0, none⟩)] 44 (0, 0))
  h3 : w.heap[n3]? = some (.cells #[.pointer (some ⟨sg, 0, none⟩)] 54 (0, 0))
section
variable {w0 w w' : World} {b n1 n3 sg : Nat} {v : Value} {ps : List Nat} {xs : List (Int × ByteArray)} {lv ap fm : Int} {cv css s1 s2 s3 s4 s5 s6 s7 s8 s9 : ByteArray} {sp sp' : Option Addr}
theorem Mk.below (h : Mk w0 b n1 n3 sg v ps xs lv ap fm cv css s1 s2 s3 s4 s5 s6 s7 s8 s9 sp w) (hw : Below w.heap.size w w') : Mk w0 b n1 n3 sg v ps xs lv ap fm cv css s1 s2 s3 s4 s5 s6 s7 s8 s9 sp w' :=
  ⟨h.lst.kept hw, (hw.block _ (Lst.lt_of h.sty)).trans h.sty, (hw.block _ (Lst.lt_of h.h1)).trans h.h1, (hw.block _ (Lst.lt_of h.h3)).trans h.h3⟩
theorem Mk.drew (h : Mk w0 b n1 n3 sg v ps xs lv ap fm cv css s1 s2 s3 s4 s5 s6 s7 s8 s9 sp w) : Mk w0 b n1 n3 sg v ps xs lv ap fm cv css s1 s2 s3 s4 s5 s6 s7 s8 s9 sp w.drew := h.below ⟨rfl, rfl, rfl, Nat.le_refl _, fun _ _ => rfl⟩
theorem Mk.g1 (h : Mk w0 b n1 n3 sg v ps xs lv ap fm cv css s1 s2 s3 s4 s5 s6 s7 s8 s9 sp w) : w.cell? ⟨n1, 0, none⟩ = some (.pointer (some ⟨b, 0, none⟩)) := (Lib.cell_of_heap h.h1 0).trans rfl
theorem Mk.g3 (h : Mk w0 b n1 n3 sg v ps xs lv ap fm cv css s1 s2 s3 s4 s5 s6 s7 s8 s9 sp w) : w.cell? ⟨n3, 0, none⟩ = some (.pointer (some ⟨sg, 0, none⟩)) := (Lib.cell_of_heap h.h3 0).trans rfl
theorem Mk.keep (h : Mk w0 b n1 n3 sg v ps xs lv ap fm cv css s1 s2 s3 s4 s5 s6 s7 s8 s9 sp w) {lv' ap' : Int} {cv' css' : ByteArray} {v' : Value} {ps' : List Nat} {xs' : List (Int × ByteArray)} (hL : LstV w0 b v' ps' xs' lv' ap' cv' css' sp' w') (hk : ∀ k o, k ≠ b → w.heap[k]? = some o → w'.heap[k]? = some o) : Mk w0 b n1 n3 sg v' ps' xs' lv' ap' fm cv' css' s1 s2 s3 s4 s5 s6 s7 s8 s9 sp' w' :=
  ⟨hL, hk _ _ (ne_of_type h.sty h.lst.own (by decide)) h.sty, hk _ _ (ne_of_type h.h1 h.lst.own (by decide)) h.h1, hk _ _ (ne_of_type h.h3 h.lst.own (by decide)) h.h3⟩
end
/-- the blocks that Render keeps -/
def Exm (n1 n3 b sg : Nat) (fm : Int) (s1 s2 s3 s4 s5 s6 s7 s8 s9 : ByteArray) (k : Nat) (o : Obj) : Prop :=
  (k = n1 ∧ o = .cells #[.pointer (some ⟨b, 0, none⟩)] 44 (0, 0)) ∨ (k = n3 ∧ o = .cells #[.pointer (some ⟨sg, 0, none⟩)] 54 (0, 0)) ∨ (k = sg ∧ o = .cells #[.int .i64 fm, .string s1, .string s2, .string s3, .string s4, .string s5, .string s6, .string s7, .string s8, .string s9] 49 (0, 0))
structure Mk2 (w0 : World) (b n1 n3 sg sg2 : Nat) (v : Value) (ps : List Nat) (xs : List (Int × ByteArray)) (lv ap fm : Int) (cv css s1 s2 s3 s4 s5 s6 s7 s8 s9 : ByteArray) (w : World) : Prop where
  base : Mk w0 b n1 n3 sg v ps xs lv ap fm cv css s1 s2 s3 s4 s5 s6 s7 s8 s9 (some ⟨sg2, 0, none⟩) w
  md : Sty w sg2 0 m1 m1 m1 m1 m2 m1 m7 m2 m9
theorem Mk.set {w0 w w' : World} {b n1 n3 sg sg2 : Nat} {v : Value} {ps : List Nat} {xs : List (Int × ByteArray)} {lv ap fm : Int} {cv css s1 s2 s3 s4 s5 s6 s7 s8 s9 : ByteArray} {sp : Option Addr} (h : Mk w0 b n1 n3 sg v ps xs lv ap fm cv css s1 s2 s3 s4 s5 s6 s7 s8 s9 sp w) (hL : LstV w0 b v ps xs lv ap cv css (some ⟨sg2, 0, none⟩) w') (hs : Sty w' sg2 0 m1 m1 m1 m1 m2 m1 m7 m2 m9) (hk : ∀ k o, k ≠ b → w.heap[k]? = some o → w'.heap[k]? = some o) :
    Mk2 w0 b n1 n3 sg sg2 v ps xs lv ap fm cv css s1 s2 s3 s4 s5 s6 s7 s8 s9 w' := ⟨h.keep hL hk, hs⟩
theorem Mk2.g1 {w0 w : World} {b n1 n3 sg sg2 : Nat} {v : Value} {ps : List Nat} {xs : List (Int × ByteArray)} {lv ap fm : Int} {cv css s1 s2 s3 s4 s5 s6 s7 s8 s9 : ByteArray} (h : Mk2 w0 b n1 n3 sg sg2 v ps xs lv ap fm cv css s1 s2 s3 s4 s5 s6 s7 s8 s9 w) : w.cell? ⟨n1, 0, none⟩ = some (.pointer (some ⟨b, 0, none⟩)) := h.base.g1
theorem Mk2.ist {w0 w : World} {b n1 n3 sg sg2 : Nat} {v : Value} {ps : List Nat} {xs : List (Int × ByteArray)} {lv ap fm : Int} {cv css s1 s2 s3 s4 s5 s6 s7 s8 s9 : ByteArray} (h : Mk2 w0 b n1 n3 sg sg2 v ps xs lv ap fm cv css s1 s2 s3 s4 s5 s6 s7 s8 s9 w) : Ist (Exm n1 n3 b sg fm s1 s2 s3 s4 s5 s6 s7 s8 s9) w0 b sg2 v ps xs lv 0 cv css m1 m1 m1 m1 m2 m1 m7 m2 m9 ap w :=
  ⟨h.base.lst, h.md, fun k o hk => by
    rcases hk with ⟨rfl, rfl⟩ | ⟨rfl, rfl⟩ | ⟨rfl, rfl⟩
    · exact ⟨ne_of_type h.base.h1 h.base.lst.own (show (44 : Nat) ≠ 56 by decide), h.base.h1⟩
    · exact ⟨ne_of_type h.base.h3 h.base.lst.own (show (54 : Nat) ≠ 56 by decide), h.base.h3⟩
    · exact ⟨ne_of_type h.base.sty h.base.lst.own (show (49 : Nat) ≠ 56 by decide), h.base.sty⟩⟩
set_option linter.all false in
set_option maxRecDepth 100000 in
set_option maxHeartbeats 4000000 in
theorem renderMd (w0 w : World) (b sg : Nat) (v : Value) (ps : List Nat) (xs : List (Int × ByteArray)) (lv ap fm : Int) (cv css s1 s2 s3 s4 s5 s6 s7 s8 s9 : ByteArray) (S : LstV w0 b v ps xs lv ap cv css (some ⟨sg, 0, none⟩) w) (hs : Sty w sg fm s1 s2 s3 s4 s5 s6 s7 s8 s9) (F : Fine xs m1 m1 m1 m1 m2 m1 m7 m2) :
    Calls Tryd.prog 25 #[.pointer (some ⟨b, 0, none⟩)] w fun e w' => e = .returned (.string ⟨(drawn (blanks m2) m1 m1 m1 m1 m2 m1 m2 xs xs.length).toArray⟩) ∧ ∃ ap' cv' css' sp', Lst w0 b xs lv ap' cv' css' sp' w' := by
  have hmf : ∀ (fn : Fn) (first cap : Array Value) (w : World), (Instr.makeFunc fn first cap).run Tryd.prog w = .ok (.func fn first cap) w := fun _ _ _ _ => rfl
  obtain ⟨W, hW⟩ : ∃ W, W = (w.alloc (.cells #[.pointer (some ⟨b, 0, none⟩)] 44 (0, 0))).alloc (.cells #[.pointer (some ⟨sg, 0, none⟩)] 54 (0, 0)) := ⟨_, rfl⟩
  have hb1 : ∀ o, Below w.heap.size w (w.alloc o) := fun o => (Below.refl _ w).alloc (Nat.le_refl _) o
  have c5 : ∀ o, (w.alloc o).cell? ⟨b, 5, none⟩ = some (.pointer (some ⟨sg, 0, none⟩)) := fun o => (S.kept (hb1 o)).c 5
  have c5' : ∀ o o', ((w.alloc o).alloc o').cell? ⟨b, 5, none⟩ = some (.pointer (some ⟨sg, 0, none⟩)) := fun o o' => (S.kept ((hb1 o).trans (((Below.refl _ _).alloc (Nat.le_refl _) o').mono (by simp)))).c 5
  have K0 : Aside0 (Mk w0 b w.heap.size (w.heap.size + 1) sg v ps xs lv ap fm cv css s1 s2 s3 s4 s5 s6 s7 s8 s9 (some ⟨sg, 0, none⟩) W) := by
    have hB : Below w.heap.size w W := by rw [hW]; exact (hb1 _).trans (((Below.refl _ _).alloc (Nat.le_refl _) _).mono (by simp))
    refine ⟨S.kept hB, (hB.block _ (Lst.lt_of hs)).trans hs, ?_, ?_⟩
    · rw [hW]
      exact (((Below.refl _ _).alloc (Nat.le_refl _) _).block _ (by simp)).trans (heap_alloc_new w _)
    · rw [hW]
      have := heap_alloc_new (w.alloc (.cells #[.pointer (some ⟨b, 0, none⟩)] 44 (0, 0))) (.cells #[.pointer (some ⟨sg, 0, none⟩)] 54 (0, 0))
      simpa using this
  have HW := Aside0.mk hW
  have HFI := Aside0.mk F
  have hS0 : Aside0 (W.cell? ⟨w.heap.size, 0, none⟩ = some (.pointer (some ⟨b, 0, none⟩))) := ⟨K0.out.g1⟩
  clear S hs hW hb1 F
  go_enter_defers Tryd.func25, Tryd.ntmps25
  go_wp2_with (fail)
  rw [← HW.out]
  refine start_ (n := 3) (S := fun w' => w'.cell? ⟨w.heap.size, 0, none⟩ = some (.pointer (some ⟨b, 0, none⟩))) (ds := []) #[false, false, false] (by kernel_rfl) rfl rfl hS0.out (fun hHeld => ?_); refine with_tabW tab25 bits25 (fun HT_ HW_ => ?_)
  refine join_ (σ := Unit) 1 #[true, true, false] (fun _ => [(9, .pointer (some ⟨b, 0, none⟩)), (10, .agg #[.int .i64 0, .string m1, .string m1, .string m1, .string m1, .string m2, .string m1, .string m7, .string m2, .string m9])]) (fun _ w' => Mk w0 b w.heap.size (w.heap.size + 1) sg v ps xs lv ap fm cv css s1 s2 s3 s4 s5 s6 s7 s8 s9 (some ⟨sg, 0, none⟩) w') ?_ (fun hcont => ?_)
  rotate_left
  · simp only [putAll, Act.put, List.setIfInBounds_toArray, List.set_cons_zero, List.set_cons_succ] at hcont
    refine two_ (i := 0) (j := 1) (Ni := some 9) (Nj := some 10) #[true, false, false] #[false, true, false] rfl rfl rfl rfl (two_of HT_.out (by kernel_rfl)) (by decide) (by decide) (fun Kc hKc => ?_) (fun Kc hKc => ?_)
    · refine value_ (w1 := W.drew) (v := .pointer (some ⟨b, 0, none⟩)) (by rfl) rfl ?_ ?_
      · have y0 := hS0.out
        go_simp
        try rfl
      refine hKc.out _ _ hS0.out (fun hHeld => ?_)
      clear hKc Kc
      refine norm_ (a' := ?_) ?_ ?_
      rotate_left
      · show Act.put _ (some 9) _ = _
        simp only [Act.put, List.setIfInBounds_toArray, List.set_cons_zero, List.set_cons_succ, i64_w, i32_w]
        rfl
      refine one_ (i := 1) (N := some 10) #[true, true, false] rfl rfl (one_of HT_.out (by kernel_rfl)) (by decide) (fun Kc hKc => ?_)
      refine goes_ Tryd.func39 (by kernel_rfl) rfl #[] (by rfl) rfl rfl (by (try simp only [List.map_toArray, List.map_cons, List.map_nil]); first | done | rfl) ?_
      refine (styleMd _).mono ?_
      rintro e wa ⟨rfl, hba⟩
      refine ⟨_, rfl, ?_⟩
      have K1 := Aside0.mk ((K0.out.drew).below hba)
      have hS1 := Aside0.mk K1.out.g1
      refine hKc.out _ _ hS1.out (fun hHeld => ?_)
      clear hKc Kc
      refine norm_ (a' := ?_) ?_ ?_
      rotate_left
      · show Act.put _ (some 10) _ = _
        simp only [Act.put, List.setIfInBounds_toArray, List.set_cons_zero, List.set_cons_succ, i64_w, i32_w]
        rfl
      exact hcont () _ K1.out
    · refine goes_ Tryd.func39 (by kernel_rfl) rfl #[] (by rfl) rfl rfl (by (try simp only [List.map_toArray, List.map_cons, List.map_nil]); first | done | rfl) ?_
      refine (styleMd _).mono ?_
      rintro e wa ⟨rfl, hba⟩
      refine ⟨_, rfl, ?_⟩
      have K1 := Aside0.mk ((K0.out.drew).below hba)
      have hS1 := Aside0.mk K1.out.g1
      refine hKc.out _ _ hS1.out (fun hHeld => ?_)
      clear hKc Kc
      refine norm_ (a' := ?_) ?_ ?_
      rotate_left
      · show Act.put _ (some 10) _ = _
        simp only [Act.put, List.setIfInBounds_toArray, List.set_cons_zero, List.set_cons_succ, i64_w, i32_w]
        rfl
      refine one_ (i := 0) (N := some 9) #[true, true, false] rfl rfl (one_of HT_.out (by kernel_rfl)) (by decide) (fun Kc hKc => ?_)
      refine value_ (w1 := wa) (v := .pointer (some ⟨b, 0, none⟩)) (by rfl) rfl ?_ ?_
      · have y0 := hS1.out
        go_simp
        try rfl
      refine hKc.out _ _ hS1.out (fun hHeld => ?_)
      clear hKc Kc
      refine norm_ (a' := ?_) ?_ ?_
      rotate_left
      · show Act.put _ (some 9) _ = _
        simp only [Act.put, List.setIfInBounds_toArray, List.set_cons_zero, List.set_cons_succ, i64_w, i32_w]
        rfl
      exact hcont () _ K1.out
  rintro _ wa k1
  have K1 := Aside0.mk k1
  clear k1
  have hHeld := K1.out.g1
  refine norm_ (a' := ?_) ?_ ?_
  rotate_left
  · show putAll _ _ = _
    simp only [putAll, Act.put, List.setIfInBounds_toArray, List.set_cons_zero, List.set_cons_succ]
    rfl
  refine one_ (i := 2) (N := some 11) #[true, true, true] rfl rfl (one_of HT_.out (by kernel_rfl)) (by decide) (fun Kc hKc => ?_)
  refine goes_ Tryd.func21 (by kernel_rfl) rfl #[.pointer (some ⟨b, 0, none⟩), .agg #[.int .i64 0, .string m1, .string m1, .string m1, .string m1, .string m2, .string m1, .string m7, .string m2, .string m9]] (by rfl) rfl rfl (by (try simp only [List.map_toArray, List.map_cons, List.map_nil]); first | done | rfl) ?_
  refine (setstyle2 w0 _ b v ps xs lv ap cv css _ 0 m1 m1 m1 m1 m2 m1 m7 m2 m9 K1.out.lst).mono ?_
  rintro e wb ⟨rfl, sg2, hL2, hs2, hk2⟩
  refine ⟨_, rfl, ?_⟩
  have K2 := Aside0.mk (K1.out.set hL2 hs2 hk2)
  have hS2 := Aside0.mk K2.out.g1
  clear hL2 hs2 hk2
  refine hKc.out _ _ hS2.out (fun hHeld => ?_)
  clear hKc Kc
  refine norm_ (a' := ?_) ?_ ?_
  rotate_left
  · show Act.put _ (some 11) _ = _
    simp only [Act.put, List.setIfInBounds_toArray, List.set_cons_zero, List.set_cons_succ, i64_w, i32_w]
    rfl
  refine done_ (done_of HT_.out (by kernel_rfl)) ?_
  have g1 := K2.out.g1
  go_wp2_with (first
    | (go_at_call 23; go_must (refine (render K2.out.ist HFI.out).mono ?_; rintro e w4 ⟨rfl, m, css', I4⟩; have ID := Aside0.mk I4; clear I4)))
  have x1 := ID.out.ex _ _ (.inl ⟨rfl, rfl⟩)
  have x3 := ID.out.ex _ _ (.inr (.inl ⟨rfl, rfl⟩))
  have xs' := ID.out.ex _ _ (.inr (.inr ⟨rfl, rfl⟩))
  refine leaves_cons (f := 38) (args := #[.pointer (some ⟨w.heap.size + 1, 0, none⟩), .pointer (some ⟨w.heap.size, 0, none⟩)]) (by simp) (by simp [go_sem]) ?_
  refine (restore w0 w4 b w.heap.size (w.heap.size + 1) sg xs lv m _ css' _ fm s1 s2 s3 s4 s5 s6 s7 s8 s9 .returning ⟨_, _, ID.out.lst⟩ xs'.2 ((Lib.cell_of_heap x1.2 0).trans rfl) ((Lib.cell_of_heap x3.2 0).trans rfl)).mono ?_
  rintro e u' w'' ⟨rfl, rfl, sp', hF⟩
  exact ⟨_, results_tmp rfl _ _ _, rfl, _, _, _, sp', hF⟩

theorem small_md : Small8 m1 m1 m1 m1 m2 m1 m7 m2 := ⟨by decide, by decide, by decide, by decide, by decide, by decide, by decide, by decide⟩
set_option linter.all false in
set_option maxRecDepth 100000 in
set_option maxHeartbeats 2000000 in
theorem listMarkdown (A : Option Addr) (c n : Nat) (l : List (Int × ByteArray)) (w : World) (hn : n = l.length) (hb : n ≤ 1000) (hok : ∀ x ∈ l, Okst x) (HR : Lies A n l w) (fm : Int) (s1 s2 s3 s4 s5 s6 s7 s8 : ByteArray) :
    Calls Tryd.prog 17 #[.slice A n c, .agg #[.int .i64 fm, .string s1, .string s2, .string s3, .string s4, .string s5, .string s6, .string s7, .string s8]] w fun e w' => e = .returned (.string (R l m1 m1 m1 m1 m2 m1 m2)) ∧ Below w.heap.size w w' := by
  obtain ⟨o, ho⟩ : ∃ o : Obj, o = .cells #[.int .i64 fm, .string s1, .string s2, .string s3, .string s4, .string s5, .string s6, .string s7, .string s8] 24 (0, 0) := ⟨_, rfl⟩
  obtain ⟨W, hW⟩ : ∃ W, W = w.alloc o := ⟨_, rfl⟩
  have HO := Aside0.mk ho
  have HW := Aside0.mk hW
  have hw0 : W.heap[w.heap.size]? = some o := by rw [hW]; exact heap_alloc_new w o
  have HW0 := Aside0.mk hw0
  have HWB : Aside0 (Below w.heap.size w W) := ⟨by rw [hW]; exact (Below.refl _ w).alloc (Nat.le_refl _) o⟩
  have HLO := Aside0.mk (Lof.listOf A c n l W hn (by omega) hok (by rw [hW]; exact HR.alloc o))
  have HFI := Aside0.mk (fine_made l hok (by omega) small_md)
  clear hw0 hW ho hn hb hok HR
  go_enter Tryd.func17, Tryd.ntmps17
  go_wp2_with (first
    | (go_at_call 20; go_must (rw [← HO.out, ← HW.out]; refine (HLO.out).mono ?_; rintro e w1 ⟨b, rfl, S1⟩; have hbo := (Lof.Lst.below S1).block _ (Lst.lt_of HW0.out) |>.trans HW0.out; rw [HO.out] at hbo; have q := fun i => Lib.cell_of_heap hbo i; have q0 : w1.cell? ⟨w.heap.size, 0, none⟩ = some (.int .i64 fm) := (q 0).trans rfl; have q1 : w1.cell? ⟨w.heap.size, 1, none⟩ = some (.string s1) := (q 1).trans rfl; have q2 : w1.cell? ⟨w.heap.size, 2, none⟩ = some (.string s2) := (q 2).trans rfl; have q3 : w1.cell? ⟨w.heap.size, 3, none⟩ = some (.string s3) := (q 3).trans rfl; have q4 : w1.cell? ⟨w.heap.size, 4, none⟩ = some (.string s4) := (q 4).trans rfl; have q5 : w1.cell? ⟨w.heap.size, 5, none⟩ = some (.string s5) := (q 5).trans rfl; have q6 : w1.cell? ⟨w.heap.size, 6, none⟩ = some (.string s6) := (q 6).trans rfl; have q7 : w1.cell? ⟨w.heap.size, 7, none⟩ = some (.string s7) := (q 7).trans rfl; have q8 : w1.cell? ⟨w.heap.size, 8, none⟩ = some (.string s8) := (q 8).trans rfl; have SA := Aside0.mk S1; clear q hbo S1))
    | (go_at_call 22; go_must (refine (style fm s1 s2 s3 s4 s5 s6 s7 s8 _).mono ?_; rintro e w2 ⟨rfl, hb2⟩; have SB := Aside0.mk (Lof.Lst.kept SA.out hb2); clear hb2))
    | (go_at_call 21; go_must (refine (setstyle W _ b _ _ _ _ _ _ fm s1 s2 s3 s4 s5 s6 s7 s8 e0 SB.out).mono ?_; rintro e w3 ⟨rfl, sg, ⟨v, ps, S3⟩, hg, hsg⟩; have I3 := Aside0.mk S3; have I3s := Aside0.mk hsg; clear S3 hg hsg))
    | (go_at_call 25; go_must (refine (renderMd W _ b sg v ps _ _ _ fm _ _ _ _ _ _ _ _ _ _ _ I3.out I3s.out HFI.out).mono ?_; rintro e w4 ⟨rfl, ap', cv', css', sp', I4⟩; have ID := Aside0.mk I4; clear I4)))
  go_ret
  exact ⟨rfl, HWB.out.trans ((Lof.Lst.below ID.out).mono HWB.out.size)⟩
/-- steps of which the walk speaks -/
structure GoodM (l : List (Int × ByteArray)) : Prop where
  n : l.length ≤ 1000
  ok : ∀ x ∈ l, Okst x
end Go.Proofs.YthjkmjimlhpbfaaDoor.Lmd
