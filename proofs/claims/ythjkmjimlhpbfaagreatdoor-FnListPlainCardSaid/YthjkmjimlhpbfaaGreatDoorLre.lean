/- The walk of Render: the lines of a list's items, one behind the other. -/
import Derived.Test.YthjkmjimlhpbfaaGreatDoorLin
import Derived.Test.YthjkmjimlhpbfaaGreatDoorWTab
import Derived.Test.YthjkmjimlhpbfaaGreatDoorWMore
import Derived.OrdersHeld
namespace Go.Proofs.YthjkmjimlhpbfaaGreatDoor.Lre
open Go Go.RowKit Go.Lib Go.Proofs.YthjkmjimlhpbfaaGreatDoor.Lst Go.Proofs.YthjkmjimlhpbfaaGreatDoor.Lmo Go.Proofs.YthjkmjimlhpbfaaGreatDoor.Blb Go.Proofs.YthjkmjimlhpbfaaGreatDoor.Lpr Go.Proofs.YthjkmjimlhpbfaaGreatDoor.Lan Go.Proofs.YthjkmjimlhpbfaaGreatDoor.Lri Go.Proofs.YthjkmjimlhpbfaaGreatDoor.Lrj Go.Proofs.YthjkmjimlhpbfaaGreatDoor.Lin Go.Proofs.YthjkmjimlhpbfaaGreatDoorW.PrintWords Go.Proofs.YthjkmjimlhpbfaaGreatDoorW.PrintLast Go.Proofs.YthjkmjimlhpbfaaGreatDoorW.PrintMore

-- TABLES
def T7 : Bool × List (List Nat × List Nat) := (true, [([], []), ([0], [0]), ([], []), ([2], [2]), ([3], [3]), ([4], [4]), ([5, 4], [4, 5]), ([6, 4], [4, 6]), ([7, 4], [4, 7]), ([4], [4]), ([9, 4], [4, 9]), ([10, 4], [4, 10]), ([11, 4], [4, 11]), ([4], [4]), ([13, 4], [4, 13]), ([12, 14, 4], [4, 12, 14]), ([15, 4], [4, 15]), ([16, 4], [4, 16]), ([17, 4], [4, 17]), ([18, 4], [4, 18]), ([8, 19, 4], [4, 8, 19]), ([4, 20], [4, 20]), ([], []), ([], []), ([23], [23]), ([24], [24]), ([25], [25]), ([], []), ([22, 26, 27, 4], [22, 26, 27]), ([28], [28]), ([], []), ([], []), ([31], [31]), ([32], [32]), ([33], [33]), ([34], [34]), ([35], [35]), ([30, 36], [30, 36]), ([1, 21, 29, 37], [1, 21, 29, 37]), ([], []), ([39, 38, 28, 0, 1, 2, 3, 4, 5, 6, 7, 8, 9, 10, 11, 12, 13, 14, 15, 16, 17, 18, 19, 20, 21, 22, 23, 24, 25, 26, 27, 28, 29, 30, 31, 32, 33, 34, 35, 36, 37, 38, 39], [38, 39])])
def B7 : List Nat := [0, 1, 0, 4, 12, 28, 60, 124, 252, 28, 540, 1564, 3612, 28, 8220, 32284, 65052, 130588, 261660, 523804, 1048572, 2097148, 0, 0, 8388608, 25165824, 58720256, 0, 264241180, 532676636, 0, 0, 2147483648, 6442450944, 15032385536, 32212254720, 66571993088, 136365211648, 274877906943, 0, 1099511627775]
theorem tab7 : rtab .any (opsOf Tryz.f14 7) = T7 := by kernel_rfl
theorem bits7 : waitsOk T7.2 B7 = true := by kernel_rfl
-- END TABLES

/-- is an item the first one of its level? -/
def first (xs : List (Int × ByteArray)) : Nat → Int → Bool
  | 0, _ => true
  | q + 1, K => match xs[q]? with
    | none => true
    | some y => decide (K > y.1)
/-- an item's line -/
def hline (cv s1 s2 s3 s4 s5 s6 s8 : ByteArray) (xs : List (Int × ByteArray)) (idx : Nat) : List UInt8 := match xs[idx]? with
  | none => []
  | some x => line idx (idx == 0) (first xs idx x.1) (first xs idx x.1 && !more (xs.drop (idx + 1)) x.1) (!more (xs.drop (idx + 1)) x.1) (idx + 1 == xs.length) x.1.toNat x.2 cv s1 s2 s3 s4 s5 s6 s8 xs
def drawn (cv s1 s2 s3 s4 s5 s6 s8 : ByteArray) (xs : List (Int × ByteArray)) : Nat → List UInt8
  | 0 => []
  | j + 1 => drawn cv s1 s2 s3 s4 s5 s6 s8 xs j ++ hline cv s1 s2 s3 s4 s5 s6 s8 xs j
/-- the blanks in the place of the vertical line -/
def blanks (s5 : ByteArray) : ByteArray := ⟨(Lib.repeatL [32] (Lib.runeCount s5)).toArray⟩
theorem blanks_size (s5 : ByteArray) : (blanks s5).size ≤ s5.size := by
  have h := Lib.runeCount_le s5
  unfold blanks
  show (Lib.repeatL [32] (Lib.runeCount s5)).toArray.size ≤ _
  rw [List.size_toArray, Lib.repeatL_length, List.length_singleton, Nat.mul_one]
  exact h
theorem bullet_size (top first only last bottom : Bool) (cv s1 s2 s3 s4 s5 s6 : ByteArray) (h1 : s1.size ≤ 1000) (h2 : s2.size ≤ 1000) (h3 : s3.size ≤ 1000) (h4 : s4.size ≤ 1000) (h6 : s6.size ≤ 1000) : (bullet 0 top first only last bottom cv s1 s2 s3 s4 s5 s6).size ≤ 1001 := by
  have hx : (bullet1 top first only last bottom s1 s2 s3 s4 s6).size ≤ 1000 := by
    unfold bullet1
    cases top <;> cases first <;> cases only <;> cases last <;> cases bottom <;> simp only [if_true, if_false, Bool.false_eq_true, Bool.or_true, Bool.or_false] <;> assumption
  unfold bullet
  rw [if_neg (by decide), ByteArray.size_append]
  have : (⟨#[32]⟩ : ByteArray).size = 1 := rfl
  omega
structure Fine (xs : List (Int × ByteArray)) (s1 s2 s3 s4 s5 s6 s7 s8 : ByteArray) : Prop where
  n : xs.length ≤ 1000
  h1 : s1.size ≤ 1000
  h2 : s2.size ≤ 1000
  h3 : s3.size ≤ 1000
  h4 : s4.size ≤ 1000
  h5 : s5.size ≤ 1000
  h6 : s6.size ≤ 1000
  h7 : s7.size ≤ 1000
  h8 : s8.size ≤ 1000
  x : ∀ x ∈ xs, 0 ≤ x.1 ∧ x.1 ≤ 1000 ∧ x.2.size ≤ 100000 ∧ Pl x.2.data.toList
theorem hline_len {xs : List (Int × ByteArray)} {s1 s2 s3 s4 s5 s6 s7 s8 : ByteArray} (F : Fine xs s1 s2 s3 s4 s5 s6 s7 s8) (cv : ByteArray) (hc : cv.size ≤ 1000) (idx : Nat) : (hline cv s1 s2 s3 s4 s5 s6 s8 xs idx).length ≤ 2000000 := by
  unfold hline
  cases h : xs[idx]? with
  | none => simp
  | some x =>
    obtain ⟨h0, h1, h2, _⟩ := F.x x (List.mem_of_getElem? h)
    have hp := pre_len s5 cv xs idx F.h5 hc x.1.toNat
    have hb := bullet_size (idx == 0) (first xs idx x.1) (first xs idx x.1 && !more (xs.drop (idx + 1)) x.1) (!more (xs.drop (idx + 1)) x.1) (idx + 1 == xs.length) cv s1 s2 s3 s4 s5 s6 F.h1 F.h2 F.h3 F.h4 F.h6
    have h8 := F.h8
    simp only [line, List.length_append, Small.size_data]
    have hi : (if idx = 0 then ([] : List UInt8) else [10]).length ≤ 1 := by split <;> simp
    have hk : x.1.toNat ≤ 1000 := by omega
    omega
theorem drawn_len {xs : List (Int × ByteArray)} {s1 s2 s3 s4 s5 s6 s7 s8 : ByteArray} (F : Fine xs s1 s2 s3 s4 s5 s6 s7 s8) (cv : ByteArray) (hc : cv.size ≤ 1000) : ∀ j, (drawn cv s1 s2 s3 s4 s5 s6 s8 xs j).length ≤ j * 2000000
  | 0 => by simp [drawn]
  | j + 1 => by
    have h1 := drawn_len F cv hc j
    have h2 := hline_len F cv hc j
    simp only [drawn, List.length_append]
    omega

theorem cell_lt {w : World} {a : Addr} {v : Value} (h : w.cell? a = some v) : a.block < w.heap.size := by
  rcases Nat.lt_or_ge a.block w.heap.size with h' | h'
  · exact h'
  · simp [World.cell?, Array.getElem?_eq_none h'] at h
theorem grow (B b n : Nat) (w : World) (hB : B ≤ b) (hbk : w.heap[b]? = some (.cells #[.pointer none, .slice none 0 0] 59 (0, 0))) (hBw : B ≤ w.heap.size) (hn : n ≤ 281474976710656) :
    Calls Tryz.prog 36 #[.pointer (some ⟨b, 0, none⟩), .int .i64 n] w fun e w' => e = .returned (.tuple #[]) ∧ IsBuilderF 59 5 B b [] w' ∧ Below B w w' :=
  (Any.Builder_Grow_fresh Tryz.bl165 Tryz.bx165 B b n w hB hbk hBw hn).mono fun _ _ h => ⟨h.1, .inr (BuilderAtF.of h.2.1), h.2.2⟩
theorem said (B b : Nat) (l : List UInt8) (w : World) (h : IsBuilderF 59 5 B b (byteCells l) w) (hBw : B ≤ w.heap.size) :
    Calls Tryz.prog 56 #[.pointer (some ⟨b, 0, none⟩)] w fun e w' => e = .returned (.string ⟨l.toArray⟩) ∧ Below B w w' :=
  (Tryz.Builder_String_any_f B b l w h hBw).mono fun _ _ h => ⟨h.1, h.2.2⟩
set_option linter.all false in
set_option maxRecDepth 100000 in
set_option maxHeartbeats 1000000 in
theorem last_text (a : Value) (B b : Nat) (l : List UInt8) (w : World) (h : IsBuilderF 59 5 B b (byteCells l) w) (hBw : B ≤ w.heap.size) :
    Calls Tryz.prog 39 #[a, .pointer (some ⟨b, 0, none⟩)] w fun e w' => e = .returned (.string ⟨l.toArray⟩) ∧ Below B w w' := by
  have HS := Aside0.mk (said B b l w h hBw)
  clear h
  go_enter Tryz.func39, Tryz.ntmps39
  go_wp2_with (first
    | (go_at_call 56; go_must (refine (HS.out).mono ?_; rintro e w1 ⟨rfl, hb⟩)))
  go_ret
  exact ⟨rfl, hb⟩

set_option linter.all false in
set_option maxRecDepth 100000 in
set_option maxHeartbeats 8000000 in
theorem render {Ex : Nat → Obj → Prop} {w0 w : World} {b sg : Nat} {A : Option Addr} {c : Nat} {ps : List Nat} {xs : List (Int × ByteArray)} {lv ap : Int} {cv css s1 s2 s3 s4 s5 s6 s7 s8 s9 : ByteArray} (HSt : Calls Tryz.prog 43 #[.pointer (some ⟨b, 0, none⟩)] w fun e w' => e = .returned (.pointer (some ⟨sg, 0, none⟩)) ∧ Ist Ex w0 b sg (.slice A xs.length c) ps xs lv 0 cv css s1 s2 s3 s4 s5 s6 s7 s8 s9 ap w') (F : Fine xs s1 s2 s3 s4 s5 s6 s7 s8) :
    Calls Tryz.prog 14 #[.pointer (some ⟨b, 0, none⟩)] w fun e w' => e = .returned (.string ⟨(drawn (blanks s5) s1 s2 s3 s4 s5 s6 s8 xs xs.length).toArray⟩) ∧ ∃ m css', Ist Ex w0 b sg (.slice A xs.length c) ps xs lv 0 (blanks s5) css' s1 s2 s3 s4 s5 s6 s7 s8 s9 m w' := by
  have HI := Aside0.mk (init HSt (by have := F.n; omega) F.h5 F.h7 F.h8 (fun x hx => by have := F.x x hx; omega))
  have FF := Aside0.mk F
  obtain ⟨cw, hcw⟩ : ∃ cw, cw = blanks s5 := ⟨_, rfl⟩
  have hcs : cw.size ≤ 1000 := by rw [hcw]; exact Nat.le_trans (blanks_size s5) F.h5
  have HCW := Aside0.mk hcw
  have HCS := Aside0.mk hcs
  rw [← hcw]
  clear HSt hcw hcs
  obtain ⟨n, hN⟩ : ∃ n, n = xs.length := ⟨_, rfl⟩
  have HN := Aside0.mk hN
  have hnb : n ≤ 1000 := by rw [hN]; exact F.n
  clear hN F
  go_enter Tryz.func14, Tryz.ntmps14
  go_wp2_with (first
    | (go_at_call 35; go_must (refine (HI.out).mono ?_; rintro e w1 ⟨rfl, m0, css', hm0, hm1, I1⟩; rw [show (⟨(Lib.repeatL [32] (Lib.runeCount s5)).toArray⟩ : ByteArray) = cw from HCW.out.symm] at I1; obtain ⟨m, rfl⟩ : ∃ m : Nat, m0 = (m : Int) := Int.eq_ofNat_of_zero_le hm0; have c0 : ∀ o, (w1.alloc o).cell? ⟨b, 0, none⟩ = some (.int .i64 m) := fun o => (I1.kept ((Below.refl _ _).alloc (Nat.le_refl _) o)).lst.c 0; have HM := Aside0.mk hm1; have IA := Aside0.mk I1; clear hm0 hm1 I1))
    | (go_at_call 36; go_must (refine (grow w1.heap.size w1.heap.size m _ (Nat.le_refl _) (heap_alloc_new w1 _) (by simp) (by have := HM.out; omega)).mono ?_; rintro e w2 ⟨rfl, hB, hb⟩; have R0 : Rs w0 w2 w1 b w1.heap.size sg (.slice A xs.length c) ps xs lv m 0 cw css' s1 s2 s3 s4 s5 s6 s7 s8 s9 [] w2 := ⟨IA.out.lst, IA.out.sty, ((Below.refl _ w1).alloc (Nat.le_refl _) _).trans hb, hB, OthersKept.refl _ _ _⟩; have q3 : w2.cell? ⟨b, 3, none⟩ = some (.slice A n c) := (by rw [HN.out]; exact R0.now.c 3); have RA := Aside0.mk R0; clear R0 hB hb c0)))
  go_loopw [19] (fun i wr => ∃ j : Nat, j ≤ n ∧ i = .int .i64 j ∧ Aside0 (Rs w0 wr w1 b w1.heap.size sg (.slice A xs.length c) ps xs lv m 0 cw css' s1 s2 s3 s4 s5 s6 s7 s8 s9 (drawn cw s1 s2 s3 s4 s5 s6 s8 xs j) wr)) (fun i _ => n - (RowKit.intOf i).toNat)
  case atStart => exact ⟨0, by omega, rfl, RA⟩
  case round =>
    obtain ⟨j, hj, rfl, RJ⟩ := hrel
    clear q3 RA
    by_cases hlt : j < n
    · have hd : decide ((j : Int) < (n : Int)) = true := by simp; omega
      have hjl : j < xs.length := by rw [← HN.out]; exact hlt
      obtain ⟨g, c', p, hv, hp, cg, hpi⟩ := row_at RJ.out.now j hjl
      obtain ⟨rfl, rfl⟩ : A = some ⟨g, 0, none⟩ ∧ c = c' := by injection hv with a1 a2 a3; exact ⟨a1, a3⟩
      obtain ⟨hx0, hx1, hxs, hxp⟩ := FF.out.x _ (List.getElem_mem hjl)
      have hxj : xs[j]? = some xs[j] := List.getElem?_eq_getElem hjl
      have hln := drawn_len FF.out cw HCS.out j
      obtain ⟨x, hxe⟩ : ∃ x, x = xs[j] := ⟨_, rfl⟩
      rw [← hxe] at hpi hx0 hx1 hxs hxp hxj
      obtain ⟨K0, t⟩ := x
      simp only at hx0 hx1 hxs hxp
      obtain ⟨K, rfl⟩ : ∃ K : Nat, K0 = (K : Int) := Int.eq_ofNat_of_zero_le hx0
      obtain ⟨mr, hmr⟩ : ∃ mr, mr = more (xs.drop (j + 1)) K := ⟨_, rfl⟩
      have HMR := Aside0.mk hmr
      have HX := Aside0.mk (And.intro hp (And.intro hxj (And.intro hx1 (And.intro hxs (And.intro hxp hln)))))
      have W3 : ∀ W, LstV w0 b (.slice (some ⟨g, 0, none⟩) xs.length c) ps xs lv m cw css' (some ⟨sg, 0, none⟩) W → Calls Tryz.prog 37 #[.pointer (some ⟨b, 0, none⟩), .int .i64 K, .int .i64 j] W fun e w' => e = .returned (.bool mr) ∧ w' = W := fun W S => by
        rw [hmr]; exact hasMore w0 W b _ ps xs lv m cw css' _ K j S (by have := FF.out.n; omega) hjl
      have W3A := Aside0.mk W3
      have RW := Aside0.mk RJ.out.re
      clear hv hp hx0 hx1 hxs hxp hxj hln hxe hmr W3
      obtain ⟨W1, hW1⟩ : ∃ W1, W1 = wr.drew.alloc (.cells #[.bool false, .bool false, .bool false, .bool false, .bool false] 66 (0, 0)) := ⟨_, rfl⟩
      have HW1 := Aside0.mk hW1
      have bd : Below wr.heap.size wr wr.drew := ⟨rfl, rfl, rfl, Nat.le_refl _, fun _ _ => rfl⟩
      have b1 : Below wr.heap.size wr W1 := by rw [hW1]; exact bd.alloc (Nat.le_refl _) _
      have HM0 := Aside0.mk (W3A.out wr.drew (RJ.out.now.kept bd))
      have HM1 := Aside0.mk (W3A.out W1 (RJ.out.now.kept b1))
      have kept2 : ∀ o, Rs w0 (wr.drew.alloc o) w1 b w1.heap.size sg (.slice (some ⟨g, 0, none⟩) xs.length c) ps xs lv m 0 cw css' s1 s2 s3 s4 s5 s6 s7 s8 s9 (drawn cw s1 s2 s3 s4 s5 s6 s8 xs j) (wr.drew.alloc o) := fun o => (RJ.out.kept (bd.alloc (Nat.le_refl _) o)).re
      have KP := Aside0.mk kept2
      have kb := b1.block
      have c3 : wr.cell? ⟨b, 3, none⟩ = some (.slice (some ⟨g, 0, none⟩) n c) := by rw [HN.out]; exact RJ.out.now.c 3
      have c3' : W1.cell? ⟨b, 3, none⟩ = some (.slice (some ⟨g, 0, none⟩) n c) := by rw [HN.out]; exact (RJ.out.now.kept b1).c 3
      have p0 : wr.cell? ⟨p, 0, none⟩ = some (.int .i64 K) := (Lib.cell_of_heap hpi 0).trans rfl
      have p0' : W1.cell? ⟨p, 0, none⟩ = some (.int .i64 K) := (Lib.cell_of_heap ((kb p (Lst.lt_of hpi)).trans hpi) 0).trans rfl
      have hwn : IntKind.i64.wrap ((n : Int) - 1) = (n : Int) - 1 := wrap_i _ (by omega) (by omega)
      obtain ⟨bt, hbt⟩ : ∃ bt, ((j : Int) == (n : Int) - 1) = bt := ⟨_, rfl⟩
      have hbt2 : (j + 1 == xs.length) = bt := by
        rw [← hbt, ← HN.out, Bool.eq_iff_iff, beq_iff_eq, beq_iff_eq]; omega
      have HBT := Aside0.mk hbt2
      clear hbt2 hpi bd b1 kept2
      cases j with
      | zero =>
        clear kb
        have HL : Aside0 (drawn cw s1 s2 s3 s4 s5 s6 s8 xs 0 ++ line 0 true true (true && !mr) (!mr) bt K t cw s1 s2 s3 s4 s5 s6 s8 xs = drawn cw s1 s2 s3 s4 s5 s6 s8 xs (0 + 1)) := ⟨by
          have hx := HX.out.2.1
          simp only [drawn, hline, hx, first]
          rw [HBT.out, ← HMR.out]
          rfl⟩
        have e0 : (((0 : Nat) : Int) == 0) = true := rfl
        have hbt0 : ((0 : Int) == (n : Int) - 1) = bt := hbt
        obtain ⟨W2, hW2⟩ : ∃ W2, W2 = wr.drew.alloc (.cells #[.bool true, .bool true, .bool false, .bool (!mr), .bool bt] 66 (0, 0)) := ⟨_, rfl⟩
        have HW2 := Aside0.mk hW2
        have HS1 : Aside0 (W1.cell? ⟨b, 3, none⟩ = some (.slice (some ⟨g, 0, none⟩) n c) ∧ W1.cell? ⟨p, 0, none⟩ = some (.int .i64 K)) := ⟨c3', p0'⟩
        have HS0 : Aside0 (wr.cell? ⟨b, 3, none⟩ = some (.slice (some ⟨g, 0, none⟩) n c) ∧ wr.cell? ⟨p, 0, none⟩ = some (.int .i64 K)) := ⟨c3, p0⟩
        clear c3' p0' hW1 hW2 c3 p0
        go_wp2_with (fail)
        -- REGION 0
        refine start_ (n := 41) (S := fun w' => w'.cell? ⟨b, 3, none⟩ = some (.slice (some ⟨g, 0, none⟩) n c) ∧ w'.cell? ⟨p, 0, none⟩ = some (.int .i64 K)) (ds := [40]) #[false, false, false, false, false, false, false, false, false, false, false, false, false, false, false, false, false, false, false, false, false, false, false, false, false, false, false, false, false, false, false, false, false, false, false, false, false, false, false, false, false] (by kernel_rfl) rfl rfl HS0.out (fun hHeld => ?_); refine with_tabW tab7 bits7 (fun HT_ HW_ => ?_)
        refine pure_ (i := 0) (N := some 24) (v := ?_) (a' := ?_) #[true, false, false, false, false, false, false, false, false, false, false, false, false, false, false, false, false, false, false, false, false, false, false, false, false, false, false, false, false, false, false, false, false, false, false, false, false, false, false, false, false] rfl rfl (any_of HT_.out (by kernel_rfl)) (fun _ _ _ h => h) (Or.inl ⟨by rfl, ?_⟩) ?_ ?_
        rotate_left
        · intro w'
          go_simp
          with_reducible rfl
        rotate_left
        · simp only [Act.put, List.setIfInBounds_toArray, List.set_cons_zero, List.set_cons_succ, i64_w, i32_w]
          rfl
        refine pure_ (i := 1) (N := some 25) (v := ?_) (a' := ?_) #[true, true, false, false, false, false, false, false, false, false, false, false, false, false, false, false, false, false, false, false, false, false, false, false, false, false, false, false, false, false, false, false, false, false, false, false, false, false, false, false, false] rfl rfl (any_of HT_.out (by kernel_rfl)) (fun _ _ _ h => h) (Or.inl ⟨by rfl, ?_⟩) ?_ ?_
        rotate_left
        · intro w'
          go_simp
          with_reducible rfl
        rotate_left
        · simp only [Act.put, List.setIfInBounds_toArray, List.set_cons_zero, List.set_cons_succ, i64_w, i32_w]
          rfl
        refine pure_ (i := 2) (N := some 26) (v := ?_) (a' := ?_) #[true, true, true, false, false, false, false, false, false, false, false, false, false, false, false, false, false, false, false, false, false, false, false, false, false, false, false, false, false, false, false, false, false, false, false, false, false, false, false, false, false] rfl rfl (any_of HT_.out (by kernel_rfl)) (fun _ _ _ h => h) (Or.inl ⟨by rfl, ?_⟩) ?_ ?_
        rotate_left
        · intro w'
          go_simp
          with_reducible rfl
        rotate_left
        · simp only [Act.put, List.setIfInBounds_toArray, List.set_cons_zero, List.set_cons_succ, i64_w, i32_w]
          rfl
        refine pure_ (i := 3) (N := some 27) (v := ?_) (a' := ?_) #[true, true, true, true, false, false, false, false, false, false, false, false, false, false, false, false, false, false, false, false, false, false, false, false, false, false, false, false, false, false, false, false, false, false, false, false, false, false, false, false, false] rfl rfl (any_of HT_.out (by kernel_rfl)) (fun _ _ _ h => h) (Or.inl ⟨by rfl, ?_⟩) ?_ ?_
        rotate_left
        · intro w'
          go_simp
          with_reducible rfl
        rotate_left
        · simp only [Act.put, List.setIfInBounds_toArray, List.set_cons_zero, List.set_cons_succ, i64_w, i32_w]
          rfl
        refine pure_ (i := 4) (N := some 28) (v := ?_) (a' := ?_) #[true, true, true, true, true, false, false, false, false, false, false, false, false, false, false, false, false, false, false, false, false, false, false, false, false, false, false, false, false, false, false, false, false, false, false, false, false, false, false, false, false] rfl rfl (any_of HT_.out (by kernel_rfl)) (fun _ _ _ h => h) (Or.inl ⟨by rfl, ?_⟩) ?_ ?_
        rotate_left
        · intro w'
          go_simp
          with_reducible rfl
        rotate_left
        · simp only [Act.put, List.setIfInBounds_toArray, List.set_cons_zero, List.set_cons_succ, i64_w, i32_w]
          rfl
        refine pure_ (i := 5) (N := some 29) (v := undef) (a' := ?_) #[true, true, true, true, true, true, false, false, false, false, false, false, false, false, false, false, false, false, false, false, false, false, false, false, false, false, false, false, false, false, false, false, false, false, false, false, false, false, false, false, false] rfl rfl (any_of HT_.out (by kernel_rfl)) (fun _ _ _ h => h) (Or.inr ⟨by rfl, rfl⟩) ?_ ?_
        rotate_left
        · simp only [Act.put, List.setIfInBounds_toArray, List.set_cons_zero, List.set_cons_succ, i64_w, i32_w]
          rfl
        refine pure_ (i := 6) (N := some 30) (v := undef) (a' := ?_) #[true, true, true, true, true, true, true, false, false, false, false, false, false, false, false, false, false, false, false, false, false, false, false, false, false, false, false, false, false, false, false, false, false, false, false, false, false, false, false, false, false] rfl rfl (any_of HT_.out (by kernel_rfl)) (fun _ _ _ h => h) (Or.inr ⟨by rfl, rfl⟩) ?_ ?_
        rotate_left
        · simp only [Act.put, List.setIfInBounds_toArray, List.set_cons_zero, List.set_cons_succ, i64_w, i32_w]
          rfl
        refine pure_ (i := 7) (N := some 31) (v := undef) (a' := ?_) #[true, true, true, true, true, true, true, true, false, false, false, false, false, false, false, false, false, false, false, false, false, false, false, false, false, false, false, false, false, false, false, false, false, false, false, false, false, false, false, false, false] rfl rfl (any_of HT_.out (by kernel_rfl)) (fun _ _ _ h => h) (Or.inr ⟨by rfl, rfl⟩) ?_ ?_
        rotate_left
        · simp only [Act.put, List.setIfInBounds_toArray, List.set_cons_zero, List.set_cons_succ, i64_w, i32_w]
          rfl
        refine pure_ (i := 8) (N := some 32) (v := undef) (a' := ?_) #[true, true, true, true, true, true, true, true, true, false, false, false, false, false, false, false, false, false, false, false, false, false, false, false, false, false, false, false, false, false, false, false, false, false, false, false, false, false, false, false, false] rfl rfl (any_of HT_.out (by kernel_rfl)) (fun _ _ _ h => h) (Or.inr ⟨by rfl, rfl⟩) ?_ ?_
        rotate_left
        · simp only [Act.put, List.setIfInBounds_toArray, List.set_cons_zero, List.set_cons_succ, i64_w, i32_w]
          rfl
        refine pure_ (i := 9) (N := some 33) (v := undef) (a' := ?_) #[true, true, true, true, true, true, true, true, true, true, false, false, false, false, false, false, false, false, false, false, false, false, false, false, false, false, false, false, false, false, false, false, false, false, false, false, false, false, false, false, false] rfl rfl (any_of HT_.out (by kernel_rfl)) (fun _ _ _ h => h) (Or.inr ⟨by rfl, rfl⟩) ?_ ?_
        rotate_left
        · simp only [Act.put, List.setIfInBounds_toArray, List.set_cons_zero, List.set_cons_succ, i64_w, i32_w]
          rfl
        refine pure_ (i := 10) (N := some 34) (v := undef) (a' := ?_) #[true, true, true, true, true, true, true, true, true, true, true, false, false, false, false, false, false, false, false, false, false, false, false, false, false, false, false, false, false, false, false, false, false, false, false, false, false, false, false, false, false] rfl rfl (any_of HT_.out (by kernel_rfl)) (fun _ _ _ h => h) (Or.inr ⟨by rfl, rfl⟩) ?_ ?_
        rotate_left
        · simp only [Act.put, List.setIfInBounds_toArray, List.set_cons_zero, List.set_cons_succ, i64_w, i32_w]
          rfl
        refine pure_ (i := 11) (N := some 35) (v := undef) (a' := ?_) #[true, true, true, true, true, true, true, true, true, true, true, true, false, false, false, false, false, false, false, false, false, false, false, false, false, false, false, false, false, false, false, false, false, false, false, false, false, false, false, false, false] rfl rfl (any_of HT_.out (by kernel_rfl)) (fun _ _ _ h => h) (Or.inr ⟨by rfl, rfl⟩) ?_ ?_
        rotate_left
        · simp only [Act.put, List.setIfInBounds_toArray, List.set_cons_zero, List.set_cons_succ, i64_w, i32_w]
          rfl
        refine pure_ (i := 12) (N := some 36) (v := undef) (a' := ?_) #[true, true, true, true, true, true, true, true, true, true, true, true, true, false, false, false, false, false, false, false, false, false, false, false, false, false, false, false, false, false, false, false, false, false, false, false, false, false, false, false, false] rfl rfl (any_of HT_.out (by kernel_rfl)) (fun _ _ _ h => h) (Or.inr ⟨by rfl, rfl⟩) ?_ ?_
        rotate_left
        · simp only [Act.put, List.setIfInBounds_toArray, List.set_cons_zero, List.set_cons_succ, i64_w, i32_w]
          rfl
        refine pure_ (i := 13) (N := some 37) (v := undef) (a' := ?_) #[true, true, true, true, true, true, true, true, true, true, true, true, true, true, false, false, false, false, false, false, false, false, false, false, false, false, false, false, false, false, false, false, false, false, false, false, false, false, false, false, false] rfl rfl (any_of HT_.out (by kernel_rfl)) (fun _ _ _ h => h) (Or.inr ⟨by rfl, rfl⟩) ?_ ?_
        rotate_left
        · simp only [Act.put, List.setIfInBounds_toArray, List.set_cons_zero, List.set_cons_succ, i64_w, i32_w]
          rfl
        refine pure_ (i := 14) (N := some 38) (v := undef) (a' := ?_) #[true, true, true, true, true, true, true, true, true, true, true, true, true, true, true, false, false, false, false, false, false, false, false, false, false, false, false, false, false, false, false, false, false, false, false, false, false, false, false, false, false] rfl rfl (any_of HT_.out (by kernel_rfl)) (fun _ _ _ h => h) (Or.inr ⟨by rfl, rfl⟩) ?_ ?_
        rotate_left
        · simp only [Act.put, List.setIfInBounds_toArray, List.set_cons_zero, List.set_cons_succ, i64_w, i32_w]
          rfl
        refine pure_ (i := 15) (N := some 39) (v := undef) (a' := ?_) #[true, true, true, true, true, true, true, true, true, true, true, true, true, true, true, true, false, false, false, false, false, false, false, false, false, false, false, false, false, false, false, false, false, false, false, false, false, false, false, false, false] rfl rfl (any_of HT_.out (by kernel_rfl)) (fun _ _ _ h => h) (Or.inr ⟨by rfl, rfl⟩) ?_ ?_
        rotate_left
        · simp only [Act.put, List.setIfInBounds_toArray, List.set_cons_zero, List.set_cons_succ, i64_w, i32_w]
          rfl
        refine pure_ (i := 16) (N := some 40) (v := undef) (a' := ?_) #[true, true, true, true, true, true, true, true, true, true, true, true, true, true, true, true, true, false, false, false, false, false, false, false, false, false, false, false, false, false, false, false, false, false, false, false, false, false, false, false, false] rfl rfl (any_of HT_.out (by kernel_rfl)) (fun _ _ _ h => h) (Or.inr ⟨by rfl, rfl⟩) ?_ ?_
        rotate_left
        · simp only [Act.put, List.setIfInBounds_toArray, List.set_cons_zero, List.set_cons_succ, i64_w, i32_w]
          rfl
        refine pure_ (i := 17) (N := some 41) (v := undef) (a' := ?_) #[true, true, true, true, true, true, true, true, true, true, true, true, true, true, true, true, true, true, false, false, false, false, false, false, false, false, false, false, false, false, false, false, false, false, false, false, false, false, false, false, false] rfl rfl (any_of HT_.out (by kernel_rfl)) (fun _ _ _ h => h) (Or.inr ⟨by rfl, rfl⟩) ?_ ?_
        rotate_left
        · simp only [Act.put, List.setIfInBounds_toArray, List.set_cons_zero, List.set_cons_succ, i64_w, i32_w]
          rfl
        refine pure_ (i := 18) (N := some 42) (v := undef) (a' := ?_) #[true, true, true, true, true, true, true, true, true, true, true, true, true, true, true, true, true, true, true, false, false, false, false, false, false, false, false, false, false, false, false, false, false, false, false, false, false, false, false, false, false] rfl rfl (any_of HT_.out (by kernel_rfl)) (fun _ _ _ h => h) (Or.inr ⟨by rfl, rfl⟩) ?_ ?_
        rotate_left
        · simp only [Act.put, List.setIfInBounds_toArray, List.set_cons_zero, List.set_cons_succ, i64_w, i32_w]
          rfl
        refine pure_ (i := 19) (N := some 43) (v := undef) (a' := ?_) #[true, true, true, true, true, true, true, true, true, true, true, true, true, true, true, true, true, true, true, true, false, false, false, false, false, false, false, false, false, false, false, false, false, false, false, false, false, false, false, false, false] rfl rfl (any_of HT_.out (by kernel_rfl)) (fun _ _ _ h => h) (Or.inr ⟨by rfl, rfl⟩) ?_ ?_
        rotate_left
        · simp only [Act.put, List.setIfInBounds_toArray, List.set_cons_zero, List.set_cons_succ, i64_w, i32_w]
          rfl
        refine pure_ (i := 20) (N := some 44) (v := undef) (a' := ?_) #[true, true, true, true, true, true, true, true, true, true, true, true, true, true, true, true, true, true, true, true, true, false, false, false, false, false, false, false, false, false, false, false, false, false, false, false, false, false, false, false, false] rfl rfl (any_of HT_.out (by kernel_rfl)) (fun _ _ _ h => h) (Or.inr ⟨by rfl, rfl⟩) ?_ ?_
        rotate_left
        · simp only [Act.put, List.setIfInBounds_toArray, List.set_cons_zero, List.set_cons_succ, i64_w, i32_w]
          rfl
        refine pure_ (i := 21) (N := some 45) (v := ?_) (a' := ?_) #[true, true, true, true, true, true, true, true, true, true, true, true, true, true, true, true, true, true, true, true, true, true, false, false, false, false, false, false, false, false, false, false, false, false, false, false, false, false, false, false, false] rfl rfl (any_of HT_.out (by kernel_rfl)) (fun _ _ _ h => h) (Or.inl ⟨by rfl, ?_⟩) ?_ ?_
        rotate_left
        · intro w'
          go_simp
          with_reducible rfl
        rotate_left
        · simp only [Act.put, List.setIfInBounds_toArray, List.set_cons_zero, List.set_cons_succ, i64_w, i32_w]
          rfl
        refine pure_ (i := 22) (N := some 46) (v := ?_) (a' := ?_) #[true, true, true, true, true, true, true, true, true, true, true, true, true, true, true, true, true, true, true, true, true, true, true, false, false, false, false, false, false, false, false, false, false, false, false, false, false, false, false, false, false] rfl rfl (any_of HT_.out (by kernel_rfl)) (fun _ _ _ h => h) (Or.inl ⟨by rfl, ?_⟩) ?_ ?_
        rotate_left
        · intro w'
          go_simp
          with_reducible rfl
        rotate_left
        · simp only [Act.put, List.setIfInBounds_toArray, List.set_cons_zero, List.set_cons_succ, i64_w, i32_w]
          rfl
        refine pure_ (i := 23) (N := some 47) (v := ?_) (a' := ?_) #[true, true, true, true, true, true, true, true, true, true, true, true, true, true, true, true, true, true, true, true, true, true, true, true, false, false, false, false, false, false, false, false, false, false, false, false, false, false, false, false, false] rfl rfl (any_of HT_.out (by kernel_rfl)) (fun _ _ _ h => h) (Or.inl ⟨by rfl, ?_⟩) ?_ ?_
        rotate_left
        · intro w'
          go_simp
          with_reducible rfl
        rotate_left
        · simp only [Act.put, List.setIfInBounds_toArray, List.set_cons_zero, List.set_cons_succ, i64_w, i32_w]
          rfl
        refine pure_ (i := 24) (N := some 48) (v := ?_) (a' := ?_) #[true, true, true, true, true, true, true, true, true, true, true, true, true, true, true, true, true, true, true, true, true, true, true, true, true, false, false, false, false, false, false, false, false, false, false, false, false, false, false, false, false] rfl rfl (any_of HT_.out (by kernel_rfl)) (fun _ _ _ h => h) (Or.inl ⟨by rfl, ?_⟩) ?_ ?_
        rotate_left
        · intro w'
          go_simp
          with_reducible rfl
        rotate_left
        · simp only [Act.put, List.setIfInBounds_toArray, List.set_cons_zero, List.set_cons_succ, i64_w, i32_w]
          rfl
        refine pure_ (i := 25) (N := some 49) (v := ?_) (a' := ?_) #[true, true, true, true, true, true, true, true, true, true, true, true, true, true, true, true, true, true, true, true, true, true, true, true, true, true, false, false, false, false, false, false, false, false, false, false, false, false, false, false, false] rfl rfl (any_of HT_.out (by kernel_rfl)) (fun _ _ _ h => h) (Or.inl ⟨by rfl, ?_⟩) ?_ ?_
        rotate_left
        · intro w'
          go_simp
          with_reducible rfl
        rotate_left
        · simp only [Act.put, List.setIfInBounds_toArray, List.set_cons_zero, List.set_cons_succ, i64_w, i32_w]
          rfl
        refine take_ (i := 26) (N := some 50) (v := ?_) (a' := ?_) #[true, true, true, true, true, true, true, true, true, true, true, true, true, true, true, true, true, true, true, true, true, true, true, true, true, true, true, false, false, false, false, false, false, false, false, false, false, false, false, false, false] rfl rfl (take_ofW HT_.out HW_.out (by kernel_rfl)) (fun _ _ _ h => h) (Or.inl ⟨by rfl, ?_⟩) hHeld ?_ ?_
        rotate_left
        · rintro w' ⟨s0, s1⟩
          go_simp
          with_reducible rfl
        rotate_left
        · simp only [Act.put, List.setIfInBounds_toArray, List.set_cons_zero, List.set_cons_succ, i64_w, i32_w]
          rfl
        refine pure_ (i := 27) (N := some 51) (v := ?_) (a' := ?_) #[true, true, true, true, true, true, true, true, true, true, true, true, true, true, true, true, true, true, true, true, true, true, true, true, true, true, true, true, false, false, false, false, false, false, false, false, false, false, false, false, false] rfl rfl (any_of HT_.out (by kernel_rfl)) (fun _ _ _ h => h) (Or.inl ⟨by rfl, ?_⟩) ?_ ?_
        rotate_left
        · intro w'
          go_simp
          with_reducible rfl
        rotate_left
        · simp only [Act.put, List.setIfInBounds_toArray, List.set_cons_zero, List.set_cons_succ, i64_w, i32_w]
          rfl
        refine pure_ (i := 30) (N := some 54) (v := ?_) (a' := ?_) #[true, true, true, true, true, true, true, true, true, true, true, true, true, true, true, true, true, true, true, true, true, true, true, true, true, true, true, true, false, false, true, false, false, false, false, false, false, false, false, false, false] rfl rfl (any_of HT_.out (by kernel_rfl)) (fun _ _ _ h => h) (Or.inl ⟨by rfl, ?_⟩) ?_ ?_
        rotate_left
        · intro w'
          go_simp
          with_reducible rfl
        rotate_left
        · simp only [Act.put, List.setIfInBounds_toArray, List.set_cons_zero, List.set_cons_succ, i64_w, i32_w]
          rfl
        refine pure_ (i := 31) (N := some 55) (v := ?_) (a' := ?_) #[true, true, true, true, true, true, true, true, true, true, true, true, true, true, true, true, true, true, true, true, true, true, true, true, true, true, true, true, false, false, true, true, false, false, false, false, false, false, false, false, false] rfl rfl (any_of HT_.out (by kernel_rfl)) (fun _ _ _ h => h) (Or.inl ⟨by rfl, ?_⟩) ?_ ?_
        rotate_left
        · intro w'
          go_simp
          with_reducible rfl
        rotate_left
        · simp only [Act.put, List.setIfInBounds_toArray, List.set_cons_zero, List.set_cons_succ, i64_w, i32_w]
          rfl
        refine pure_ (i := 32) (N := some 56) (v := ?_) (a' := ?_) #[true, true, true, true, true, true, true, true, true, true, true, true, true, true, true, true, true, true, true, true, true, true, true, true, true, true, true, true, false, false, true, true, true, false, false, false, false, false, false, false, false] rfl rfl (any_of HT_.out (by kernel_rfl)) (fun _ _ _ h => h) (Or.inl ⟨by rfl, ?_⟩) ?_ ?_
        rotate_left
        · intro w'
          go_simp
          with_reducible rfl
        rotate_left
        · simp only [Act.put, List.setIfInBounds_toArray, List.set_cons_zero, List.set_cons_succ, i64_w, i32_w]
          rfl
        refine pure_ (i := 33) (N := some 57) (v := ?_) (a' := ?_) #[true, true, true, true, true, true, true, true, true, true, true, true, true, true, true, true, true, true, true, true, true, true, true, true, true, true, true, true, false, false, true, true, true, true, false, false, false, false, false, false, false] rfl rfl (any_of HT_.out (by kernel_rfl)) (fun _ _ _ h => h) (Or.inl ⟨by rfl, ?_⟩) ?_ ?_
        rotate_left
        · intro w'
          go_simp
          with_reducible rfl
        rotate_left
        · simp only [Act.put, List.setIfInBounds_toArray, List.set_cons_zero, List.set_cons_succ, i64_w, i32_w]
          rfl
        refine take_ (i := 34) (N := some 58) (v := ?_) (a' := ?_) #[true, true, true, true, true, true, true, true, true, true, true, true, true, true, true, true, true, true, true, true, true, true, true, true, true, true, true, true, false, false, true, true, true, true, true, false, false, false, false, false, false] rfl rfl (take_ofW HT_.out HW_.out (by kernel_rfl)) (fun _ _ _ h => h) (Or.inl ⟨by rfl, ?_⟩) hHeld ?_ ?_
        rotate_left
        · rintro w' ⟨s0, s1⟩
          go_simp
          with_reducible rfl
        rotate_left
        · simp only [Act.put, List.setIfInBounds_toArray, List.set_cons_zero, List.set_cons_succ, i64_w, i32_w]
          rfl
        refine pure_ (i := 35) (N := some 59) (v := ?_) (a' := ?_) #[true, true, true, true, true, true, true, true, true, true, true, true, true, true, true, true, true, true, true, true, true, true, true, true, true, true, true, true, false, false, true, true, true, true, true, true, false, false, false, false, false] rfl rfl (any_of HT_.out (by kernel_rfl)) (fun _ _ _ h => h) (Or.inl ⟨by rfl, ?_⟩) ?_ ?_
        rotate_left
        · intro w'
          go_simp
          with_reducible rfl
        rotate_left
        · simp only [Act.put, List.setIfInBounds_toArray, List.set_cons_zero, List.set_cons_succ, i64_w, i32_w]
          rfl
        refine pure_ (i := 36) (N := some 60) (v := ?_) (a' := ?_) #[true, true, true, true, true, true, true, true, true, true, true, true, true, true, true, true, true, true, true, true, true, true, true, true, true, true, true, true, false, false, true, true, true, true, true, true, true, false, false, false, false] rfl rfl (any_of HT_.out (by kernel_rfl)) (fun _ _ _ h => h) (Or.inl ⟨by rfl, ?_⟩) ?_ ?_
        rotate_left
        · intro w'
          go_simp
          with_reducible rfl
        rotate_left
        · simp only [Act.put, List.setIfInBounds_toArray, List.set_cons_zero, List.set_cons_succ, i64_w, i32_w]
          rfl
        refine pure_ (i := 37) (N := some 61) (v := ?_) (a' := ?_) #[true, true, true, true, true, true, true, true, true, true, true, true, true, true, true, true, true, true, true, true, true, true, true, true, true, true, true, true, false, false, true, true, true, true, true, true, true, true, false, false, false] rfl rfl (any_of HT_.out (by kernel_rfl)) (fun _ _ _ h => h) (Or.inl ⟨by rfl, ?_⟩) ?_ ?_
        rotate_left
        · intro w'
          go_simp
          with_reducible rfl
        rotate_left
        · simp only [Act.put, List.setIfInBounds_toArray, List.set_cons_zero, List.set_cons_succ, i64_w, i32_w]
          rfl
        refine join_ (σ := Unit) 1 #[true, true, true, true, true, true, true, true, true, true, true, true, true, true, true, true, true, true, true, true, true, true, true, true, true, true, true, true, true, true, true, true, true, true, true, true, true, true, true, true, false] (fun _ => [(52, .bool mr), (53, .bool (!mr)), (62, .agg #[.bool true, .bool true, .bool false, .bool (!mr), .bool bt]), (6, .pointer (some ⟨wr.heap.size, 0, none⟩))]) (fun _ w' => w' = W1) ?_ (fun hcont => ?_)
        rotate_left
        · have hc := hcont () W1 rfl
          simp only [putAll, Act.put, List.setIfInBounds_toArray, List.set_cons_zero, List.set_cons_succ] at hc
          clear hcont
          refine two_ (i := 28) (j := 39) (Ni := some 52) (Nj := some 6) #[true, true, true, true, true, true, true, true, true, true, true, true, true, true, true, true, true, true, true, true, true, true, true, true, true, true, true, true, true, false, true, true, true, true, true, true, true, true, false, false, false] #[true, true, true, true, true, true, true, true, true, true, true, true, true, true, true, true, true, true, true, true, true, true, true, true, true, true, true, true, false, false, true, true, true, true, true, true, true, true, false, true, false] rfl rfl rfl rfl (two_of HT_.out (by kernel_rfl)) (by decide) (by decide) (fun Kc hKc => ?_) (fun Kc hKc => ?_)
          · refine goes_ Tryz.func37 (by kernel_rfl) rfl #[.pointer (some ⟨b, 0, none⟩), .int .i64 K, .int .i64 ((0 : Nat) : Int)] (by rfl) rfl rfl (by (try simp only [List.map_toArray, List.map_cons, List.map_nil]); first | done | rfl) ?_
            refine (HM0.out).mono ?_
            rintro e w1 ⟨rfl, rfl⟩
            refine ⟨_, rfl, ?_⟩
            refine hKc.out _ _ hHeld (fun hHeld => ?_)
            clear hKc Kc
            refine norm_ (a' := ?_) ?_ ?_
            rotate_left
            · show Act.put _ (some 52) _ = _
              simp only [Act.put, List.setIfInBounds_toArray, List.set_cons_zero, List.set_cons_succ, i64_w, i32_w]
              rfl
            refine pure_ (i := 29) (N := some 53) (v := ?_) (a' := ?_) #[true, true, true, true, true, true, true, true, true, true, true, true, true, true, true, true, true, true, true, true, true, true, true, true, true, true, true, true, true, true, true, true, true, true, true, true, true, true, false, false, false] rfl rfl (any_of HT_.out (by kernel_rfl)) (fun _ _ _ h => h) (Or.inl ⟨by rfl, ?_⟩) ?_ ?_
            rotate_left
            · intro w'
              go_simp
              with_reducible rfl
            rotate_left
            · simp only [Act.put, List.setIfInBounds_toArray, List.set_cons_zero, List.set_cons_succ, i64_w, i32_w]
              rfl
            refine pure_ (i := 38) (N := some 62) (v := ?_) (a' := ?_) #[true, true, true, true, true, true, true, true, true, true, true, true, true, true, true, true, true, true, true, true, true, true, true, true, true, true, true, true, true, true, true, true, true, true, true, true, true, true, true, false, false] rfl rfl (any_of HT_.out (by kernel_rfl)) (fun _ _ _ h => h) (Or.inl ⟨by rfl, ?_⟩) ?_ ?_
            rotate_left
            · intro w'
              go_simp
              with_reducible rfl
            rotate_left
            · simp only [Act.put, List.setIfInBounds_toArray, List.set_cons_zero, List.set_cons_succ, i64_w, i32_w]
              rfl
            refine one_ (i := 39) (N := some 6) #[true, true, true, true, true, true, true, true, true, true, true, true, true, true, true, true, true, true, true, true, true, true, true, true, true, true, true, true, true, true, true, true, true, true, true, true, true, true, true, true, false] rfl rfl (one_of HT_.out (by kernel_rfl)) (by decide) (fun Kc hKc => ?_)
            refine value_ (w1 := W1) (v := .pointer (some ⟨wr.heap.size, 0, none⟩)) (by rfl) rfl ?_ ?_
            · rw [HW1.out]
              go_simp
              try rfl
            refine hKc.out _ _ HS1.out (fun hHeld => ?_)
            clear hKc Kc
            refine norm_ (a' := ?_) ?_ ?_
            rotate_left
            · show Act.put _ (some 6) _ = _
              simp only [Act.put, List.setIfInBounds_toArray, List.set_cons_zero, List.set_cons_succ, i64_w, i32_w]
              rfl
            exact hc
          · refine value_ (w1 := W1) (v := .pointer (some ⟨wr.heap.size, 0, none⟩)) (by rfl) rfl ?_ ?_
            · rw [HW1.out]
              go_simp
              try rfl
            refine hKc.out _ _ HS1.out (fun hHeld => ?_)
            clear hKc Kc
            refine norm_ (a' := ?_) ?_ ?_
            rotate_left
            · show Act.put _ (some 6) _ = _
              simp only [Act.put, List.setIfInBounds_toArray, List.set_cons_zero, List.set_cons_succ, i64_w, i32_w]
              rfl
            refine one_ (i := 28) (N := some 52) #[true, true, true, true, true, true, true, true, true, true, true, true, true, true, true, true, true, true, true, true, true, true, true, true, true, true, true, true, true, false, true, true, true, true, true, true, true, true, false, true, false] rfl rfl (one_of HT_.out (by kernel_rfl)) (by decide) (fun Kc hKc => ?_)
            refine goes_ Tryz.func37 (by kernel_rfl) rfl #[.pointer (some ⟨b, 0, none⟩), .int .i64 K, .int .i64 ((0 : Nat) : Int)] (by rfl) rfl rfl (by (try simp only [List.map_toArray, List.map_cons, List.map_nil]); first | done | rfl) ?_
            refine (HM1.out).mono ?_
            rintro e w1 ⟨rfl, rfl⟩
            refine ⟨_, rfl, ?_⟩
            refine hKc.out _ _ hHeld (fun hHeld => ?_)
            clear hKc Kc
            refine norm_ (a' := ?_) ?_ ?_
            rotate_left
            · show Act.put _ (some 52) _ = _
              simp only [Act.put, List.setIfInBounds_toArray, List.set_cons_zero, List.set_cons_succ, i64_w, i32_w]
              rfl
            refine pure_ (i := 29) (N := some 53) (v := ?_) (a' := ?_) #[true, true, true, true, true, true, true, true, true, true, true, true, true, true, true, true, true, true, true, true, true, true, true, true, true, true, true, true, true, true, true, true, true, true, true, true, true, true, false, true, false] rfl rfl (any_of HT_.out (by kernel_rfl)) (fun _ _ _ h => h) (Or.inl ⟨by rfl, ?_⟩) ?_ ?_
            rotate_left
            · intro w'
              go_simp
              with_reducible rfl
            rotate_left
            · simp only [Act.put, List.setIfInBounds_toArray, List.set_cons_zero, List.set_cons_succ, i64_w, i32_w]
              rfl
            refine pure_ (i := 38) (N := some 62) (v := ?_) (a' := ?_) #[true, true, true, true, true, true, true, true, true, true, true, true, true, true, true, true, true, true, true, true, true, true, true, true, true, true, true, true, true, true, true, true, true, true, true, true, true, true, true, true, false] rfl rfl (any_of HT_.out (by kernel_rfl)) (fun _ _ _ h => h) (Or.inl ⟨by rfl, ?_⟩) ?_ ?_
            rotate_left
            · intro w'
              go_simp
              with_reducible rfl
            rotate_left
            · simp only [Act.put, List.setIfInBounds_toArray, List.set_cons_zero, List.set_cons_succ, i64_w, i32_w]
              rfl
            exact hc
        rintro _ _ rfl
        have hHeld := HS1.out
        refine norm_ (a' := ?_) ?_ ?_
        rotate_left
        · show putAll _ _ = _
          simp only [putAll, Act.put, List.setIfInBounds_toArray, List.set_cons_zero, List.set_cons_succ]
          rfl
        refine last_ (i := 40) (N := none) #[true, true, true, true, true, true, true, true, true, true, true, true, true, true, true, true, true, true, true, true, true, true, true, true, true, true, true, true, true, true, true, true, true, true, true, true, true, true, true, true, true] rfl rfl (one_of HT_.out (by kernel_rfl)) (by decide) (fun Kc hKc => ?_)
        refine skip_ (w1 := W2) (by rfl) rfl ?_ ?_
        · rw [HW1.out, HW2.out]; go_simp
          try rfl
        refine hKc.out _ _ ?_
        clear hKc Kc
        refine done_ (done_of HT_.out (by kernel_rfl)) ?_
        -- END 0
        have e2 := HW2.out
        clear HW2 HS0 HS1 HM0 HM1 HW1 hbt hbt0 e0
        subst e2
        cases mr
        · go_wp2_with (first
            | (go_at_call 38; go_must (refine (body (KP.out _) 0 K p t true true true true bt HX.out.1 HX.out.2.1 (by have := FF.out.n; omega) FF.out.h5 FF.out.h8 HCS.out (by have := HX.out; omega) (by have := HX.out.2.2.2.2.2; omega) (Nat.le_trans (bullet_size _ _ _ _ _ _ _ _ _ _ _ _ FF.out.h1 FF.out.h2 FF.out.h3 FF.out.h4 FF.out.h6) (by omega)) HX.out.2.2.2.2.1 HX.out.2.2.2.1).mono ?_; rintro e w4 ⟨rfl, R4⟩)))
          go_roundw
          case rel => exact ⟨0 + 1, hlt, by first | rfl | simp, ⟨by rw [← HL.out]; exact R4⟩⟩
          case measure => simp [RowKit.intOf]; omega
        · go_wp2_with (first
            | (go_at_call 38; go_must (refine (body (KP.out _) 0 K p t true true false false bt HX.out.1 HX.out.2.1 (by have := FF.out.n; omega) FF.out.h5 FF.out.h8 HCS.out (by have := HX.out; omega) (by have := HX.out.2.2.2.2.2; omega) (Nat.le_trans (bullet_size _ _ _ _ _ _ _ _ _ _ _ _ FF.out.h1 FF.out.h2 FF.out.h3 FF.out.h4 FF.out.h6) (by omega)) HX.out.2.2.2.2.1 HX.out.2.2.2.1).mono ?_; rintro e w4 ⟨rfl, R4⟩)))
          go_roundw
          case rel => exact ⟨0 + 1, hlt, by first | rfl | simp, ⟨by rw [← HL.out]; exact R4⟩⟩
          case measure => simp [RowKit.intOf]; omega
      | succ q =>
        have hql : q < xs.length := by omega
        obtain ⟨g1, c1, p1, hv1, _, cg1, hpi1⟩ := row_at RJ.out.now q hql
        obtain rfl : g = g1 := by injection hv1 with a1 a2 a3; injection a1 with a1; injection a1
        have hxq : xs[q]? = some xs[q] := List.getElem?_eq_getElem hql
        obtain ⟨y, hy⟩ : ∃ y, y = xs[q].1 := ⟨_, rfl⟩
        have y0 : wr.cell? ⟨p1, 0, none⟩ = some (.int .i64 y) := by rw [hy]; exact (Lib.cell_of_heap hpi1 0).trans rfl
        have y0' : W1.cell? ⟨p1, 0, none⟩ = some (.int .i64 y) := by rw [hy]; exact (Lib.cell_of_heap ((kb p1 (Lst.lt_of hpi1)).trans hpi1) 0).trans rfl
        have cg1' : W1.cell? ⟨g, q, none⟩ = some (.pointer (some ⟨p1, 0, none⟩)) := by
          rw [hW1]; exact (World.cell?_alloc_lt _ _ _ (by have := cell_lt cg1; exact this)).trans cg1
        obtain ⟨r1, hr1⟩ : ∃ r1, decide (y < (K : Int)) = r1 := ⟨_, rfl⟩
        have HL : Aside0 (drawn cw s1 s2 s3 s4 s5 s6 s8 xs (q + 1) ++ line (q + 1) false r1 (r1 && !mr) (!mr) bt K t cw s1 s2 s3 s4 s5 s6 s8 xs = drawn cw s1 s2 s3 s4 s5 s6 s8 xs (q + 1 + 1)) := ⟨by
          have hx := HX.out.2.1
          have hf : first xs (q + 1) (K : Int) = r1 := by
            show (match xs[q]? with | none => true | some y => decide ((K : Int) > y.1)) = r1
            rw [hxq, ← hr1, hy]
          show _ = drawn cw s1 s2 s3 s4 s5 s6 s8 xs (q + 1) ++ hline cw s1 s2 s3 s4 s5 s6 s8 xs (q + 1)
          unfold hline
          rw [hx]
          simp only [hf]
          rw [HBT.out, ← HMR.out]
          rfl⟩
        have hz : (((q + 1 : Nat) : Int) == 0) = false := by rw [beq_eq_false_iff_ne]; omega
        have hw1 : IntKind.i64.wrap (((q + 1 : Nat) : Int) - 1) = (q : Int) := by rw [wrap_i _ (by omega) (by omega)]; omega
        have hw3 : IntKind.i64.wrap (q : Int) = (q : Int) := wrap_i _ (by omega) (by omega)
        have hi0 : decide (0 ≤ (q : Int)) = true := by simp
        have hqn : q < n := by omega
        have hz2 : ((q : Int) + 1 == 0) = false := by rw [beq_eq_false_iff_ne]; omega
        have hw4 : IntKind.i64.wrap ((q : Int) + 1 - 1) = (q : Int) := by rw [wrap_i _ (by omega) (by omega)]; omega
        have hbt1 : ((q : Int) + 1 == (n : Int) - 1) = bt := hbt
        have hi1 : decide ((q : Int) < (n : Int)) = true := by simp; omega
        obtain ⟨W2, hW2⟩ : ∃ W2, W2 = wr.drew.alloc (.cells #[.bool false, .bool r1, .bool false, .bool (!mr), .bool bt] 66 (0, 0)) := ⟨_, rfl⟩
        have HW2 := Aside0.mk hW2
        have HS1 : Aside0 (W1.cell? ⟨b, 3, none⟩ = some (.slice (some ⟨g, 0, none⟩) n c) ∧ W1.cell? ⟨p, 0, none⟩ = some (.int .i64 K) ∧ W1.cell? ⟨g, q, none⟩ = some (.pointer (some ⟨p1, 0, none⟩)) ∧ W1.cell? ⟨p1, 0, none⟩ = some (.int .i64 y)) := ⟨c3', p0', cg1', y0'⟩
        have HS0 : Aside0 (wr.cell? ⟨b, 3, none⟩ = some (.slice (some ⟨g, 0, none⟩) n c) ∧ wr.cell? ⟨p, 0, none⟩ = some (.int .i64 K) ∧ wr.cell? ⟨g, q, none⟩ = some (.pointer (some ⟨p1, 0, none⟩)) ∧ wr.cell? ⟨p1, 0, none⟩ = some (.int .i64 y)) := ⟨c3, p0, cg1, y0⟩
        have HQ := Aside0.mk hql
        clear c3' p0' hW1 hW2 c3 p0 y0 y0' cg1 cg1' hpi1 hxq hy hv1 hql kb
        go_wp2_with (fail)
        -- REGION 1
        refine start_ (n := 41) (S := fun w' => w'.cell? ⟨b, 3, none⟩ = some (.slice (some ⟨g, 0, none⟩) n c) ∧ w'.cell? ⟨p, 0, none⟩ = some (.int .i64 K) ∧ w'.cell? ⟨g, q, none⟩ = some (.pointer (some ⟨p1, 0, none⟩)) ∧ w'.cell? ⟨p1, 0, none⟩ = some (.int .i64 y)) (ds := [40]) #[false, false, false, false, false, false, false, false, false, false, false, false, false, false, false, false, false, false, false, false, false, false, false, false, false, false, false, false, false, false, false, false, false, false, false, false, false, false, false, false, false] (by kernel_rfl) rfl rfl HS0.out (fun hHeld => ?_); refine with_tabW tab7 bits7 (fun HT_ HW_ => ?_)
        refine pure_ (i := 0) (N := some 24) (v := ?_) (a' := ?_) #[true, false, false, false, false, false, false, false, false, false, false, false, false, false, false, false, false, false, false, false, false, false, false, false, false, false, false, false, false, false, false, false, false, false, false, false, false, false, false, false, false] rfl rfl (any_of HT_.out (by kernel_rfl)) (fun _ _ _ h => h) (Or.inl ⟨by rfl, ?_⟩) ?_ ?_
        rotate_left
        · intro w'
          go_simp
          with_reducible rfl
        rotate_left
        · simp only [Act.put, List.setIfInBounds_toArray, List.set_cons_zero, List.set_cons_succ, i64_w, i32_w]
          rfl
        refine pure_ (i := 1) (N := some 25) (v := ?_) (a' := ?_) #[true, true, false, false, false, false, false, false, false, false, false, false, false, false, false, false, false, false, false, false, false, false, false, false, false, false, false, false, false, false, false, false, false, false, false, false, false, false, false, false, false] rfl rfl (any_of HT_.out (by kernel_rfl)) (fun _ _ _ h => h) (Or.inl ⟨by rfl, ?_⟩) ?_ ?_
        rotate_left
        · intro w'
          go_simp
          with_reducible rfl
        rotate_left
        · simp only [Act.put, List.setIfInBounds_toArray, List.set_cons_zero, List.set_cons_succ, i64_w, i32_w]
          rfl
        refine pure_ (i := 2) (N := some 26) (v := ?_) (a' := ?_) #[true, true, true, false, false, false, false, false, false, false, false, false, false, false, false, false, false, false, false, false, false, false, false, false, false, false, false, false, false, false, false, false, false, false, false, false, false, false, false, false, false] rfl rfl (any_of HT_.out (by kernel_rfl)) (fun _ _ _ h => h) (Or.inl ⟨by rfl, ?_⟩) ?_ ?_
        rotate_left
        · intro w'
          go_simp
          with_reducible rfl
        rotate_left
        · simp only [Act.put, List.setIfInBounds_toArray, List.set_cons_zero, List.set_cons_succ, i64_w, i32_w]
          rfl
        refine pure_ (i := 3) (N := some 27) (v := ?_) (a' := ?_) #[true, true, true, true, false, false, false, false, false, false, false, false, false, false, false, false, false, false, false, false, false, false, false, false, false, false, false, false, false, false, false, false, false, false, false, false, false, false, false, false, false] rfl rfl (any_of HT_.out (by kernel_rfl)) (fun _ _ _ h => h) (Or.inl ⟨by rfl, ?_⟩) ?_ ?_
        rotate_left
        · intro w'
          go_simp
          with_reducible rfl
        rotate_left
        · simp only [Act.put, List.setIfInBounds_toArray, List.set_cons_zero, List.set_cons_succ, i64_w, i32_w]
          rfl
        refine pure_ (i := 4) (N := some 28) (v := ?_) (a' := ?_) #[true, true, true, true, true, false, false, false, false, false, false, false, false, false, false, false, false, false, false, false, false, false, false, false, false, false, false, false, false, false, false, false, false, false, false, false, false, false, false, false, false] rfl rfl (any_of HT_.out (by kernel_rfl)) (fun _ _ _ h => h) (Or.inl ⟨by rfl, ?_⟩) ?_ ?_
        rotate_left
        · intro w'
          go_simp
          with_reducible rfl
        rotate_left
        · simp only [Act.put, List.setIfInBounds_toArray, List.set_cons_zero, List.set_cons_succ, i64_w, i32_w]
          rfl
        refine pure_ (i := 5) (N := some 29) (v := ?_) (a' := ?_) #[true, true, true, true, true, true, false, false, false, false, false, false, false, false, false, false, false, false, false, false, false, false, false, false, false, false, false, false, false, false, false, false, false, false, false, false, false, false, false, false, false] rfl rfl (any_of HT_.out (by kernel_rfl)) (fun _ _ _ h => h) (Or.inl ⟨by rfl, ?_⟩) ?_ ?_
        rotate_left
        · intro w'
          go_simp
          with_reducible rfl
        rotate_left
        · simp only [Act.put, List.setIfInBounds_toArray, List.set_cons_zero, List.set_cons_succ, i64_w, i32_w]
          rfl
        refine pure_ (i := 6) (N := some 30) (v := ?_) (a' := ?_) #[true, true, true, true, true, true, true, false, false, false, false, false, false, false, false, false, false, false, false, false, false, false, false, false, false, false, false, false, false, false, false, false, false, false, false, false, false, false, false, false, false] rfl rfl (any_of HT_.out (by kernel_rfl)) (fun _ _ _ h => h) (Or.inl ⟨by rfl, ?_⟩) ?_ ?_
        rotate_left
        · intro w'
          go_simp
          with_reducible rfl
        rotate_left
        · simp only [Act.put, List.setIfInBounds_toArray, List.set_cons_zero, List.set_cons_succ, i64_w, i32_w]
          rfl
        refine pure_ (i := 7) (N := some 31) (v := ?_) (a' := ?_) #[true, true, true, true, true, true, true, true, false, false, false, false, false, false, false, false, false, false, false, false, false, false, false, false, false, false, false, false, false, false, false, false, false, false, false, false, false, false, false, false, false] rfl rfl (any_of HT_.out (by kernel_rfl)) (fun _ _ _ h => h) (Or.inl ⟨by rfl, ?_⟩) ?_ ?_
        rotate_left
        · intro w'
          go_simp
          with_reducible rfl
        rotate_left
        · simp only [Act.put, List.setIfInBounds_toArray, List.set_cons_zero, List.set_cons_succ, i64_w, i32_w]
          rfl
        refine take_ (i := 8) (N := some 32) (v := ?_) (a' := ?_) #[true, true, true, true, true, true, true, true, true, false, false, false, false, false, false, false, false, false, false, false, false, false, false, false, false, false, false, false, false, false, false, false, false, false, false, false, false, false, false, false, false] rfl rfl (take_ofW HT_.out HW_.out (by kernel_rfl)) (fun _ _ _ h => h) (Or.inl ⟨by rfl, ?_⟩) hHeld ?_ ?_
        rotate_left
        · rintro w' ⟨s0, s1, s2, s3⟩
          go_simp
          with_reducible rfl
        rotate_left
        · simp only [Act.put, List.setIfInBounds_toArray, List.set_cons_zero, List.set_cons_succ, i64_w, i32_w]
          rfl
        refine pure_ (i := 9) (N := some 33) (v := ?_) (a' := ?_) #[true, true, true, true, true, true, true, true, true, true, false, false, false, false, false, false, false, false, false, false, false, false, false, false, false, false, false, false, false, false, false, false, false, false, false, false, false, false, false, false, false] rfl rfl (any_of HT_.out (by kernel_rfl)) (fun _ _ _ h => h) (Or.inl ⟨by rfl, ?_⟩) ?_ ?_
        rotate_left
        · intro w'
          go_simp
          with_reducible rfl
        rotate_left
        · simp only [Act.put, List.setIfInBounds_toArray, List.set_cons_zero, List.set_cons_succ, i64_w, i32_w]
          rfl
        refine pure_ (i := 10) (N := some 34) (v := ?_) (a' := ?_) #[true, true, true, true, true, true, true, true, true, true, true, false, false, false, false, false, false, false, false, false, false, false, false, false, false, false, false, false, false, false, false, false, false, false, false, false, false, false, false, false, false] rfl rfl (any_of HT_.out (by kernel_rfl)) (fun _ _ _ h => h) (Or.inl ⟨by rfl, ?_⟩) ?_ ?_
        rotate_left
        · intro w'
          go_simp
          with_reducible rfl
        rotate_left
        · simp only [Act.put, List.setIfInBounds_toArray, List.set_cons_zero, List.set_cons_succ, i64_w, i32_w]
          rfl
        refine pure_ (i := 11) (N := some 35) (v := ?_) (a' := ?_) #[true, true, true, true, true, true, true, true, true, true, true, true, false, false, false, false, false, false, false, false, false, false, false, false, false, false, false, false, false, false, false, false, false, false, false, false, false, false, false, false, false] rfl rfl (any_of HT_.out (by kernel_rfl)) (fun _ _ _ h => h) (Or.inl ⟨by rfl, ?_⟩) ?_ ?_
        rotate_left
        · intro w'
          go_simp
          with_reducible rfl
        rotate_left
        · simp only [Act.put, List.setIfInBounds_toArray, List.set_cons_zero, List.set_cons_succ, i64_w, i32_w]
          rfl
        refine take_ (i := 12) (N := some 36) (v := ?_) (a' := ?_) #[true, true, true, true, true, true, true, true, true, true, true, true, true, false, false, false, false, false, false, false, false, false, false, false, false, false, false, false, false, false, false, false, false, false, false, false, false, false, false, false, false] rfl rfl (take_ofW HT_.out HW_.out (by kernel_rfl)) (fun _ _ _ h => h) (Or.inl ⟨by rfl, ?_⟩) hHeld ?_ ?_
        rotate_left
        · rintro w' ⟨s0, s1, s2, s3⟩
          go_simp
          with_reducible rfl
        rotate_left
        · simp only [Act.put, List.setIfInBounds_toArray, List.set_cons_zero, List.set_cons_succ, i64_w, i32_w]
          rfl
        refine pure_ (i := 13) (N := some 37) (v := ?_) (a' := ?_) #[true, true, true, true, true, true, true, true, true, true, true, true, true, true, false, false, false, false, false, false, false, false, false, false, false, false, false, false, false, false, false, false, false, false, false, false, false, false, false, false, false] rfl rfl (any_of HT_.out (by kernel_rfl)) (fun _ _ _ h => h) (Or.inl ⟨by rfl, ?_⟩) ?_ ?_
        rotate_left
        · intro w'
          go_simp
          with_reducible rfl
        rotate_left
        · simp only [Act.put, List.setIfInBounds_toArray, List.set_cons_zero, List.set_cons_succ, i64_w, i32_w]
          rfl
        refine pure_ (i := 14) (N := some 38) (v := ?_) (a' := ?_) #[true, true, true, true, true, true, true, true, true, true, true, true, true, true, true, false, false, false, false, false, false, false, false, false, false, false, false, false, false, false, false, false, false, false, false, false, false, false, false, false, false] rfl rfl (any_of HT_.out (by kernel_rfl)) (fun _ _ _ h => h) (Or.inl ⟨by rfl, ?_⟩) ?_ ?_
        rotate_left
        · intro w'
          go_simp
          with_reducible rfl
        rotate_left
        · simp only [Act.put, List.setIfInBounds_toArray, List.set_cons_zero, List.set_cons_succ, i64_w, i32_w]
          rfl
        refine pure_ (i := 15) (N := some 39) (v := ?_) (a' := ?_) #[true, true, true, true, true, true, true, true, true, true, true, true, true, true, true, true, false, false, false, false, false, false, false, false, false, false, false, false, false, false, false, false, false, false, false, false, false, false, false, false, false] rfl rfl (any_of HT_.out (by kernel_rfl)) (fun _ _ _ h => h) (Or.inl ⟨by rfl, ?_⟩) ?_ ?_
        rotate_left
        · intro w'
          go_simp
          with_reducible rfl
        rotate_left
        · simp only [Act.put, List.setIfInBounds_toArray, List.set_cons_zero, List.set_cons_succ, i64_w, i32_w]
          rfl
        refine take_ (i := 16) (N := some 40) (v := ?_) (a' := ?_) #[true, true, true, true, true, true, true, true, true, true, true, true, true, true, true, true, true, false, false, false, false, false, false, false, false, false, false, false, false, false, false, false, false, false, false, false, false, false, false, false, false] rfl rfl (take_ofW HT_.out HW_.out (by kernel_rfl)) (fun _ _ _ h => h) (Or.inl ⟨by rfl, ?_⟩) hHeld ?_ ?_
        rotate_left
        · rintro w' ⟨s0, s1, s2, s3⟩
          go_simp
          with_reducible rfl
        rotate_left
        · simp only [Act.put, List.setIfInBounds_toArray, List.set_cons_zero, List.set_cons_succ, i64_w, i32_w]
          rfl
        refine pure_ (i := 17) (N := some 41) (v := ?_) (a' := ?_) #[true, true, true, true, true, true, true, true, true, true, true, true, true, true, true, true, true, true, false, false, false, false, false, false, false, false, false, false, false, false, false, false, false, false, false, false, false, false, false, false, false] rfl rfl (any_of HT_.out (by kernel_rfl)) (fun _ _ _ h => h) (Or.inl ⟨by rfl, ?_⟩) ?_ ?_
        rotate_left
        · intro w'
          go_simp
          with_reducible rfl
        rotate_left
        · simp only [Act.put, List.setIfInBounds_toArray, List.set_cons_zero, List.set_cons_succ, i64_w, i32_w]
          rfl
        refine pure_ (i := 18) (N := some 42) (v := ?_) (a' := ?_) #[true, true, true, true, true, true, true, true, true, true, true, true, true, true, true, true, true, true, true, false, false, false, false, false, false, false, false, false, false, false, false, false, false, false, false, false, false, false, false, false, false] rfl rfl (any_of HT_.out (by kernel_rfl)) (fun _ _ _ h => h) (Or.inl ⟨by rfl, ?_⟩) ?_ ?_
        rotate_left
        · intro w'
          go_simp
          with_reducible rfl
        rotate_left
        · simp only [Act.put, List.setIfInBounds_toArray, List.set_cons_zero, List.set_cons_succ, i64_w, i32_w]
          rfl
        refine take_ (i := 19) (N := some 43) (v := ?_) (a' := ?_) #[true, true, true, true, true, true, true, true, true, true, true, true, true, true, true, true, true, true, true, true, false, false, false, false, false, false, false, false, false, false, false, false, false, false, false, false, false, false, false, false, false] rfl rfl (take_ofW HT_.out HW_.out (by kernel_rfl)) (fun _ _ _ h => h) (Or.inl ⟨by rfl, ?_⟩) hHeld ?_ ?_
        rotate_left
        · rintro w' ⟨s0, s1, s2, s3⟩
          go_simp
          with_reducible rfl
        rotate_left
        · simp only [Act.put, List.setIfInBounds_toArray, List.set_cons_zero, List.set_cons_succ, i64_w, i32_w]
          rfl
        refine pure_ (i := 20) (N := some 44) (v := ?_) (a' := ?_) #[true, true, true, true, true, true, true, true, true, true, true, true, true, true, true, true, true, true, true, true, true, false, false, false, false, false, false, false, false, false, false, false, false, false, false, false, false, false, false, false, false] rfl rfl (any_of HT_.out (by kernel_rfl)) (fun _ _ _ h => h) (Or.inl ⟨by rfl, ?_⟩) ?_ ?_
        rotate_left
        · intro w'
          go_simp
          with_reducible rfl
        rotate_left
        · simp only [Act.put, List.setIfInBounds_toArray, List.set_cons_zero, List.set_cons_succ, i64_w, i32_w]
          rfl
        refine pure_ (i := 21) (N := some 45) (v := ?_) (a' := ?_) #[true, true, true, true, true, true, true, true, true, true, true, true, true, true, true, true, true, true, true, true, true, true, false, false, false, false, false, false, false, false, false, false, false, false, false, false, false, false, false, false, false] rfl rfl (any_of HT_.out (by kernel_rfl)) (fun _ _ _ h => h) (Or.inl ⟨by rfl, ?_⟩) ?_ ?_
        rotate_left
        · intro w'
          go_simp
          with_reducible rfl
        rotate_left
        · simp only [Act.put, List.setIfInBounds_toArray, List.set_cons_zero, List.set_cons_succ, i64_w, i32_w]
          rfl
        refine pure_ (i := 22) (N := some 46) (v := ?_) (a' := ?_) #[true, true, true, true, true, true, true, true, true, true, true, true, true, true, true, true, true, true, true, true, true, true, true, false, false, false, false, false, false, false, false, false, false, false, false, false, false, false, false, false, false] rfl rfl (any_of HT_.out (by kernel_rfl)) (fun _ _ _ h => h) (Or.inl ⟨by rfl, ?_⟩) ?_ ?_
        rotate_left
        · intro w'
          go_simp
          with_reducible rfl
        rotate_left
        · simp only [Act.put, List.setIfInBounds_toArray, List.set_cons_zero, List.set_cons_succ, i64_w, i32_w]
          rfl
        refine pure_ (i := 23) (N := some 47) (v := ?_) (a' := ?_) #[true, true, true, true, true, true, true, true, true, true, true, true, true, true, true, true, true, true, true, true, true, true, true, true, false, false, false, false, false, false, false, false, false, false, false, false, false, false, false, false, false] rfl rfl (any_of HT_.out (by kernel_rfl)) (fun _ _ _ h => h) (Or.inl ⟨by rfl, ?_⟩) ?_ ?_
        rotate_left
        · intro w'
          go_simp
          with_reducible rfl
        rotate_left
        · simp only [Act.put, List.setIfInBounds_toArray, List.set_cons_zero, List.set_cons_succ, i64_w, i32_w]
          rfl
        refine pure_ (i := 24) (N := some 48) (v := ?_) (a' := ?_) #[true, true, true, true, true, true, true, true, true, true, true, true, true, true, true, true, true, true, true, true, true, true, true, true, true, false, false, false, false, false, false, false, false, false, false, false, false, false, false, false, false] rfl rfl (any_of HT_.out (by kernel_rfl)) (fun _ _ _ h => h) (Or.inl ⟨by rfl, ?_⟩) ?_ ?_
        rotate_left
        · intro w'
          go_simp
          with_reducible rfl
        rotate_left
        · simp only [Act.put, List.setIfInBounds_toArray, List.set_cons_zero, List.set_cons_succ, i64_w, i32_w]
          rfl
        refine pure_ (i := 25) (N := some 49) (v := ?_) (a' := ?_) #[true, true, true, true, true, true, true, true, true, true, true, true, true, true, true, true, true, true, true, true, true, true, true, true, true, true, false, false, false, false, false, false, false, false, false, false, false, false, false, false, false] rfl rfl (any_of HT_.out (by kernel_rfl)) (fun _ _ _ h => h) (Or.inl ⟨by rfl, ?_⟩) ?_ ?_
        rotate_left
        · intro w'
          go_simp
          with_reducible rfl
        rotate_left
        · simp only [Act.put, List.setIfInBounds_toArray, List.set_cons_zero, List.set_cons_succ, i64_w, i32_w]
          rfl
        refine take_ (i := 26) (N := some 50) (v := ?_) (a' := ?_) #[true, true, true, true, true, true, true, true, true, true, true, true, true, true, true, true, true, true, true, true, true, true, true, true, true, true, true, false, false, false, false, false, false, false, false, false, false, false, false, false, false] rfl rfl (take_ofW HT_.out HW_.out (by kernel_rfl)) (fun _ _ _ h => h) (Or.inl ⟨by rfl, ?_⟩) hHeld ?_ ?_
        rotate_left
        · rintro w' ⟨s0, s1, s2, s3⟩
          go_simp
          with_reducible rfl
        rotate_left
        · simp only [Act.put, List.setIfInBounds_toArray, List.set_cons_zero, List.set_cons_succ, i64_w, i32_w]
          rfl
        refine pure_ (i := 27) (N := some 51) (v := ?_) (a' := ?_) #[true, true, true, true, true, true, true, true, true, true, true, true, true, true, true, true, true, true, true, true, true, true, true, true, true, true, true, true, false, false, false, false, false, false, false, false, false, false, false, false, false] rfl rfl (any_of HT_.out (by kernel_rfl)) (fun _ _ _ h => h) (Or.inl ⟨by rfl, ?_⟩) ?_ ?_
        rotate_left
        · intro w'
          go_simp
          with_reducible rfl
        rotate_left
        · simp only [Act.put, List.setIfInBounds_toArray, List.set_cons_zero, List.set_cons_succ, i64_w, i32_w]
          rfl
        refine pure_ (i := 30) (N := some 54) (v := ?_) (a' := ?_) #[true, true, true, true, true, true, true, true, true, true, true, true, true, true, true, true, true, true, true, true, true, true, true, true, true, true, true, true, false, false, true, false, false, false, false, false, false, false, false, false, false] rfl rfl (any_of HT_.out (by kernel_rfl)) (fun _ _ _ h => h) (Or.inl ⟨by rfl, ?_⟩) ?_ ?_
        rotate_left
        · intro w'
          go_simp
          with_reducible rfl
        rotate_left
        · simp only [Act.put, List.setIfInBounds_toArray, List.set_cons_zero, List.set_cons_succ, i64_w, i32_w]
          rfl
        refine pure_ (i := 31) (N := some 55) (v := ?_) (a' := ?_) #[true, true, true, true, true, true, true, true, true, true, true, true, true, true, true, true, true, true, true, true, true, true, true, true, true, true, true, true, false, false, true, true, false, false, false, false, false, false, false, false, false] rfl rfl (any_of HT_.out (by kernel_rfl)) (fun _ _ _ h => h) (Or.inl ⟨by rfl, ?_⟩) ?_ ?_
        rotate_left
        · intro w'
          go_simp
          with_reducible rfl
        rotate_left
        · simp only [Act.put, List.setIfInBounds_toArray, List.set_cons_zero, List.set_cons_succ, i64_w, i32_w]
          rfl
        refine pure_ (i := 32) (N := some 56) (v := ?_) (a' := ?_) #[true, true, true, true, true, true, true, true, true, true, true, true, true, true, true, true, true, true, true, true, true, true, true, true, true, true, true, true, false, false, true, true, true, false, false, false, false, false, false, false, false] rfl rfl (any_of HT_.out (by kernel_rfl)) (fun _ _ _ h => h) (Or.inl ⟨by rfl, ?_⟩) ?_ ?_
        rotate_left
        · intro w'
          go_simp
          with_reducible rfl
        rotate_left
        · simp only [Act.put, List.setIfInBounds_toArray, List.set_cons_zero, List.set_cons_succ, i64_w, i32_w]
          rfl
        refine pure_ (i := 33) (N := some 57) (v := ?_) (a' := ?_) #[true, true, true, true, true, true, true, true, true, true, true, true, true, true, true, true, true, true, true, true, true, true, true, true, true, true, true, true, false, false, true, true, true, true, false, false, false, false, false, false, false] rfl rfl (any_of HT_.out (by kernel_rfl)) (fun _ _ _ h => h) (Or.inl ⟨by rfl, ?_⟩) ?_ ?_
        rotate_left
        · intro w'
          go_simp
          with_reducible rfl
        rotate_left
        · simp only [Act.put, List.setIfInBounds_toArray, List.set_cons_zero, List.set_cons_succ, i64_w, i32_w]
          rfl
        refine take_ (i := 34) (N := some 58) (v := ?_) (a' := ?_) #[true, true, true, true, true, true, true, true, true, true, true, true, true, true, true, true, true, true, true, true, true, true, true, true, true, true, true, true, false, false, true, true, true, true, true, false, false, false, false, false, false] rfl rfl (take_ofW HT_.out HW_.out (by kernel_rfl)) (fun _ _ _ h => h) (Or.inl ⟨by rfl, ?_⟩) hHeld ?_ ?_
        rotate_left
        · rintro w' ⟨s0, s1, s2, s3⟩
          go_simp
          with_reducible rfl
        rotate_left
        · simp only [Act.put, List.setIfInBounds_toArray, List.set_cons_zero, List.set_cons_succ, i64_w, i32_w]
          rfl
        refine pure_ (i := 35) (N := some 59) (v := ?_) (a' := ?_) #[true, true, true, true, true, true, true, true, true, true, true, true, true, true, true, true, true, true, true, true, true, true, true, true, true, true, true, true, false, false, true, true, true, true, true, true, false, false, false, false, false] rfl rfl (any_of HT_.out (by kernel_rfl)) (fun _ _ _ h => h) (Or.inl ⟨by rfl, ?_⟩) ?_ ?_
        rotate_left
        · intro w'
          go_simp
          with_reducible rfl
        rotate_left
        · simp only [Act.put, List.setIfInBounds_toArray, List.set_cons_zero, List.set_cons_succ, i64_w, i32_w]
          rfl
        refine pure_ (i := 36) (N := some 60) (v := ?_) (a' := ?_) #[true, true, true, true, true, true, true, true, true, true, true, true, true, true, true, true, true, true, true, true, true, true, true, true, true, true, true, true, false, false, true, true, true, true, true, true, true, false, false, false, false] rfl rfl (any_of HT_.out (by kernel_rfl)) (fun _ _ _ h => h) (Or.inl ⟨by rfl, ?_⟩) ?_ ?_
        rotate_left
        · intro w'
          go_simp
          with_reducible rfl
        rotate_left
        · simp only [Act.put, List.setIfInBounds_toArray, List.set_cons_zero, List.set_cons_succ, i64_w, i32_w]
          rfl
        refine pure_ (i := 37) (N := some 61) (v := ?_) (a' := ?_) #[true, true, true, true, true, true, true, true, true, true, true, true, true, true, true, true, true, true, true, true, true, true, true, true, true, true, true, true, false, false, true, true, true, true, true, true, true, true, false, false, false] rfl rfl (any_of HT_.out (by kernel_rfl)) (fun _ _ _ h => h) (Or.inl ⟨by rfl, ?_⟩) ?_ ?_
        rotate_left
        · intro w'
          go_simp
          with_reducible rfl
        rotate_left
        · simp only [Act.put, List.setIfInBounds_toArray, List.set_cons_zero, List.set_cons_succ, i64_w, i32_w]
          rfl
        refine join_ (σ := Unit) 1 #[true, true, true, true, true, true, true, true, true, true, true, true, true, true, true, true, true, true, true, true, true, true, true, true, true, true, true, true, true, true, true, true, true, true, true, true, true, true, true, true, false] (fun _ => [(52, .bool mr), (53, .bool (!mr)), (62, .agg #[.bool false, .bool r1, .bool false, .bool (!mr), .bool bt]), (6, .pointer (some ⟨wr.heap.size, 0, none⟩))]) (fun _ w' => w' = W1) ?_ (fun hcont => ?_)
        rotate_left
        · have hc := hcont () W1 rfl
          simp only [putAll, Act.put, List.setIfInBounds_toArray, List.set_cons_zero, List.set_cons_succ] at hc
          clear hcont
          refine two_ (i := 28) (j := 39) (Ni := some 52) (Nj := some 6) #[true, true, true, true, true, true, true, true, true, true, true, true, true, true, true, true, true, true, true, true, true, true, true, true, true, true, true, true, true, false, true, true, true, true, true, true, true, true, false, false, false] #[true, true, true, true, true, true, true, true, true, true, true, true, true, true, true, true, true, true, true, true, true, true, true, true, true, true, true, true, false, false, true, true, true, true, true, true, true, true, false, true, false] rfl rfl rfl rfl (two_of HT_.out (by kernel_rfl)) (by decide) (by decide) (fun Kc hKc => ?_) (fun Kc hKc => ?_)
          · refine goes_ Tryz.func37 (by kernel_rfl) rfl #[.pointer (some ⟨b, 0, none⟩), .int .i64 K, .int .i64 ((q + 1 : Nat) : Int)] (by rfl) rfl rfl (by (try simp only [List.map_toArray, List.map_cons, List.map_nil]); first | done | rfl) ?_
            refine (HM0.out).mono ?_
            rintro e w1 ⟨rfl, rfl⟩
            refine ⟨_, rfl, ?_⟩
            refine hKc.out _ _ hHeld (fun hHeld => ?_)
            clear hKc Kc
            refine norm_ (a' := ?_) ?_ ?_
            rotate_left
            · show Act.put _ (some 52) _ = _
              simp only [Act.put, List.setIfInBounds_toArray, List.set_cons_zero, List.set_cons_succ, i64_w, i32_w]
              rfl
            refine pure_ (i := 29) (N := some 53) (v := ?_) (a' := ?_) #[true, true, true, true, true, true, true, true, true, true, true, true, true, true, true, true, true, true, true, true, true, true, true, true, true, true, true, true, true, true, true, true, true, true, true, true, true, true, false, false, false] rfl rfl (any_of HT_.out (by kernel_rfl)) (fun _ _ _ h => h) (Or.inl ⟨by rfl, ?_⟩) ?_ ?_
            rotate_left
            · intro w'
              go_simp
              with_reducible rfl
            rotate_left
            · simp only [Act.put, List.setIfInBounds_toArray, List.set_cons_zero, List.set_cons_succ, i64_w, i32_w]
              rfl
            refine pure_ (i := 38) (N := some 62) (v := ?_) (a' := ?_) #[true, true, true, true, true, true, true, true, true, true, true, true, true, true, true, true, true, true, true, true, true, true, true, true, true, true, true, true, true, true, true, true, true, true, true, true, true, true, true, false, false] rfl rfl (any_of HT_.out (by kernel_rfl)) (fun _ _ _ h => h) (Or.inl ⟨by rfl, ?_⟩) ?_ ?_
            rotate_left
            · intro w'
              go_simp
              with_reducible rfl
            rotate_left
            · simp only [Act.put, List.setIfInBounds_toArray, List.set_cons_zero, List.set_cons_succ, i64_w, i32_w]
              rfl
            refine one_ (i := 39) (N := some 6) #[true, true, true, true, true, true, true, true, true, true, true, true, true, true, true, true, true, true, true, true, true, true, true, true, true, true, true, true, true, true, true, true, true, true, true, true, true, true, true, true, false] rfl rfl (one_of HT_.out (by kernel_rfl)) (by decide) (fun Kc hKc => ?_)
            refine value_ (w1 := W1) (v := .pointer (some ⟨wr.heap.size, 0, none⟩)) (by rfl) rfl ?_ ?_
            · rw [HW1.out]
              go_simp
              try rfl
            refine hKc.out _ _ HS1.out (fun hHeld => ?_)
            clear hKc Kc
            refine norm_ (a' := ?_) ?_ ?_
            rotate_left
            · show Act.put _ (some 6) _ = _
              simp only [Act.put, List.setIfInBounds_toArray, List.set_cons_zero, List.set_cons_succ, i64_w, i32_w]
              rfl
            exact hc
          · refine value_ (w1 := W1) (v := .pointer (some ⟨wr.heap.size, 0, none⟩)) (by rfl) rfl ?_ ?_
            · rw [HW1.out]
              go_simp
              try rfl
            refine hKc.out _ _ HS1.out (fun hHeld => ?_)
            clear hKc Kc
            refine norm_ (a' := ?_) ?_ ?_
            rotate_left
            · show Act.put _ (some 6) _ = _
              simp only [Act.put, List.setIfInBounds_toArray, List.set_cons_zero, List.set_cons_succ, i64_w, i32_w]
              rfl
            refine one_ (i := 28) (N := some 52) #[true, true, true, true, true, true, true, true, true, true, true, true, true, true, true, true, true, true, true, true, true, true, true, true, true, true, true, true, true, false, true, true, true, true, true, true, true, true, false, true, false] rfl rfl (one_of HT_.out (by kernel_rfl)) (by decide) (fun Kc hKc => ?_)
            refine goes_ Tryz.func37 (by kernel_rfl) rfl #[.pointer (some ⟨b, 0, none⟩), .int .i64 K, .int .i64 ((q + 1 : Nat) : Int)] (by rfl) rfl rfl (by (try simp only [List.map_toArray, List.map_cons, List.map_nil]); first | done | rfl) ?_
            refine (HM1.out).mono ?_
            rintro e w1 ⟨rfl, rfl⟩
            refine ⟨_, rfl, ?_⟩
            refine hKc.out _ _ hHeld (fun hHeld => ?_)
            clear hKc Kc
            refine norm_ (a' := ?_) ?_ ?_
            rotate_left
            · show Act.put _ (some 52) _ = _
              simp only [Act.put, List.setIfInBounds_toArray, List.set_cons_zero, List.set_cons_succ, i64_w, i32_w]
              rfl
            refine pure_ (i := 29) (N := some 53) (v := ?_) (a' := ?_) #[true, true, true, true, true, true, true, true, true, true, true, true, true, true, true, true, true, true, true, true, true, true, true, true, true, true, true, true, true, true, true, true, true, true, true, true, true, true, false, true, false] rfl rfl (any_of HT_.out (by kernel_rfl)) (fun _ _ _ h => h) (Or.inl ⟨by rfl, ?_⟩) ?_ ?_
            rotate_left
            · intro w'
              go_simp
              with_reducible rfl
            rotate_left
            · simp only [Act.put, List.setIfInBounds_toArray, List.set_cons_zero, List.set_cons_succ, i64_w, i32_w]
              rfl
            refine pure_ (i := 38) (N := some 62) (v := ?_) (a' := ?_) #[true, true, true, true, true, true, true, true, true, true, true, true, true, true, true, true, true, true, true, true, true, true, true, true, true, true, true, true, true, true, true, true, true, true, true, true, true, true, true, true, false] rfl rfl (any_of HT_.out (by kernel_rfl)) (fun _ _ _ h => h) (Or.inl ⟨by rfl, ?_⟩) ?_ ?_
            rotate_left
            · intro w'
              go_simp
              with_reducible rfl
            rotate_left
            · simp only [Act.put, List.setIfInBounds_toArray, List.set_cons_zero, List.set_cons_succ, i64_w, i32_w]
              rfl
            exact hc
        rintro _ _ rfl
        have hHeld := HS1.out
        refine norm_ (a' := ?_) ?_ ?_
        rotate_left
        · show putAll _ _ = _
          simp only [putAll, Act.put, List.setIfInBounds_toArray, List.set_cons_zero, List.set_cons_succ]
          rfl
        refine last_ (i := 40) (N := none) #[true, true, true, true, true, true, true, true, true, true, true, true, true, true, true, true, true, true, true, true, true, true, true, true, true, true, true, true, true, true, true, true, true, true, true, true, true, true, true, true, true] rfl rfl (one_of HT_.out (by kernel_rfl)) (by decide) (fun Kc hKc => ?_)
        refine skip_ (w1 := W2) (by rfl) rfl ?_ ?_
        · rw [HW1.out, HW2.out]; go_simp
          try rfl
        refine hKc.out _ _ ?_
        clear hKc Kc
        refine done_ (done_of HT_.out (by kernel_rfl)) ?_
        -- END 1
        have e2 := HW2.out
        clear HW2 HS0 HS1 HM0 HM1 HW1 hbt hbt1 hr1 hz hz2 hw4 hqn hw1 hw3 hi0 hi1
        subst e2
        cases r1 <;> cases mr
        · go_wp2_with (first
            | (go_at_call 38; go_must (refine (body (KP.out _) (q + 1) K p t false false false true bt HX.out.1 HX.out.2.1 (by have := FF.out.n; omega) FF.out.h5 FF.out.h8 HCS.out (by have := HX.out; omega) (by have := HX.out.2.2.2.2.2; omega) (Nat.le_trans (bullet_size _ _ _ _ _ _ _ _ _ _ _ _ FF.out.h1 FF.out.h2 FF.out.h3 FF.out.h4 FF.out.h6) (by omega)) HX.out.2.2.2.2.1 HX.out.2.2.2.1).mono ?_; rintro e w4 ⟨rfl, R4⟩)))
          go_roundw
          case rel => exact ⟨(q + 1) + 1, hlt, by first | rfl | simp, ⟨by rw [← HL.out]; exact R4⟩⟩
          case measure => simp [RowKit.intOf]; omega
        · go_wp2_with (first
            | (go_at_call 38; go_must (refine (body (KP.out _) (q + 1) K p t false false false false bt HX.out.1 HX.out.2.1 (by have := FF.out.n; omega) FF.out.h5 FF.out.h8 HCS.out (by have := HX.out; omega) (by have := HX.out.2.2.2.2.2; omega) (Nat.le_trans (bullet_size _ _ _ _ _ _ _ _ _ _ _ _ FF.out.h1 FF.out.h2 FF.out.h3 FF.out.h4 FF.out.h6) (by omega)) HX.out.2.2.2.2.1 HX.out.2.2.2.1).mono ?_; rintro e w4 ⟨rfl, R4⟩)))
          go_roundw
          case rel => exact ⟨(q + 1) + 1, hlt, by first | rfl | simp, ⟨by rw [← HL.out]; exact R4⟩⟩
          case measure => simp [RowKit.intOf]; omega
        · go_wp2_with (first
            | (go_at_call 38; go_must (refine (body (KP.out _) (q + 1) K p t false true true true bt HX.out.1 HX.out.2.1 (by have := FF.out.n; omega) FF.out.h5 FF.out.h8 HCS.out (by have := HX.out; omega) (by have := HX.out.2.2.2.2.2; omega) (Nat.le_trans (bullet_size _ _ _ _ _ _ _ _ _ _ _ _ FF.out.h1 FF.out.h2 FF.out.h3 FF.out.h4 FF.out.h6) (by omega)) HX.out.2.2.2.2.1 HX.out.2.2.2.1).mono ?_; rintro e w4 ⟨rfl, R4⟩)))
          go_roundw
          case rel => exact ⟨(q + 1) + 1, hlt, by first | rfl | simp, ⟨by rw [← HL.out]; exact R4⟩⟩
          case measure => simp [RowKit.intOf]; omega
        · go_wp2_with (first
            | (go_at_call 38; go_must (refine (body (KP.out _) (q + 1) K p t false true false false bt HX.out.1 HX.out.2.1 (by have := FF.out.n; omega) FF.out.h5 FF.out.h8 HCS.out (by have := HX.out; omega) (by have := HX.out.2.2.2.2.2; omega) (Nat.le_trans (bullet_size _ _ _ _ _ _ _ _ _ _ _ _ FF.out.h1 FF.out.h2 FF.out.h3 FF.out.h4 FF.out.h6) (by omega)) HX.out.2.2.2.2.1 HX.out.2.2.2.1).mono ?_; rintro e w4 ⟨rfl, R4⟩)))
          go_roundw
          case rel => exact ⟨(q + 1) + 1, hlt, by first | rfl | simp, ⟨by rw [← HL.out]; exact R4⟩⟩
          case measure => simp [RowKit.intOf]; omega
    · have hd : decide ((j : Int) < (n : Int)) = false := by simp; omega
      obtain rfl : j = n := by omega
      go_wp2_with (first
        | (go_at_call 39; go_must (refine (last_text _ w1.heap.size w1.heap.size _ _ RJ.out.bl RJ.out.below.size).mono ?_; rintro e w5 ⟨rfl, hb5⟩)))
      go_ret
      exact ⟨by first | (rw [← HN.out]; done) | (rw [← HN.out]; rfl), m, css', IA.out.kept (RJ.out.below.trans hb5)⟩
end Go.Proofs.YthjkmjimlhpbfaaGreatDoor.Lre
