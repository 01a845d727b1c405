/- The walk of FnStyleSymbols. -/
import Derived.Test.YtpceflnbomegiaaSw
import Derived.Test.YtpceflnbomegiaaSb
import Derived.BigQuiet
import Derived.Deep.QuietTactic
namespace Go.Proofs.Ytpceflnbomegiaa.Sl
open Go.RowKit Go.Proofs.Ytpceflnbomegiaa.Sz Go.Proofs.Ytpceflnbomegiaa.GSyBody Go.Proofs.YtpceflnbomegiaaW.PrintWords Go.Proofs.Ytpceflnbomegiaa.Sw Go.Proofs.Ytpceflnbomegiaa.Sy
def nms : List ByteArray := spec_TwStyles.f.getD []
theorem nms_len : nms.length = 45 := by kernel_rfl
theorem styles : spec_TwStyles.f = some nms := by kernel_rfl

theorem nil_nil (w : World) : (binOp .eql 22 (.slice none 0 0) (.slice none 0 0)).run Try.prog w = .ok (.bool true) w := by kernel_rfl
theorem nil_not (w : World) (ad : Addr) (c : Nat) : (binOp .eql 22 (.slice (some ad) 14 c) (.slice none 0 0)).run Try.prog w = .ok (.bool false) w := by kernel_rfl
theorem box14 (K : Nat) (nm : ByteArray) (P : List ByteArray) (w : World) (hP14 : P.length = 14) (hB : spec_TwBoxes.f K nm = some P) :
    Calls Try.prog 6 #[.string nm] w fun e w' => ∃ ad4 c4, e = .returned (.slice (some ad4) 14 c4) ∧ 14 ≤ c4 ∧ Kd.C Kd.string w' (some ad4) 14 P ∧ Below w.heap.size w w' := by
  refine (spec_TwBoxes.calls K nm P w hB).mono ?_
  rintro e w4 ⟨v4, rfl, hR4, hb4⟩
  obtain ⟨A4, c4, rfl, hc4, hC4⟩ := Kd.R_reads hR4
  obtain ⟨ad4, rfl, _⟩ := Kd.at_string hC4 (0 : Int) (by omega) (by rw [hP14]; omega)
  rw [hP14] at hC4 hc4
  exact ⟨ad4, c4, by rw [hP14], hc4, hC4, hb4⟩
theorem texts14 (k : Nat) (A0 A1 : Option Addr) (c0 c1 : Nat) (l0 l1 : List ByteArray) (r : Bool) (w : World) (h0 : l0.length = 14) (h1 : l1.length = 14) (hr0 : Kd.C Kd.string w A0 14 l0) (hc0 : 14 ≤ c0) (hr1 : Kd.C Kd.string w A1 14 l1) (hc1 : 14 ≤ c1) (h : spec_TwTexts.f k l0 l1 = some r) :
    Calls Try.prog 7 #[.slice A0 14 c0, .slice A1 14 c1] w fun e w' => e = .returned (.bool r) ∧ Drawn0 w w' := by
  have := spec_TwTexts.calls k A0 c0 l0 A1 c1 l1 r w (by rw [h0]; exact hr0) (by omega) (by rw [h1]; exact hr1) (by omega) h
  rwa [h0, h1] at this
set_option maxRecDepth 100000 in
set_option maxHeartbeats 1000000 in
theorem walk_a (n : Int) (k : Nat) (hk : k < 45) (hrem : (wrap64 n).tmod (nms.length : Int) = (k : Int)) (nm s0 : ByteArray) (hnm : Aside0 (nms.getD k ByteArray.empty = nm)) (hs0 : Aside0 ((gl k).getD 0 ByteArray.empty = s0)) (g1 : nm.toList.isEmpty = false) (g2 : (s0.toList == nm.toList) = true) (hbox : Aside0 (∀ w, Calls Try.prog 6 #[.string nm] w fun e w' => e = .returned (.slice none 0 0) ∧ Below w.heap.size w w')) (w : World) :
    Calls Try.prog 3 #[.int .u8 n] w fun e w' => e = .returned (.bool true) ∧ Below w.heap.size w w' := by
  have hn1 := nil_nil
  have hn2 := nil_not
  go_enter Try.func3, Try.ntmps3
  go_wp2_with (first
    | (go_at_call 4; refine (spec_TwStyles.calls nms _ styles).mono ?_; rintro e w1 ⟨v1, rfl, hR1, hb1⟩; obtain ⟨A1, c1, rfl, hc1, hC1⟩ := Kd.R_reads hR1)
    | (go_at_call 5; refine (Sw.of k hk _).mono ?_; rintro e w2 ⟨A2, rfl, hC2, hb2⟩
       rw [hs0.out]
       have hC12 := Kd.C_below hC1 hb2
       obtain ⟨ad1, rfl, hc0⟩ := Kd.at_string (Kd.C_below hC1 hb2) (k : Int) (by omega) (by rw [nms_len]; omega)
       have hx : ∀ o, (w2.alloc o).cell? (ad1.add k) = some (.string nm) := fun o => by
         obtain ⟨ad, ea, h⟩ := Kd.at_string (Kd.C_alloc (Kd.C_below hC1 hb2) o) (k : Int) (by omega) (by rw [nms_len]; omega)
         obtain rfl := Option.some.inj ea
         rw [rdOf, Int.toNat_natCast, hnm.out] at h
         exact h
       clear hc0
       have hkl : k < nms.length := by rw [nms_len]; exact hk)
    )
  go_quiet (fail)
  go_wp2_with (first
    | (go_at_call 6; refine (hbox.out _).mono ?_; rintro e w4 ⟨rfl, hb4⟩))
  go_ret
  have h1 := hb1.size
  have h2 := hb2.size
  have H3 := (hb1.trans (hb2.mono h1)).alloc (Nat.le_trans h1 h2) (.cells #[.string s0, .slice A2 14 14] 25)
  have H4 := pw_below_drewN H3 nq
  exact ⟨rfl, H4.trans (hb4.mono H4.size)⟩
set_option maxRecDepth 100000 in
set_option maxHeartbeats 1000000 in
theorem walk_b (n : Int) (k : Nat) (hk : k < 45) (hrem : (wrap64 n).tmod (nms.length : Int) = (k : Int)) (nm s0 : ByteArray) (hnm : Aside0 (nms.getD k ByteArray.empty = nm)) (hs0 : Aside0 ((gl k).getD 0 ByteArray.empty = s0)) (g1 : nm.toList.isEmpty = true) (hbox : Aside0 (∀ w, Calls Try.prog 6 #[.string nm] w fun e w' => e = .returned (.slice none 0 0) ∧ Below w.heap.size w w')) (w : World) :
    Calls Try.prog 3 #[.int .u8 n] w fun e w' => e = .returned (.bool true) ∧ Below w.heap.size w w' := by
  have hn1 := nil_nil
  have hn2 := nil_not
  go_enter Try.func3, Try.ntmps3
  go_wp2_with (first
    | (go_at_call 4; refine (spec_TwStyles.calls nms _ styles).mono ?_; rintro e w1 ⟨v1, rfl, hR1, hb1⟩; obtain ⟨A1, c1, rfl, hc1, hC1⟩ := Kd.R_reads hR1)
    | (go_at_call 5; refine (Sw.of k hk _).mono ?_; rintro e w2 ⟨A2, rfl, hC2, hb2⟩
       rw [hs0.out]
       have hC12 := Kd.C_below hC1 hb2
       obtain ⟨ad1, rfl, hc0⟩ := Kd.at_string (Kd.C_below hC1 hb2) (k : Int) (by omega) (by rw [nms_len]; omega)
       have hx : ∀ o, (w2.alloc o).cell? (ad1.add k) = some (.string nm) := fun o => by
         obtain ⟨ad, ea, h⟩ := Kd.at_string (Kd.C_alloc (Kd.C_below hC1 hb2) o) (k : Int) (by omega) (by rw [nms_len]; omega)
         obtain rfl := Option.some.inj ea
         rw [rdOf, Int.toNat_natCast, hnm.out] at h
         exact h
       clear hc0
       have hkl : k < nms.length := by rw [nms_len]; exact hk)
    )
  go_quiet (fail)
  go_wp2_with (first
    | (go_at_call 6; refine (hbox.out _).mono ?_; rintro e w4 ⟨rfl, hb4⟩))
  go_ret
  have h1 := hb1.size
  have h2 := hb2.size
  have H3 := (hb1.trans (hb2.mono h1)).alloc (Nat.le_trans h1 h2) (.cells #[.string s0, .slice A2 14 14] 25)
  have H4 := pw_below_drewN H3 nq
  exact ⟨rfl, H4.trans (hb4.mono H4.size)⟩
set_option maxRecDepth 100000 in
set_option maxHeartbeats 1000000 in
theorem walk_c (n : Int) (k : Nat) (hk : k < 45) (hrem : (wrap64 n).tmod (nms.length : Int) = (k : Int)) (nm s0 : ByteArray) (hnm : Aside0 (nms.getD k ByteArray.empty = nm)) (hs0 : Aside0 ((gl k).getD 0 ByteArray.empty = s0)) (g1 : nm.toList.isEmpty = false) (g2 : (s0.toList == nm.toList) = true) (P : List ByteArray) (hP : Aside0 (parts (gl k) = P)) (hP14 : Aside0 (P.length = 14)) (K K2 : Nat) (hB : Aside0 (spec_TwBoxes.f K nm = some P)) (hT : Aside0 (spec_TwTexts.f K2 P P = some true)) (w : World) :
    Calls Try.prog 3 #[.int .u8 n] w fun e w' => e = .returned (.bool true) ∧ Below w.heap.size w w' := by
  have hn1 := nil_nil
  have hn2 := nil_not
  go_enter Try.func3, Try.ntmps3
  go_wp2_with (first
    | (go_at_call 4; refine (spec_TwStyles.calls nms _ styles).mono ?_; rintro e w1 ⟨v1, rfl, hR1, hb1⟩; obtain ⟨A1, c1, rfl, hc1, hC1⟩ := Kd.R_reads hR1)
    | (go_at_call 5; refine (Sw.of k hk _).mono ?_; rintro e w2 ⟨A2, rfl, hC2, hb2⟩
       rw [hs0.out]
       rw [hP.out] at hC2
       have hC12 := Kd.C_below hC1 hb2
       obtain ⟨ad1, rfl, hc0⟩ := Kd.at_string (Kd.C_below hC1 hb2) (k : Int) (by omega) (by rw [nms_len]; omega)
       have hx : ∀ o, (w2.alloc o).cell? (ad1.add k) = some (.string nm) := fun o => by
         obtain ⟨ad, ea, h⟩ := Kd.at_string (Kd.C_alloc (Kd.C_below hC1 hb2) o) (k : Int) (by omega) (by rw [nms_len]; omega)
         obtain rfl := Option.some.inj ea
         rw [rdOf, Int.toNat_natCast, hnm.out] at h
         exact h
       clear hc0
       have hkl : k < nms.length := by rw [nms_len]; exact hk)
    )
  go_quiet (fail)
  go_wp2_with (first
    | (go_at_call 6; refine (box14 K nm P _ hP14.out hB.out).mono ?_; rintro e w4 ⟨ad4, c4, rfl, hc4, hC4, hb4⟩
       have z1 : w4.cell? ⟨w2.heap.size, 1, none⟩ = some (.slice A2 14 14) := by
         have hh : w4.heap[w2.heap.size]? = some (.cells #[.string s0, .slice A2 14 14] 25 (0, 0)) := (hb4.block _ (lt_of_get (show ((w2.alloc (.cells #[.string s0, .slice A2 14 14] 25)).drewN nq).heap[w2.heap.size]? = _ from get_alloc_self w2 _))).trans (get_alloc_self w2 _)
         rw [Lib.cell_of_heap hh]; rfl
       have hC24 := Kd.C_below (Kd.C_drewN (Kd.C_alloc hC2 (.cells #[.string s0, .slice A2 14 14] 25)) nq) hb4
       have := hb4.size)
    | (go_at_call 7; refine (texts14 K2 A2 (some ad4) 14 c4 P P true _ hP14.out hP14.out hC24 (Nat.le_refl _) hC4 hc4 hT.out).mono ?_; rintro e w5 ⟨rfl, hb5⟩))
  go_ret
  have h1 := hb1.size
  have h2 := hb2.size
  have H3 := (hb1.trans (hb2.mono h1)).alloc (Nat.le_trans h1 h2) (.cells #[.string s0, .slice A2 14 14] 25)
  have H4 := pw_below_drewN H3 nq
  have H5 := H4.trans (hb4.mono H4.size)
  exact ⟨rfl, H5.trans (hb5.below.mono H5.size)⟩
def Good (k : Nat) : Prop := ∀ (n : Int) (w : World), (wrap64 n).tmod (nms.length : Int) = (k : Int) → Calls Try.prog 3 #[.int .u8 n] w fun e w' => e = .returned (.bool true) ∧ Below w.heap.size w w'
theorem good0 : Good 0 := fun n w h => walk_c n 0 (by decide) h (nms.getD 0 ByteArray.empty) ((gl 0).getD 0 ByteArray.empty) (Aside0.mk rfl) (Aside0.mk rfl) (by kernel_rfl) (by kernel_rfl) (parts (gl 0)) (Aside0.mk rfl) (Aside0.mk (by kernel_rfl)) 60 60 (Aside0.mk (by kernel_rfl)) (Aside0.mk (by kernel_rfl)) w
theorem good1 : Good 1 := fun n w h => walk_c n 1 (by decide) h (nms.getD 1 ByteArray.empty) ((gl 1).getD 0 ByteArray.empty) (Aside0.mk rfl) (Aside0.mk rfl) (by kernel_rfl) (by kernel_rfl) (parts (gl 1)) (Aside0.mk rfl) (Aside0.mk (by kernel_rfl)) 60 60 (Aside0.mk (by kernel_rfl)) (Aside0.mk (by kernel_rfl)) w
theorem good2 : Good 2 := fun n w h => walk_c n 2 (by decide) h (nms.getD 2 ByteArray.empty) ((gl 2).getD 0 ByteArray.empty) (Aside0.mk rfl) (Aside0.mk rfl) (by kernel_rfl) (by kernel_rfl) (parts (gl 2)) (Aside0.mk rfl) (Aside0.mk (by kernel_rfl)) 60 60 (Aside0.mk (by kernel_rfl)) (Aside0.mk (by kernel_rfl)) w
theorem good3 : Good 3 := fun n w h => walk_c n 3 (by decide) h (nms.getD 3 ByteArray.empty) ((gl 3).getD 0 ByteArray.empty) (Aside0.mk rfl) (Aside0.mk rfl) (by kernel_rfl) (by kernel_rfl) (parts (gl 3)) (Aside0.mk rfl) (Aside0.mk (by kernel_rfl)) 60 60 (Aside0.mk (by kernel_rfl)) (Aside0.mk (by kernel_rfl)) w
theorem good4 : Good 4 := fun n w h => walk_c n 4 (by decide) h (nms.getD 4 ByteArray.empty) ((gl 4).getD 0 ByteArray.empty) (Aside0.mk rfl) (Aside0.mk rfl) (by kernel_rfl) (by kernel_rfl) (parts (gl 4)) (Aside0.mk rfl) (Aside0.mk (by kernel_rfl)) 60 60 (Aside0.mk (by kernel_rfl)) (Aside0.mk (by kernel_rfl)) w
theorem good5 : Good 5 := fun n w h => walk_a n 5 (by decide) h (nms.getD 5 ByteArray.empty) ((gl 5).getD 0 ByteArray.empty) (Aside0.mk rfl) (Aside0.mk rfl) (by kernel_rfl) (by kernel_rfl) (Aside0.mk (Sb.nil (nms.getD 5 ByteArray.empty) (by kernel_rfl) (by kernel_rfl) (by kernel_rfl) (by kernel_rfl) (by kernel_rfl) (by kernel_rfl))) w
theorem good6 : Good 6 := fun n w h => walk_a n 6 (by decide) h (nms.getD 6 ByteArray.empty) ((gl 6).getD 0 ByteArray.empty) (Aside0.mk rfl) (Aside0.mk rfl) (by kernel_rfl) (by kernel_rfl) (Aside0.mk (Sb.nil (nms.getD 6 ByteArray.empty) (by kernel_rfl) (by kernel_rfl) (by kernel_rfl) (by kernel_rfl) (by kernel_rfl) (by kernel_rfl))) w
theorem good7 : Good 7 := fun n w h => walk_a n 7 (by decide) h (nms.getD 7 ByteArray.empty) ((gl 7).getD 0 ByteArray.empty) (Aside0.mk rfl) (Aside0.mk rfl) (by kernel_rfl) (by kernel_rfl) (Aside0.mk (Sb.nil (nms.getD 7 ByteArray.empty) (by kernel_rfl) (by kernel_rfl) (by kernel_rfl) (by kernel_rfl) (by kernel_rfl) (by kernel_rfl))) w
theorem good8 : Good 8 := fun n w h => walk_a n 8 (by decide) h (nms.getD 8 ByteArray.empty) ((gl 8).getD 0 ByteArray.empty) (Aside0.mk rfl) (Aside0.mk rfl) (by kernel_rfl) (by kernel_rfl) (Aside0.mk (Sb.nil (nms.getD 8 ByteArray.empty) (by kernel_rfl) (by kernel_rfl) (by kernel_rfl) (by kernel_rfl) (by kernel_rfl) (by kernel_rfl))) w
theorem good9 : Good 9 := fun n w h => walk_a n 9 (by decide) h (nms.getD 9 ByteArray.empty) ((gl 9).getD 0 ByteArray.empty) (Aside0.mk rfl) (Aside0.mk rfl) (by kernel_rfl) (by kernel_rfl) (Aside0.mk (Sb.nil (nms.getD 9 ByteArray.empty) (by kernel_rfl) (by kernel_rfl) (by kernel_rfl) (by kernel_rfl) (by kernel_rfl) (by kernel_rfl))) w
theorem good10 : Good 10 := fun n w h => walk_c n 10 (by decide) h (nms.getD 10 ByteArray.empty) ((gl 10).getD 0 ByteArray.empty) (Aside0.mk rfl) (Aside0.mk rfl) (by kernel_rfl) (by kernel_rfl) (parts (gl 10)) (Aside0.mk rfl) (Aside0.mk (by kernel_rfl)) 60 60 (Aside0.mk (by kernel_rfl)) (Aside0.mk (by kernel_rfl)) w
theorem good11 : Good 11 := fun n w h => walk_a n 11 (by decide) h (nms.getD 11 ByteArray.empty) ((gl 11).getD 0 ByteArray.empty) (Aside0.mk rfl) (Aside0.mk rfl) (by kernel_rfl) (by kernel_rfl) (Aside0.mk (Sb.nil (nms.getD 11 ByteArray.empty) (by kernel_rfl) (by kernel_rfl) (by kernel_rfl) (by kernel_rfl) (by kernel_rfl) (by kernel_rfl))) w
theorem good12 : Good 12 := fun n w h => walk_a n 12 (by decide) h (nms.getD 12 ByteArray.empty) ((gl 12).getD 0 ByteArray.empty) (Aside0.mk rfl) (Aside0.mk rfl) (by kernel_rfl) (by kernel_rfl) (Aside0.mk (Sb.nil (nms.getD 12 ByteArray.empty) (by kernel_rfl) (by kernel_rfl) (by kernel_rfl) (by kernel_rfl) (by kernel_rfl) (by kernel_rfl))) w
theorem good13 : Good 13 := fun n w h => walk_a n 13 (by decide) h (nms.getD 13 ByteArray.empty) ((gl 13).getD 0 ByteArray.empty) (Aside0.mk rfl) (Aside0.mk rfl) (by kernel_rfl) (by kernel_rfl) (Aside0.mk (Sb.nil (nms.getD 13 ByteArray.empty) (by kernel_rfl) (by kernel_rfl) (by kernel_rfl) (by kernel_rfl) (by kernel_rfl) (by kernel_rfl))) w
theorem good14 : Good 14 := fun n w h => walk_b n 14 (by decide) h (nms.getD 14 ByteArray.empty) ((gl 14).getD 0 ByteArray.empty) (Aside0.mk rfl) (Aside0.mk rfl) (by kernel_rfl) (Aside0.mk (Sb.nil (nms.getD 14 ByteArray.empty) (by kernel_rfl) (by kernel_rfl) (by kernel_rfl) (by kernel_rfl) (by kernel_rfl) (by kernel_rfl))) w
theorem good15 : Good 15 := fun n w h => walk_a n 15 (by decide) h (nms.getD 15 ByteArray.empty) ((gl 15).getD 0 ByteArray.empty) (Aside0.mk rfl) (Aside0.mk rfl) (by kernel_rfl) (by kernel_rfl) (Aside0.mk (Sb.nil (nms.getD 15 ByteArray.empty) (by kernel_rfl) (by kernel_rfl) (by kernel_rfl) (by kernel_rfl) (by kernel_rfl) (by kernel_rfl))) w
theorem good16 : Good 16 := fun n w h => walk_a n 16 (by decide) h (nms.getD 16 ByteArray.empty) ((gl 16).getD 0 ByteArray.empty) (Aside0.mk rfl) (Aside0.mk rfl) (by kernel_rfl) (by kernel_rfl) (Aside0.mk (Sb.nil (nms.getD 16 ByteArray.empty) (by kernel_rfl) (by kernel_rfl) (by kernel_rfl) (by kernel_rfl) (by kernel_rfl) (by kernel_rfl))) w
theorem good17 : Good 17 := fun n w h => walk_a n 17 (by decide) h (nms.getD 17 ByteArray.empty) ((gl 17).getD 0 ByteArray.empty) (Aside0.mk rfl) (Aside0.mk rfl) (by kernel_rfl) (by kernel_rfl) (Aside0.mk (Sb.nil (nms.getD 17 ByteArray.empty) (by kernel_rfl) (by kernel_rfl) (by kernel_rfl) (by kernel_rfl) (by kernel_rfl) (by kernel_rfl))) w
theorem good18 : Good 18 := fun n w h => walk_a n 18 (by decide) h (nms.getD 18 ByteArray.empty) ((gl 18).getD 0 ByteArray.empty) (Aside0.mk rfl) (Aside0.mk rfl) (by kernel_rfl) (by kernel_rfl) (Aside0.mk (Sb.nil (nms.getD 18 ByteArray.empty) (by kernel_rfl) (by kernel_rfl) (by kernel_rfl) (by kernel_rfl) (by kernel_rfl) (by kernel_rfl))) w
theorem good19 : Good 19 := fun n w h => walk_a n 19 (by decide) h (nms.getD 19 ByteArray.empty) ((gl 19).getD 0 ByteArray.empty) (Aside0.mk rfl) (Aside0.mk rfl) (by kernel_rfl) (by kernel_rfl) (Aside0.mk (Sb.nil (nms.getD 19 ByteArray.empty) (by kernel_rfl) (by kernel_rfl) (by kernel_rfl) (by kernel_rfl) (by kernel_rfl) (by kernel_rfl))) w
theorem good20 : Good 20 := fun n w h => walk_a n 20 (by decide) h (nms.getD 20 ByteArray.empty) ((gl 20).getD 0 ByteArray.empty) (Aside0.mk rfl) (Aside0.mk rfl) (by kernel_rfl) (by kernel_rfl) (Aside0.mk (Sb.nil (nms.getD 20 ByteArray.empty) (by kernel_rfl) (by kernel_rfl) (by kernel_rfl) (by kernel_rfl) (by kernel_rfl) (by kernel_rfl))) w
theorem good21 : Good 21 := fun n w h => walk_a n 21 (by decide) h (nms.getD 21 ByteArray.empty) ((gl 21).getD 0 ByteArray.empty) (Aside0.mk rfl) (Aside0.mk rfl) (by kernel_rfl) (by kernel_rfl) (Aside0.mk (Sb.nil (nms.getD 21 ByteArray.empty) (by kernel_rfl) (by kernel_rfl) (by kernel_rfl) (by kernel_rfl) (by kernel_rfl) (by kernel_rfl))) w
theorem good22 : Good 22 := fun n w h => walk_a n 22 (by decide) h (nms.getD 22 ByteArray.empty) ((gl 22).getD 0 ByteArray.empty) (Aside0.mk rfl) (Aside0.mk rfl) (by kernel_rfl) (by kernel_rfl) (Aside0.mk (Sb.nil (nms.getD 22 ByteArray.empty) (by kernel_rfl) (by kernel_rfl) (by kernel_rfl) (by kernel_rfl) (by kernel_rfl) (by kernel_rfl))) w
theorem good23 : Good 23 := fun n w h => walk_a n 23 (by decide) h (nms.getD 23 ByteArray.empty) ((gl 23).getD 0 ByteArray.empty) (Aside0.mk rfl) (Aside0.mk rfl) (by kernel_rfl) (by kernel_rfl) (Aside0.mk (Sb.nil (nms.getD 23 ByteArray.empty) (by kernel_rfl) (by kernel_rfl) (by kernel_rfl) (by kernel_rfl) (by kernel_rfl) (by kernel_rfl))) w
theorem good24 : Good 24 := fun n w h => walk_a n 24 (by decide) h (nms.getD 24 ByteArray.empty) ((gl 24).getD 0 ByteArray.empty) (Aside0.mk rfl) (Aside0.mk rfl) (by kernel_rfl) (by kernel_rfl) (Aside0.mk (Sb.nil (nms.getD 24 ByteArray.empty) (by kernel_rfl) (by kernel_rfl) (by kernel_rfl) (by kernel_rfl) (by kernel_rfl) (by kernel_rfl))) w
theorem good25 : Good 25 := fun n w h => walk_a n 25 (by decide) h (nms.getD 25 ByteArray.empty) ((gl 25).getD 0 ByteArray.empty) (Aside0.mk rfl) (Aside0.mk rfl) (by kernel_rfl) (by kernel_rfl) (Aside0.mk (Sb.nil (nms.getD 25 ByteArray.empty) (by kernel_rfl) (by kernel_rfl) (by kernel_rfl) (by kernel_rfl) (by kernel_rfl) (by kernel_rfl))) w
theorem good26 : Good 26 := fun n w h => walk_a n 26 (by decide) h (nms.getD 26 ByteArray.empty) ((gl 26).getD 0 ByteArray.empty) (Aside0.mk rfl) (Aside0.mk rfl) (by kernel_rfl) (by kernel_rfl) (Aside0.mk (Sb.nil (nms.getD 26 ByteArray.empty) (by kernel_rfl) (by kernel_rfl) (by kernel_rfl) (by kernel_rfl) (by kernel_rfl) (by kernel_rfl))) w
theorem good27 : Good 27 := fun n w h => walk_a n 27 (by decide) h (nms.getD 27 ByteArray.empty) ((gl 27).getD 0 ByteArray.empty) (Aside0.mk rfl) (Aside0.mk rfl) (by kernel_rfl) (by kernel_rfl) (Aside0.mk (Sb.nil (nms.getD 27 ByteArray.empty) (by kernel_rfl) (by kernel_rfl) (by kernel_rfl) (by kernel_rfl) (by kernel_rfl) (by kernel_rfl))) w
theorem good28 : Good 28 := fun n w h => walk_a n 28 (by decide) h (nms.getD 28 ByteArray.empty) ((gl 28).getD 0 ByteArray.empty) (Aside0.mk rfl) (Aside0.mk rfl) (by kernel_rfl) (by kernel_rfl) (Aside0.mk (Sb.nil (nms.getD 28 ByteArray.empty) (by kernel_rfl) (by kernel_rfl) (by kernel_rfl) (by kernel_rfl) (by kernel_rfl) (by kernel_rfl))) w
theorem good29 : Good 29 := fun n w h => walk_a n 29 (by decide) h (nms.getD 29 ByteArray.empty) ((gl 29).getD 0 ByteArray.empty) (Aside0.mk rfl) (Aside0.mk rfl) (by kernel_rfl) (by kernel_rfl) (Aside0.mk (Sb.nil (nms.getD 29 ByteArray.empty) (by kernel_rfl) (by kernel_rfl) (by kernel_rfl) (by kernel_rfl) (by kernel_rfl) (by kernel_rfl))) w
theorem good30 : Good 30 := fun n w h => walk_a n 30 (by decide) h (nms.getD 30 ByteArray.empty) ((gl 30).getD 0 ByteArray.empty) (Aside0.mk rfl) (Aside0.mk rfl) (by kernel_rfl) (by kernel_rfl) (Aside0.mk (Sb.nil (nms.getD 30 ByteArray.empty) (by kernel_rfl) (by kernel_rfl) (by kernel_rfl) (by kernel_rfl) (by kernel_rfl) (by kernel_rfl))) w
theorem good31 : Good 31 := fun n w h => walk_a n 31 (by decide) h (nms.getD 31 ByteArray.empty) ((gl 31).getD 0 ByteArray.empty) (Aside0.mk rfl) (Aside0.mk rfl) (by kernel_rfl) (by kernel_rfl) (Aside0.mk (Sb.nil (nms.getD 31 ByteArray.empty) (by kernel_rfl) (by kernel_rfl) (by kernel_rfl) (by kernel_rfl) (by kernel_rfl) (by kernel_rfl))) w
theorem good32 : Good 32 := fun n w h => walk_a n 32 (by decide) h (nms.getD 32 ByteArray.empty) ((gl 32).getD 0 ByteArray.empty) (Aside0.mk rfl) (Aside0.mk rfl) (by kernel_rfl) (by kernel_rfl) (Aside0.mk (Sb.nil (nms.getD 32 ByteArray.empty) (by kernel_rfl) (by kernel_rfl) (by kernel_rfl) (by kernel_rfl) (by kernel_rfl) (by kernel_rfl))) w
theorem good33 : Good 33 := fun n w h => walk_a n 33 (by decide) h (nms.getD 33 ByteArray.empty) ((gl 33).getD 0 ByteArray.empty) (Aside0.mk rfl) (Aside0.mk rfl) (by kernel_rfl) (by kernel_rfl) (Aside0.mk (Sb.nil (nms.getD 33 ByteArray.empty) (by kernel_rfl) (by kernel_rfl) (by kernel_rfl) (by kernel_rfl) (by kernel_rfl) (by kernel_rfl))) w
theorem good34 : Good 34 := fun n w h => walk_a n 34 (by decide) h (nms.getD 34 ByteArray.empty) ((gl 34).getD 0 ByteArray.empty) (Aside0.mk rfl) (Aside0.mk rfl) (by kernel_rfl) (by kernel_rfl) (Aside0.mk (Sb.nil (nms.getD 34 ByteArray.empty) (by kernel_rfl) (by kernel_rfl) (by kernel_rfl) (by kernel_rfl) (by kernel_rfl) (by kernel_rfl))) w
theorem good35 : Good 35 := fun n w h => walk_a n 35 (by decide) h (nms.getD 35 ByteArray.empty) ((gl 35).getD 0 ByteArray.empty) (Aside0.mk rfl) (Aside0.mk rfl) (by kernel_rfl) (by kernel_rfl) (Aside0.mk (Sb.nil (nms.getD 35 ByteArray.empty) (by kernel_rfl) (by kernel_rfl) (by kernel_rfl) (by kernel_rfl) (by kernel_rfl) (by kernel_rfl))) w
theorem good36 : Good 36 := fun n w h => walk_a n 36 (by decide) h (nms.getD 36 ByteArray.empty) ((gl 36).getD 0 ByteArray.empty) (Aside0.mk rfl) (Aside0.mk rfl) (by kernel_rfl) (by kernel_rfl) (Aside0.mk (Sb.nil (nms.getD 36 ByteArray.empty) (by kernel_rfl) (by kernel_rfl) (by kernel_rfl) (by kernel_rfl) (by kernel_rfl) (by kernel_rfl))) w
theorem good37 : Good 37 := fun n w h => walk_a n 37 (by decide) h (nms.getD 37 ByteArray.empty) ((gl 37).getD 0 ByteArray.empty) (Aside0.mk rfl) (Aside0.mk rfl) (by kernel_rfl) (by kernel_rfl) (Aside0.mk (Sb.nil (nms.getD 37 ByteArray.empty) (by kernel_rfl) (by kernel_rfl) (by kernel_rfl) (by kernel_rfl) (by kernel_rfl) (by kernel_rfl))) w
theorem good38 : Good 38 := fun n w h => walk_a n 38 (by decide) h (nms.getD 38 ByteArray.empty) ((gl 38).getD 0 ByteArray.empty) (Aside0.mk rfl) (Aside0.mk rfl) (by kernel_rfl) (by kernel_rfl) (Aside0.mk (Sb.nil (nms.getD 38 ByteArray.empty) (by kernel_rfl) (by kernel_rfl) (by kernel_rfl) (by kernel_rfl) (by kernel_rfl) (by kernel_rfl))) w
theorem good39 : Good 39 := fun n w h => walk_a n 39 (by decide) h (nms.getD 39 ByteArray.empty) ((gl 39).getD 0 ByteArray.empty) (Aside0.mk rfl) (Aside0.mk rfl) (by kernel_rfl) (by kernel_rfl) (Aside0.mk (Sb.nil (nms.getD 39 ByteArray.empty) (by kernel_rfl) (by kernel_rfl) (by kernel_rfl) (by kernel_rfl) (by kernel_rfl) (by kernel_rfl))) w
theorem good40 : Good 40 := fun n w h => walk_a n 40 (by decide) h (nms.getD 40 ByteArray.empty) ((gl 40).getD 0 ByteArray.empty) (Aside0.mk rfl) (Aside0.mk rfl) (by kernel_rfl) (by kernel_rfl) (Aside0.mk (Sb.nil (nms.getD 40 ByteArray.empty) (by kernel_rfl) (by kernel_rfl) (by kernel_rfl) (by kernel_rfl) (by kernel_rfl) (by kernel_rfl))) w
theorem good41 : Good 41 := fun n w h => walk_a n 41 (by decide) h (nms.getD 41 ByteArray.empty) ((gl 41).getD 0 ByteArray.empty) (Aside0.mk rfl) (Aside0.mk rfl) (by kernel_rfl) (by kernel_rfl) (Aside0.mk (Sb.nil (nms.getD 41 ByteArray.empty) (by kernel_rfl) (by kernel_rfl) (by kernel_rfl) (by kernel_rfl) (by kernel_rfl) (by kernel_rfl))) w
theorem good42 : Good 42 := fun n w h => walk_a n 42 (by decide) h (nms.getD 42 ByteArray.empty) ((gl 42).getD 0 ByteArray.empty) (Aside0.mk rfl) (Aside0.mk rfl) (by kernel_rfl) (by kernel_rfl) (Aside0.mk (Sb.nil (nms.getD 42 ByteArray.empty) (by kernel_rfl) (by kernel_rfl) (by kernel_rfl) (by kernel_rfl) (by kernel_rfl) (by kernel_rfl))) w
theorem good43 : Good 43 := fun n w h => walk_a n 43 (by decide) h (nms.getD 43 ByteArray.empty) ((gl 43).getD 0 ByteArray.empty) (Aside0.mk rfl) (Aside0.mk rfl) (by kernel_rfl) (by kernel_rfl) (Aside0.mk (Sb.nil (nms.getD 43 ByteArray.empty) (by kernel_rfl) (by kernel_rfl) (by kernel_rfl) (by kernel_rfl) (by kernel_rfl) (by kernel_rfl))) w
theorem good44 : Good 44 := fun n w h => walk_a n 44 (by decide) h (nms.getD 44 ByteArray.empty) ((gl 44).getD 0 ByteArray.empty) (Aside0.mk rfl) (Aside0.mk rfl) (by kernel_rfl) (by kernel_rfl) (Aside0.mk (Sb.nil (nms.getD 44 ByteArray.empty) (by kernel_rfl) (by kernel_rfl) (by kernel_rfl) (by kernel_rfl) (by kernel_rfl) (by kernel_rfl))) w
theorem good : ∀ k : Nat, k < 45 → Good k
  | 0, _ => good0
  | 1, _ => good1
  | 2, _ => good2
  | 3, _ => good3
  | 4, _ => good4
  | 5, _ => good5
  | 6, _ => good6
  | 7, _ => good7
  | 8, _ => good8
  | 9, _ => good9
  | 10, _ => good10
  | 11, _ => good11
  | 12, _ => good12
  | 13, _ => good13
  | 14, _ => good14
  | 15, _ => good15
  | 16, _ => good16
  | 17, _ => good17
  | 18, _ => good18
  | 19, _ => good19
  | 20, _ => good20
  | 21, _ => good21
  | 22, _ => good22
  | 23, _ => good23
  | 24, _ => good24
  | 25, _ => good25
  | 26, _ => good26
  | 27, _ => good27
  | 28, _ => good28
  | 29, _ => good29
  | 30, _ => good30
  | 31, _ => good31
  | 32, _ => good32
  | 33, _ => good33
  | 34, _ => good34
  | 35, _ => good35
  | 36, _ => good36
  | 37, _ => good37
  | 38, _ => good38
  | 39, _ => good39
  | 40, _ => good40
  | 41, _ => good41
  | 42, _ => good42
  | 43, _ => good43
  | 44, _ => good44
  | k + 45, h => absurd h (by omega)
theorem law_any (n : Int) (h0 : 0 ≤ n) (h1 : n ≤ 255) (w : World) : Calls Try.prog 3 #[.int .u8 n] w fun e w' => e = .returned (.bool true) ∧ Below w.heap.size w w' := by
  refine good (n % 45).toNat (by omega) n w ?_
  rw [nms_len]
  have hw : wrap64 n = n := by unfold wrap64; omega
  rw [hw, Int.tmod_eq_emod_of_nonneg h0]
  omega
end Go.Proofs.Ytpceflnbomegiaa.Sl
