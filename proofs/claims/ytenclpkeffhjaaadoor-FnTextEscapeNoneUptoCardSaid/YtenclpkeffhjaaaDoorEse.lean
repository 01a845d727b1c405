/- The walk of text.Escape: a text without resets in an empty sequence. -/
import Derived.Test.YtenclpkeffhjaaaDoorEsr
namespace Go.Proofs.YtenclpkeffhjaaaDoor.Ese
open Go Go.RowKit Go.Lib Go.Proofs.YtenclpkeffhjaaaDoor.GEsBody Go.Proofs.YtenclpkeffhjaaaDoorW.PrintWords Go.Proofs.YtenclpkeffhjaaaDoorW.PrintLast Go.Proofs.YtenclpkeffhjaaaDoorW.PrintMore Go.Proofs.YtenclpkeffhjaaaDoor.Small Go.Proofs.YtenclpkeffhjaaaDoor.Esw

set_option linter.all false in
set_option maxRecDepth 100000 in
set_option maxHeartbeats 1000000 in
theorem escape0 (s q : ByteArray) (w : World) (hs : s.size ≤ 100000) (hq : q.size = 0) (k1 k2 k3 : Nat) (h2 : text_zzReplaceAll.f k1 s RST (RST ++ q) = some s)
    (h3 : hasSuffix s.data.toList [27, 91, 48, 109] = false) (h4 : text_zzContains.f k2 (s ++ RST) (q ++ RST) = some true) (h5 : text_zzReplaceAll.f k3 (s ++ RST) (q ++ RST) ⟨#[]⟩ = some s) :
    Calls Tryd.prog 19 #[.string s, .string q] w fun e w' => e = .returned (.string s) ∧ Below w.heap.size w w' := by
  have hrs : RST.size = 4 := rfl
  have H2 := Aside0.mk h2; have H3 := Aside0.mk h3; have H4 := Aside0.mk h4; have H5 := Aside0.mk h5
  clear h2 h3 h4 h5
  have hql : q.data.toList = [] := List.eq_nil_of_length_eq_zero (by rw [size_data q]; exact hq)
  have e1 : Aside0 (str ([] ++ q.data.toList ++ s.data.toList) = s) := ⟨by rw [hql, List.nil_append, List.nil_append, str_of]⟩
  have e2 : Aside0 (str ([] ++ q.data.toList ++ s.data.toList ++ RST.data.toList) = s ++ RST) := ⟨by rw [hql, List.nil_append, List.nil_append, str_append, str_of, str_of]⟩
  have e3 : Aside0 (str ([] ++ s.data.toList) = s) := ⟨by rw [List.nil_append, str_of]⟩
  have e4 : Aside0 (str ([] ++ s.data.toList ++ RST.data.toList) = s ++ RST) := ⟨by rw [List.nil_append, str_append, str_of, str_of]⟩
  have zq := size_data q
  have zs := size_data s
  have zr : RST.data.toList.length = 4 := rfl
  have hx3 : Aside0 (hasSuffix s.data.toList (⟨#[27, 91, 48, 109]⟩ : ByteArray).data.toList = false) := ⟨H3.out⟩
  have hq1 : q.size ≤ 1 := by omega
  clear H3 hql hq
  cases hp : hasPrefix s.data.toList (⟨#[27, 91]⟩ : ByteArray).data.toList with
  | false =>
    have hx1 := Aside0.mk hp
    clear hp
    go_enter Tryd.func19, Tryd.ntmps19
    go_wp2_with (first
      | (go_at_call 25; rw [show ((s.size : Int) + (q.size : Int) * 3 + 8) = ((s.size + q.size * 3 + 8 : Nat) : Int) from by omega]; refine (St.fresh w _ (by omega)).mono ?_; rintro e w1 ⟨rfl, S⟩)
      | (go_at_call 26; refine (Tryd.strings_HasPrefix s _ _).mono ?_; rintro e w2 ⟨rfl, rfl⟩; rw [hx1.out])
      | (go_at_call 27; refine (S.wstr _ (by simp only [List.length_append, List.length_nil, zq, zs, zr, hrs]; omega)).mono ?_; rintro e w3 ⟨rfl, S1⟩; replace S := S1; clear S1)
      | (go_at_call 28; with_reducible refine (text_zzReplaceAll.calls k1 s RST (RST ++ q) s _ H2.out).mono ?_; rintro e w4 ⟨rfl, hb4⟩; replace S := S.below hb4; clear hb4)
      | (go_at_call 30; refine (S.read).mono ?_; rintro e w5 ⟨rfl, S1⟩; replace S := S1; clear S1; first | rw [e1.out] | rw [e2.out])
      | (go_at_call 29; refine (Tryd.strings_HasSuffix s _ _ (by omega)).mono ?_; rintro e w6 ⟨rfl, rfl⟩; rw [hx3.out])
      | (go_at_call 31; refine (text_zzContains.calls k2 (s ++ RST) (q ++ RST) true _ H4.out).mono ?_; rintro e w7 ⟨rfl, hd7⟩; replace S := S.below hd7.below; clear hd7)
      | (go_at_call 28; refine (text_zzReplaceAll.calls k3 (s ++ RST) (q ++ RST) ⟨#[]⟩ s _ H5.out).mono ?_; rintro e w8 ⟨rfl, hb8⟩; replace S := S.below hb8; clear hb8))
    go_ret
    exact ⟨rfl, S.2⟩
  | true =>
    have hx1 := Aside0.mk hp
    clear hp
    go_enter Tryd.func19, Tryd.ntmps19
    go_wp2_with (first
      | (go_at_call 25; rw [show ((s.size : Int) + (q.size : Int) * 3 + 8) = ((s.size + q.size * 3 + 8 : Nat) : Int) from by omega]; refine (St.fresh w _ (by omega)).mono ?_; rintro e w1 ⟨rfl, S⟩)
      | (go_at_call 26; refine (Tryd.strings_HasPrefix s _ _).mono ?_; rintro e w2 ⟨rfl, rfl⟩; rw [hx1.out])
      | (go_at_call 27; refine (S.wstr _ (by simp only [List.length_append, List.length_nil, zq, zs, zr, hrs]; omega)).mono ?_; rintro e w3 ⟨rfl, S1⟩; replace S := S1; clear S1)
      | (go_at_call 28; with_reducible refine (text_zzReplaceAll.calls k1 s RST (RST ++ q) s _ H2.out).mono ?_; rintro e w4 ⟨rfl, hb4⟩; replace S := S.below hb4; clear hb4)
      | (go_at_call 30; refine (S.read).mono ?_; rintro e w5 ⟨rfl, S1⟩; replace S := S1; clear S1; first | rw [e3.out] | rw [e4.out])
      | (go_at_call 29; refine (Tryd.strings_HasSuffix s _ _ (by omega)).mono ?_; rintro e w6 ⟨rfl, rfl⟩; rw [hx3.out])
      | (go_at_call 31; refine (text_zzContains.calls k2 (s ++ RST) (q ++ RST) true _ H4.out).mono ?_; rintro e w7 ⟨rfl, hd7⟩; replace S := S.below hd7.below; clear hd7)
      | (go_at_call 28; refine (text_zzReplaceAll.calls k3 (s ++ RST) (q ++ RST) ⟨#[]⟩ s _ H5.out).mono ?_; rintro e w8 ⟨rfl, hb8⟩; replace S := S.below hb8; clear hb8))
    go_ret
    exact ⟨rfl, S.2⟩

open Go.Proofs.YtenclpkeffhjaaaDoor.Esq Go.Proofs.YtenclpkeffhjaaaDoor.Esp Go.Proofs.YtenclpkeffhjaaaDoor.Esr in
theorem calls (s q : ByteArray) (w : World) (hq : q.size = 0) (h : Tame s.data.toList) :
    Calls Tryd.prog 19 #[.string s, .string q] w fun e w' => e = .returned (.string s) ∧ Below w.heap.size w w' := by
  have hR : R.length = 4 := rfl
  have hRST : RST = str R := rfl
  have hl := h.1
  have hsz := size_data s
  obtain rfl : q = ⟨#[]⟩ := by
    have : q.data.toList = [] := List.eq_nil_of_length_eq_zero (by rw [size_data q]; exact hq)
    rw [← str_of q, this]; rfl
  obtain ⟨k1, h1⟩ := replace_none s.data.toList R (R ++ []) (by omega) (by omega) (by decide) (fun i hi => by rw [hR] at hi ⊢; exact h.2 i hi)
  obtain ⟨k2, h2⟩ := contains_reset _ h
  obtain ⟨k3, h3⟩ := take_reset _ h
  rw [str_append, str_of] at h2 h3
  rw [str_append, str_of] at h1
  exact escape0 s ⟨#[]⟩ w (by omega) rfl k1 k2 k3 h1 (tame_suffix _ h) h2 h3
end Go.Proofs.YtenclpkeffhjaaaDoor.Ese
