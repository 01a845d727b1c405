/- The walk of text.Escape: a text without sequences in a sequence. -/
import Derived.Test.YtenclpkeffhjaaaDoorBld
import Derived.Test.YtenclpkeffhjaaaDoorShelf
import Derived.Test.YtenclpkeffhjaaaDoorEsp
import Derived.Lib.OthersKept
namespace Go.Proofs.YtenclpkeffhjaaaDoor.Esw
open Go Go.RowKit Go.Lib Go.Proofs.YtenclpkeffhjaaaDoor.GEsBody Go.Proofs.YtenclpkeffhjaaaDoorW.PrintWords Go.Proofs.YtenclpkeffhjaaaDoorW.PrintLast Go.Proofs.YtenclpkeffhjaaaDoorW.PrintMore Go.Proofs.YtenclpkeffhjaaaDoor.Small

abbrev RST : ByteArray := ⟨#[27, 91, 48, 109]⟩
theorem ws (B b : Nat) (bs : List Value) (s : ByteArray) (w : World) (h : IsBuilderF 52 5 B b bs w) (hlen : bs.length + s.size ≤ 140737488355328) (hBw : B ≤ w.heap.size) :
    Calls Tryd.prog 27 #[.pointer (some ⟨b, 0, none⟩), .string s] w fun e w' => e = .returned (.tuple #[.int .i64 s.size, .nilIface]) ∧ IsBuilderF 52 5 B b (bs ++ strCells s) w' ∧ Below B w w' :=
  (Any.Builder_WriteString_k Tryd.bl166 Tryd.bx166 B b bs s w h hlen hBw).mono fun _ _ h => ⟨h.1, .inr h.2.1, h.2.2.1⟩
theorem bld_below {T e : TypeId} {B b : Nat} {bs : List Value} {w w' : World} (h : IsBuilderF T e B b bs w) (hw : Below w.heap.size w w') : IsBuilderF T e B b bs w' := by
  have lt : ∀ {k : Nat} {o : Obj}, w.heap[k]? = some o → k < w.heap.size := fun h => (Array.getElem?_eq_some_iff.1 h).1
  have gr : w.grownBy w' none := ⟨hw.os, hw.tape, hw.output, hw.size, fun i hi _ => hw.block i hi⟩
  have hx : ∀ p, BuilderAtF T e B b p bs w → BuilderAtF T e B b p bs w' := fun p ⟨hB, v, hb, hown, hne⟩ => ⟨hB, v, by rw [hw.block _ (lt hb)]; exact hb, hown.kept gr (by cases h : v.ownBlock with | none => exact .inl rfl | some k => exact .inr (by simp)), hne⟩
  exact h.elim (fun h => .inl (hx _ h)) (fun h => .inr (hx _ h))
/-- the builder holds these octets; nothing of old has turned -/
def St (w0 : World) (b : Nat) (l : List UInt8) (w : World) : Prop := IsBuilderF 52 5 w0.heap.size b (byteCells l) w ∧ Below w0.heap.size w0 w
section
variable {w0 w w' : World} {b : Nat} {l : List UInt8}
theorem St.below (h : St w0 b l w) (hw : Below w.heap.size w w') : St w0 b l w' := ⟨bld_below h.1 hw, h.2.trans (hw.mono h.2.size)⟩
theorem St.wstr (h : St w0 b l w) (s : ByteArray) (hs : l.length + s.size ≤ 140737488355328) :
    Calls Tryd.prog 27 #[.pointer (some ⟨b, 0, none⟩), .string s] w fun e w' => e = .returned (.tuple #[.int .i64 s.size, .nilIface]) ∧ St w0 b (l ++ s.data.toList) w' := by
  refine (ws w0.heap.size b (byteCells l) s w h.1 (by rw [byteCells_length]; exact hs) h.2.size).mono ?_
  rintro e w' ⟨he, hb, hw⟩
  refine ⟨he, ?_, h.2.trans hw⟩
  rw [byteCells_append]; exact hb
theorem St.read (h : St w0 b l w) : Calls Tryd.prog 30 #[.pointer (some ⟨b, 0, none⟩)] w fun e w' => e = .returned (.string (str l)) ∧ St w0 b l w' := by
  refine (Tryd.Builder_String_any_f w0.heap.size b l w h.1 h.2.size).mono ?_
  rintro e w' ⟨he, hb, hw⟩
  exact ⟨he, hb, h.2.trans hw⟩
theorem St.fresh (w : World) (n : Nat) (hn : n ≤ 281474976710656) : Calls Tryd.prog 25 #[.pointer (some ⟨w.heap.size, 0, none⟩), .int .i64 n] (w.alloc (.cells #[.pointer none, .slice none 0 0] 52)) fun e w' => e = .returned (.tuple #[]) ∧ St w w.heap.size [] w' := by
  refine (Tryd.Builder_Grow_fresh w.heap.size w.heap.size n (w.alloc (.cells #[.pointer none, .slice none 0 0] 52)) (Nat.le_refl _) (MapKept.heap_alloc w _).1 (by simp) hn).mono ?_
  rintro e w' ⟨he, hb, hw⟩
  exact ⟨he, IsBuilderF.of (.inr hb), (below_alloc (Below.refl _ _) _).trans hw⟩
end

set_option linter.all false in
set_option maxRecDepth 100000 in
set_option maxHeartbeats 1000000 in
theorem escape (s q : ByteArray) (w : World) (hs : s.size ≤ 6000) (hq : q.size ≤ 300) (k1 k2 : Nat) (h1 : hasPrefix s.data.toList [27, 91] = false) (h2 : text_zzReplaceAll.f k1 s RST (RST ++ q) = some s)
    (h3 : hasSuffix (q ++ s).data.toList [27, 91, 48, 109] = false) (h4 : text_zzContains.f k2 (q ++ s ++ RST) (q ++ RST) = some false) :
    Calls Tryd.prog 19 #[.string s, .string q] w fun e w' => e = .returned (.string (q ++ s ++ RST)) ∧ Below w.heap.size w w' := by
  have hrs : RST.size = 4 := rfl
  have H1 := Aside0.mk h1; have H2 := Aside0.mk h2; have H3 := Aside0.mk h3; have H4 := Aside0.mk h4
  clear h1 h2 h3 h4
  have e1 : Aside0 (str ([] ++ q.data.toList ++ s.data.toList) = q ++ s) := ⟨by rw [List.nil_append, str_append, str_of, str_of]⟩
  have e2 : Aside0 (str ([] ++ q.data.toList ++ s.data.toList ++ RST.data.toList) = q ++ s ++ RST) := ⟨by rw [List.nil_append, str_append, str_append, str_of, str_of, str_of]⟩
  have zq := size_data q
  have zs := size_data s
  have zr : RST.data.toList.length = 4 := rfl
  have hx1 : Aside0 (hasPrefix s.data.toList (⟨#[27, 91]⟩ : ByteArray).data.toList = false) := ⟨H1.out⟩
  have hx3 : Aside0 (hasSuffix (q ++ s).data.toList (⟨#[27, 91, 48, 109]⟩ : ByteArray).data.toList = false) := ⟨H3.out⟩
  clear H1 H3
  go_enter Tryd.func19, Tryd.ntmps19
  go_wp2_with (first
    | (go_at_call 25; rw [show ((s.size : Int) + (q.size : Int) * 3 + 8) = ((s.size + q.size * 3 + 8 : Nat) : Int) from by omega]; refine (St.fresh w _ (by omega)).mono ?_; rintro e w1 ⟨rfl, S⟩)
    | (go_at_call 26; refine (Tryd.strings_HasPrefix s _ _).mono ?_; rintro e w2 ⟨rfl, rfl⟩; rw [hx1.out])
    | (go_at_call 27; refine (S.wstr _ (by simp only [List.length_append, List.length_nil, zq, zs, zr, hrs]; omega)).mono ?_; rintro e w3 ⟨rfl, S1⟩; replace S := S1; clear S1)
    | (go_at_call 28; refine (text_zzReplaceAll.calls k1 s RST (RST ++ q) s _ H2.out).mono ?_; rintro e w4 ⟨rfl, hb4⟩; replace S := S.below hb4; clear hb4)
    | (go_at_call 30; refine (S.read).mono ?_; rintro e w5 ⟨rfl, S1⟩; replace S := S1; clear S1; first | rw [e1.out] | rw [e2.out])
    | (go_at_call 29; refine (Tryd.strings_HasSuffix (q ++ s) _ _ (by simp only [ByteArray.size_append]; omega)).mono ?_; rintro e w6 ⟨rfl, rfl⟩; rw [hx3.out])
    | (go_at_call 31; refine (text_zzContains.calls k2 (q ++ s ++ RST) (q ++ RST) false _ H4.out).mono ?_; rintro e w7 ⟨rfl, hd7⟩))
  go_ret
  exact ⟨rfl, S.2.trans (hd7.below.mono S.2.size)⟩
end Go.Proofs.YtenclpkeffhjaaaDoor.Esw
