/- The walks of text.toUpper: its function literal, and strings.Map over it, on ASCII. -/
import Derived.Test.YtmphemnmbofpaaaDoorRRRShelf
import Derived.Test.YtmphemnmbofpaaaDoorRRRBld
import Derived.Test.YtmphemnmbofpaaaDoorRRRSmall
import Derived.Test.YtmphemnmbofpaaaDoorRRRDec
import Derived.Lib.OthersKept
import Derived.Deep.LoopGhost
import Derived.Deep.DeepMust
import Derived.Deep.DeepFit
import Derived.Shelf.Strings.MapAny
namespace Go.Proofs.YtmphemnmbofpaaaDoorRRR.Mpw
open Go Go.RowKit Go.Lib Go.Proofs.YtmphemnmbofpaaaDoorRRR.Small Go.Proofs.YtmphemnmbofpaaaDoorRRR.Dec Go.Proofs.YtmphemnmbofpaaaDoorRRRW.PrintWords

/-- an octet in the upper case -/
def up (x : UInt8) : UInt8 := if 97 ≤ x.toNat ∧ x.toNat ≤ 122 then UInt8.ofNat (x.toNat - 32) else x
/-- what the literal makes of an octet, in a sequence (b) or not; and whether it is in one behind it -/
def st (b : Bool) (x : UInt8) : UInt8 × Bool := if b = true ∨ x = 27 then (x, decide (x ≠ 109)) else (up x, false)
def out : Bool → List UInt8 → List UInt8
  | _, [] => []
  | b, x :: s => (st b x).1 :: out (st b x).2 s
theorem up_int (x : UInt8) : Lib.toUpperR (x.toNat : Int) = ((up x).toNat : Int) := by
  unfold Lib.toUpperR up
  by_cases h : 97 ≤ x.toNat ∧ x.toNat ≤ 122
  · rw [if_pos (by omega), if_pos h, UInt8.toNat_ofNat']; omega
  · rw [if_neg (by omega), if_neg h]
theorem up_lt (x : UInt8) (h : x.toNat < 128) : (up x).toNat < 128 := by
  unfold up
  split
  · rw [UInt8.toNat_ofNat']; omega
  · exact h
theorem st_lt (b : Bool) (x : UInt8) (h : x.toNat < 128) : (st b x).1.toNat < 128 := by
  unfold st
  split
  · exact h
  · exact up_lt x h

/-- all but one block as it was -/
abbrev But (c : Nat) (w w' : World) : Prop := w.grownBy w' (some c) ∧ w'.heap.size = w.heap.size
theorem set_but (w : World) (c : Nat) (v : Value) : But c w (w.setCell ⟨c, 0, none⟩ v) := by
  refine ⟨⟨rfl, rfl, rfl, ?_, fun i hi hne => ?_⟩, ?_⟩
  · simp [World.setCell]
  · have : c ≠ i := fun h => hne (by rw [h])
    simp [World.setCell, Array.getElem?_modify, this]
  · simp [World.setCell]
theorem But.refl (c : Nat) (w : World) : But c w w := ⟨⟨rfl, rfl, rfl, Nat.le_refl _, fun _ _ _ => rfl⟩, rfl⟩
theorem But.trans {c : Nat} {a b d : World} (h : But c a b) (k : But c b d) : But c a d :=
  ⟨⟨k.1.os.trans h.1.os, k.1.tape.trans h.1.tape, k.1.output.trans h.1.output, Nat.le_trans h.1.size k.1.size, fun i hi hne => (k.1.block i (by rw [h.2]; exact hi) hne).trans (h.1.block i hi hne)⟩, k.2.trans h.2⟩
theorem But.drew {c : Nat} {a b : World} (h : But c a b) : But c a b.drew := ⟨⟨h.1.os, h.1.tape, h.1.output, h.1.size, h.1.block⟩, h.2⟩
theorem set_get {w : World} {c : Nat} {v0 : Value} {T : TypeId} (h : w.heap[c]? = some (.cells #[v0] T (0, 0))) (v : Value) : (w.setCell ⟨c, 0, none⟩ v).heap[c]? = some (.cells #[v] T (0, 0)) := by
  simp [World.setCell, Array.getElem?_modify, h]
theorem But.below {B c : Nat} {a b d : World} (h : Below B a b) (k : But c b d) (hB : B ≤ c) (hs : B ≤ a.heap.size) : Below B a d :=
  ⟨k.1.os.trans h.os, k.1.tape.trans h.tape, k.1.output.trans h.output, Nat.le_trans h.size k.1.size, fun i hi => (k.1.block i (by have := h.size; omega) (fun e => by injection e with e; omega)).trans (h.block i hi)⟩
theorem bld_but {T e : TypeId} {B b c : Nat} {bs : List Value} {w w' : World} (h : IsBuilderF T e B b bs w) (hc : c < B) (k : But c w w') : IsBuilderF T e B b bs w' := by
  have lt : ∀ {k : Nat} {o : Obj}, w.heap[k]? = some o → k < w.heap.size := fun h => (Array.getElem?_eq_some_iff.1 h).1
  have hx : ∀ p, BuilderAtF T e B b p bs w → BuilderAtF T e B b p bs w' := fun p ⟨hB, v, hb, hown, hne⟩ => by
    refine ⟨hB, v, by rw [k.1.block _ (lt hb) (fun e => by injection e with e; omega)]; exact hb, hown.kept k.1 ?_, hne⟩
    rcases hown.2 with ⟨rfl, _⟩ | ⟨g, cap, cur, fz, rfl, hg, _⟩
    · exact .inl rfl
    · refine .inr ?_
      simp only [Value.ownBlock]
      intro e
      injection e with e
      omega
  exact h.elim (fun h => .inl (hx _ h)) (fun h => .inr (hx _ h))

set_option linter.all false in
set_option maxRecDepth 100000 in
set_option maxHeartbeats 1000000 in
theorem lit (c : Nat) (b : Bool) (x : UInt8) (hx : x.toNat < 128) (w : World) (hc : w.heap[c]? = some (.cells #[.bool b] 4 (0, 0))) :
    Calls Tryd.prog 33 #[.int .i32 x.toNat, .pointer (some ⟨c, 0, none⟩)] w fun e w' => e = .returned (.int .i32 (st b x).1.toNat) ∧ w'.heap[c]? = some (.cells #[.bool (st b x).2] 4 (0, 0)) ∧ But c w w' := by
  have hcell : w.cell? ⟨c, 0, none⟩ = some (.bool b) := by rw [Lib.cell_of_heap hc]; rfl
  have hfz : w.frozen? ⟨c, 0, none⟩ = false := by rw [Lib.frozen_of_heap hc]; first | done | rfl
  have hset : ∀ v, (w.setCell ⟨c, 0, none⟩ v).cell? ⟨c, 0, none⟩ = some v := fun v => by rw [Lib.cell_of_heap (set_get hc v)]; rfl
  have hsfz : ∀ v, (w.setCell ⟨c, 0, none⟩ v).frozen? ⟨c, 0, none⟩ = false := fun v => by rw [Lib.frozen_of_heap (set_get hc v)]; first | done | rfl
  have HC := Aside0.mk hc
  have hup := Tryd.unicode_ToUpper (x.toNat : Int) w (by omega)
  rw [up_int] at hup
  by_cases h27 : x = 27
  · subst h27
    have e1 : st b 27 = (27, true) := by unfold st; rw [if_pos (Or.inr rfl)]; try rfl
    rw [e1]
    clear hup hx hc e1
    have hT : ((27 : UInt8).toNat : Int) = 27 := rfl
    rw [hT]
    go_enter Tryd.func33, Tryd.ntmps33
    go_wp2_with (fail)
    go_ret
    exact ⟨rfl, set_get HC.out _, set_but _ _ _⟩
  · have h27i : (((x.toNat : Nat) : Int) == 27) = false := by
      rw [beq_eq_false_iff_ne]; intro h
      exact h27 (UInt8.toNat_inj.1 (by have : (27 : UInt8).toNat = 27 := rfl; omega))
    cases b with
    | false =>
      have e1 : st false x = (up x, false) := by unfold st; rw [if_neg (by simp [h27])]
      rw [e1]
      clear hc hx e1 h27
      have HUP := Aside0.mk hup
      clear hup
      generalize up x = U at HUP
      go_enter Tryd.func33, Tryd.ntmps33
      go_wp2_with (first
        | (go_at_call 32; refine HUP.out.mono ?_; rintro e w1 ⟨rfl, rfl⟩))
      go_ret
      exact ⟨rfl, HC.out, But.refl _ _⟩
    | true =>
      clear hup
      by_cases h109 : x = 109
      · subst h109
        have e1 : st true 109 = (109, false) := by unfold st; rw [if_pos (Or.inl rfl)]; rfl
        rw [e1]
        clear hx hc e1 h27 h27i
        have hT : ((109 : UInt8).toNat : Int) = 109 := rfl
        rw [hT]
        go_enter Tryd.func33, Tryd.ntmps33
        go_wp2_with (fail)
        go_ret
        exact ⟨rfl, set_get HC.out _, set_but _ _ _⟩
      · have h109i : (((x.toNat : Nat) : Int) == 109) = false := by
          rw [beq_eq_false_iff_ne]; intro h
          exact h109 (UInt8.toNat_inj.1 (by have : (109 : UInt8).toNat = 109 := rfl; omega))
        have e1 : st true x = (x, true) := by unfold st; rw [if_pos (Or.inl rfl)]; simp [h109]
        rw [e1]
        clear hx hc e1 h27 h109
        go_enter Tryd.func33, Tryd.ntmps33
        go_wp2_with (fail)
        go_ret
        exact ⟨rfl, HC.out, But.refl _ _⟩
end Go.Proofs.YtmphemnmbofpaaaDoorRRR.Mpw
