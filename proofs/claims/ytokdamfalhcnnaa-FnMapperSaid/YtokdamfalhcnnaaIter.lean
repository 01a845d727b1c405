/- A string's iterator ('for i, c := range s') in the print's own words: a state of two parts, the string and the place where it stands. IT: the number that stands for its kind (no type of the program has it). -/
import Derived.Test.YtokdamfalhcnnaaProg
import Derived.Test.YtokdamfalhcnnaaWLast
import Derived.Test.YtokdamfalhcnnaaWMore
import Derived.Lib.OthersKept
import Derived.Laws.RangeString
import Derived.OwnWalk
namespace Go.Proofs.Ytokdamfalhcnnaa.Itr
open Go.RowKit Go.Proofs.YtokdamfalhcnnaaW.PrintWords Go.Proofs.YtokdamfalhcnnaaW.PrintLast Go.Proofs.YtokdamfalhcnnaaW.PrintMore

theorem bytes_size_mk (a : Array UInt8) : (⟨a⟩ : ByteArray).size = a.size := rfl
/-- The character that stands at place p of s (what is no UTF-8: U+FFFD), and how many bytes it has. -/
def runeAt (s : ByteArray) (p : Int) : Int := (Utf8.decode s p.toNat).1
def runeLen (s : ByteArray) (p : Int) : Int := ((Utf8.decode s p.toNat).2 : Int)

def IsS131 (w0 W : World) (g : Nat) (f0 : ByteArray) (f1 : Int) : Prop := W.heap[g]? = some (.stringIter f0 f1.toNat) ∧ w0.heap.size ≤ g
section
variable {w0 W W1 : World} {g : Nat} {f0 : ByteArray} {f1 : Int} {α : Type} {d : Kd α} {e base : Nat} {ok : Nat → Prop} {v : Value} {xs : List α}
theorem IsS131.grown {row : Option Nat} (h : IsS131 w0 W g f0 f1) (hw : W.grownBy W1 row) (hne : some g ≠ row) : IsS131 w0 W1 g f0 f1 := ⟨blk_grown h.1 hw hne, h.2⟩
theorem IsS131.no_cells (h : IsS131 w0 W g f0 f1) {k : Nat} {cells : Array Value} {q : TypeId} {fr : Nat × Nat} (hc : W.heap[k]? = some (.cells cells q fr)) : k ≠ g := by
  rintro rfl
  rw [h.1] at hc
  cases hc
theorem IsS131.own_neN (h : IsS131 w0 W g f0 f1) (ho : Kd.N d e W base ok v xs) (_ : e ≠ 131) : some g ≠ v.ownBlock := fun hk => by
  obtain ⟨c, hc⟩ := Kd.N_typed ho g hk.symm
  exact h.no_cells hc rfl
theorem IsS131.own_ne (h : IsS131 w0 W g f0 f1) (ho : d.R e W base ok v xs) (_ : e ≠ 131) : some g ≠ v.ownBlock := fun hk => by
  obtain ⟨c, hc⟩ := Kd.R_typed ho g hk.symm
  exact h.no_cells hc rfl
theorem IsS131.own_neQ (h : IsS131 w0 W g f0 f1) (ho : d.Q e W base ok v xs) (_ : e ≠ 131) : some g ≠ v.ownBlock := fun hk => by
  obtain ⟨c, hc⟩ := Kd.Q_typed ho g hk.symm
  exact h.no_cells hc rfl
theorem IsS131.own_neS (h : IsS131 w0 W g f0 f1) (ho : d.S e W base ok v xs) (_ : e ≠ 131) : some g ≠ v.ownBlock := fun hk => by
  obtain ⟨c, hc⟩ := Kd.S_typed ho g hk.symm
  exact h.no_cells hc rfl
theorem IsS131.fresh (h : IsS131 w0 W g f0 f1) : ∀ k, W.heap.size ≤ k → k ≠ g := Kd.freshB h.1
theorem IsS131.kept {S : Nat → Prop} (h : IsS131 w0 W g f0 f1) (hk : Kept W W1 S) (hne : ¬ S g) : IsS131 w0 W1 g f0 f1 := ⟨blk_kept h.1 hk hne, h.2⟩
theorem IsS131.below (h : IsS131 w0 W g f0 f1) (hw : Below W.heap.size W W1) : IsS131 w0 W1 g f0 f1 := h.grown (grown_of_below hw none) (by simp)
theorem IsS131.alloc (h : IsS131 w0 W g f0 f1) (o : Obj) : IsS131 w0 (W.alloc o) g f0 f1 := h.below (below_alloc (Below.refl _ _) o)
theorem IsS131.drewN (h : IsS131 w0 W g f0 f1) (m : Nat) : IsS131 w0 (W.drewN m) g f0 f1 := h
theorem IsS131.drew (h : IsS131 w0 W g f0 f1) : IsS131 w0 W.drew g f0 f1 := h
theorem IsS131.at_ {w' : World} {m : Nat} (hq : W.drewN m = w') (h : IsS131 w0 W g f0 f1) : IsS131 w0 w' g f0 f1 := by subst hq; exact IsS131.drewN h m
theorem IsS131.apart (h : IsS131 w0 W g f0 f1) (ho : d.R e W base ok v xs) (_ : ∀ q, q ∈ e :: d.E → q ≠ 131) : d.R e W base (fun k => ok k ∧ k ≠ g) v xs :=
  Kd.R_mono (Kd.R_bound ho) (fun _ hk => ⟨hk.1, by obtain ⟨_, _, _, q, hq, c, hc⟩ := hk; exact h.no_cells hc⟩)
theorem IsS131.apartQ (h : IsS131 w0 W g f0 f1) (ho : d.Q e W base ok v xs) (_ : ∀ q, q ∈ e :: d.E → q ≠ 131) : d.Q e W base (fun k => ok k ∧ k ≠ g) v xs :=
  Kd.Q_mono (Kd.Q_bound ho) (fun _ hk => ⟨hk.1, by obtain ⟨_, _, _, q, hq, c, hc⟩ := hk; exact h.no_cells hc⟩)
theorem IsS131.apartS (h : IsS131 w0 W g f0 f1) (ho : d.S e W base ok v xs) (_ : ∀ q, q ∈ e :: d.E → q ≠ 131) : d.S e W base (fun k => ok k ∧ k ≠ g) v xs :=
  Kd.S_mono (Kd.S_bound ho) (fun _ hk => ⟨hk.1, by obtain ⟨_, _, _, q, hq, c, hc⟩ := hk; exact h.no_cells hc⟩)
theorem IsS131.lt (h : IsS131 w0 W g f0 f1) : g < W.heap.size := blk_lt h.1
theorem IsS131.ge (h : IsS131 w0 W g f0 f1) : w0.heap.size ≤ g := h.2
theorem IsS131.ne_blk {a : Nat} {cs : Array Value} {t : TypeId} {fr : Nat × Nat} (h : IsS131 w0 W g f0 f1) (hb2 : W.heap[a]? = some (.cells cs t fr)) (_ : t ≠ 131) : g ≠ a := fun e => h.no_cells hb2 e.symm
theorem IsS131.far {p : Addr} (h : IsS131 w0 W g f0 f1) (hne : g ≠ p.block) (u : Value) : IsS131 w0 (W.setCell p u) g f0 f1 := ⟨(Below.heap_setCell W p u g hne).trans h.1, h.2⟩
end

theorem kept_of_but {w w1 : World} {g : Nat} (hk : KeepBut w w1 g none) : Kept w w1 (fun k => k = g) := ⟨hk.1, fun i hi hn => hk.2 i hi hn (by simp)⟩

/-! ### 'range s' as if it were a call that makes a state -/
def RangeOf (s : ByteArray) (w : World) (Q : Ending → World → Prop) : Prop := Q (.returned (.pointer (some ⟨w.heap.size, 0, none⟩))) (w.alloc (.stringIter s 0))
theorem RangeOf.mono {s : ByteArray} {w : World} {Q Q' : Ending → World → Prop} (h : RangeOf s w Q) (hq : ∀ e w', Q e w' → Q' e w') : RangeOf s w Q' := hq _ _ h
def itr_make.f (a0 : ByteArray) : Option (ByteArray × Int) := some (a0, 0)
theorem itr_make.calls (a0 : ByteArray) (r1 : ByteArray) (r2 : Int) (w0 w : World) (hB : Below w0.heap.size w0 w) (h : itr_make.f a0 = some (r1, r2)) :
    RangeOf a0 w fun e w' => ∃ g_ : Nat, e = .returned (.pointer (some ⟨g_, 0, none⟩)) ∧ IsS131 w0 w' g_ r1 r2 ∧ Below w0.heap.size w0 w' ∧ Below w.heap.size w w' ∧ w.heap.size ≤ g_ := by
  obtain ⟨rfl, rfl⟩ : a0 = r1 ∧ 0 = r2 := by simpa [itr_make.f] using h
  exact ⟨w.heap.size, rfl, ⟨by simpa using heap_alloc_new w _, hB.size⟩, hB.alloc hB.size _, (Below.refl _ _).alloc (Nat.le_refl _) _, Nat.le_refl _⟩

/-! ### 'next' as if it were a call on that state -/
def NextOf (u : Value) (w : World) (Q : Ending → World → Prop) : Prop :=
  ∃ g s p, u = .pointer (some ⟨g, 0, none⟩) ∧ w.heap[g]? = some (.stringIter s p) ∧
    if p < s.size then Q (.returned (.tuple #[.bool true, .int .i64 (p : Int), .int .i32 (Utf8.decode s p).1])) (w.iterAt g s (p + (Utf8.decode s p).2)) else Q (.returned (.tuple #[.bool false])) w
theorem NextOf.mono {u : Value} {w : World} {Q Q' : Ending → World → Prop} (h : NextOf u w Q) (hq : ∀ e w', Q e w' → Q' e w') : NextOf u w Q' := by
  obtain ⟨g, s, p, hu, hh, h⟩ := h
  refine ⟨g, s, p, hu, hh, ?_⟩
  split
  · rename_i hp; rw [if_pos hp] at h; exact hq _ _ h
  · rename_i hp; rw [if_neg hp] at h; exact hq _ _ h
def itr_more.f (s_0 : ByteArray) (s_1 : Int) : Option (Int × Int × Int) := if 0 ≤ s_1 then (if s_1 < (s_0.size : Int) then some (s_1, runeAt s_0 s_1, s_1 + runeLen s_0 s_1) else none) else none
theorem itr_more.calls (g : Nat) (s_0 : ByteArray) (s_1 : Int) (r1 r2 r3 : Int) (w0 w : World) (hI : IsS131 w0 w g s_0 s_1) (hB : Below w0.heap.size w0 w) (h : itr_more.f s_0 s_1 = some (r1, r2, r3)) :
    NextOf (.pointer (some ⟨g, 0, none⟩)) w fun e w' => e = .returned (.tuple #[.bool true, .int .i64 r1, .int .i32 r2]) ∧ IsS131 w0 w' g s_0 r3 ∧ Below w0.heap.size w0 w' ∧ KeepBut w w' g none := by
  unfold itr_more.f at h
  by_cases h0 : 0 ≤ s_1
  · rw [if_pos h0] at h
    by_cases h1 : s_1 < (s_0.size : Int)
    · rw [if_pos h1] at h
      obtain ⟨rfl, rfl, rfl⟩ : s_1 = r1 ∧ runeAt s_0 s_1 = r2 ∧ s_1 + runeLen s_0 s_1 = r3 := by simpa using h
      refine ⟨g, s_0, s_1.toNat, rfl, hI.1, ?_⟩
      rw [if_pos (by omega)]
      have e1 : ((s_1.toNat : Nat) : Int) = s_1 := by omega
      refine ⟨by rw [e1]; rfl, ⟨?_, hI.2⟩, Go.Lib.below_iterAt hB hI.2 _ _, by rw [Go.Lib.iterAt_size]; exact Nat.le_refl _, fun i _ hi _ => Go.Lib.iterAt_other _ _ _ _ _ hi⟩
      rw [Go.Lib.iterAt_heap w g s_0 s_1.toNat _ hI.1]
      congr 2
      unfold runeLen
      omega
    · rw [if_neg h1] at h; cases h
  · rw [if_neg h0] at h; cases h
def itr_end.f (s_0 : ByteArray) (s_1 : Int) : Option Int := if 0 ≤ s_1 then (if s_1 < (s_0.size : Int) then none else some s_1) else none
theorem itr_end.calls (g : Nat) (s_0 : ByteArray) (s_1 : Int) (r : Int) (w0 w : World) (hI : IsS131 w0 w g s_0 s_1) (hB : Below w0.heap.size w0 w) (h : itr_end.f s_0 s_1 = some r) :
    NextOf (.pointer (some ⟨g, 0, none⟩)) w fun e w' => e = .returned (.tuple #[.bool false]) ∧ IsS131 w0 w' g s_0 r ∧ Below w0.heap.size w0 w' ∧ KeepBut w w' g none := by
  unfold itr_end.f at h
  by_cases h0 : 0 ≤ s_1
  · rw [if_pos h0] at h
    by_cases h1 : s_1 < (s_0.size : Int)
    · rw [if_pos h1] at h; cases h
    · rw [if_neg h1] at h
      obtain rfl : s_1 = r := by simpa using h
      refine ⟨g, s_0, s_1.toNat, rfl, hI.1, ?_⟩
      rw [if_neg (by omega)]
      exact ⟨rfl, hI, hB, KeepBut.refl _ _ _⟩
  · rw [if_neg h0] at h; cases h

/-! ### the two as arms of a walk -/
section
variable {P : Program} {ops : Array Oper} {Q : Exit → Act → World → Prop}
theorem rangeL_ {rest : List Oper} {oi : Oper} {a : Act} {w : World} (N : Option Tmp) (hd : oi.dst = N) (hg : oi.guard = none) {t : TypeId} {x : Operand} (hop : oi.op = .range t x) (ht : P.underlying t = some .string) (s : ByteArray) (hx : a.eval x = .string s)
    (h : RangeOf s w fun e w' => ∃ v, e = .returned v ∧ wpList P ops Q rest (a.put N v) w') : wpList P ops Q (oi :: rest) a w := by
  refine wpList_plain hg fun K hK => ?_
  obtain ⟨v, hv, hk⟩ := h
  injection hv with hv
  subst hv hd
  have hrun := run_range_string (P := P) w t s ht
  unfold Oper.wp
  simp [execOp, hop, hx, hrun, Result.andThen]
  exact hK _ _ hk
theorem nextL_ {rest : List Oper} {oi : Oper} {a : Act} {w : World} (N : Option Tmp) (hd : oi.dst = N) (hg : oi.guard = none) {x : Operand} (hop : oi.op = .next x true) (u : Value) (hx : a.eval x = u)
    (h : NextOf u w fun e w' => ∃ v, e = .returned v ∧ wpList P ops Q rest (a.put N v) w') : wpList P ops Q (oi :: rest) a w := by
  refine wpList_plain hg fun K hK => ?_
  obtain ⟨g, s, p, rfl, hh, h⟩ := h
  subst hd
  by_cases hp : p < s.size
  · rw [if_pos hp] at h
    obtain ⟨v, hv, hk⟩ := h
    injection hv with hv
    subst hv
    have hrun := Go.Lib.run_next_any_at (P := P) w g s p oi.type hh hp
    unfold Oper.wp
    simp [execOp, hop, hx, hrun, Result.andThen]
    exact hK _ _ hk
  · rw [if_neg hp] at h
    obtain ⟨v, hv, hk⟩ := h
    injection hv with hv
    subst hv
    have hrun := Go.Lib.run_next_end_at (P := P) w g s p oi.type hh hp
    unfold Oper.wp
    simp [execOp, hop, hx, hrun, Result.andThen]
    exact hK _ _ hk
end

/-! ### 'make([]T, 0, n)' -/
section
variable {P : Program} {ops : Array Oper} {rest : List Oper} {o : Oper} {a : Act} {Q : Exit → Act → World → Prop} {α : Type}
theorem R_make0 (d : Kd α) {w0 W : World} (base e : Nat) (hgd : o.guard = none) {N : Tmp} (_hd : o.dst = some N) (t : TypeId) (x y : Operand) (ho : o.op = .makeSlice t x y) (m : Int) (hx : a.eval x = .int .i64 0) (hy : a.eval y = .int .i64 m)
    (ht : P.underlying t = some (.slice e)) (z : Value) (bytes : Nat) (hinfo : (P.info? e).map (fun i => (i.zero, i.size, i.bytes)) = some (some z, d.sz, bytes)) (hb0 : 0 < bytes)
    {ok : Nat → Prop} (hfresh : ok W.heap.size) (h0 : 0 ≤ m) (hl : m.toNat * bytes ≤ 281474976710656) (HB : Below base w0 W) (hbase : base ≤ W.heap.size)
    (h : ∀ v1 w1, d.R e w1 base ok v1 [] → Below base w0 w1 → W.grownBy w1 none → (∃ b, v1.ownBlock = some b ∧ W.heap.size ≤ b) → wpList P ops Q rest (a.put o.dst v1) w1) : wpList P ops Q (o :: rest) a W := by
  obtain ⟨i0, hi, hzz⟩ := Option.map_eq_some_iff.1 hinfo
  simp only [Prod.mk.injEq] at hzz
  obtain ⟨hz0, hz1, hz2⟩ := hzz
  have hm : m.toNat ≤ 281474976710656 := Nat.le_trans (Nat.le_mul_of_pos_right _ hb0) hl
  refine wpList_make_own W hgd x y t ho base e i0 z d.sz ht hi hz0 hz1 .i64 .i64 m m.toNat hx hy (by omega) (by rw [hz2, Nat.mul_comm]; exact hl) (by simp only [maxLen]; omega) hbase ?_
  intro w1 hown hg
  refine h _ w1 ⟨fun k hk => ?_, [], hown, ⟨by simp, fun j p hj => by simp at hj⟩⟩ (HB.grown hg hbase (fun k hk => by cases hk)) hg ⟨_, rfl, Nat.le_refl _⟩
  simp only [Value.ownBlock, Option.some.injEq] at hk
  exact hk ▸ hfresh
end
end Go.Proofs.Ytokdamfalhcnnaa.Itr
