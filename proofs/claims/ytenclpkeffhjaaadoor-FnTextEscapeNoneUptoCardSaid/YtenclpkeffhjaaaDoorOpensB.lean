/- How an argument of whatever depth, read as data, is told in the print's own kinds, and how much of the reading's bulk it takes. -/
import Derived.Test.YtenclpkeffhjaaaDoorWWords
import Derived.Test.YtenclpkeffhjaaaDoorOpens
import Derived.Test.YtenclpkeffhjaaaDoorRows
namespace Go.Proofs.YtenclpkeffhjaaaDoor.OpnB
open Go.Proofs.YtenclpkeffhjaaaDoorW.PrintWords Go.Proofs.YtenclpkeffhjaaaDoor.Opn

def bulkList {α : Type} (m : α → Nat) (l : List α) : Nat := (l.map m).sum
structure OpensB {α : Type} (P : Program) (T : TypeId) (d : Kd α) (ok : α → Prop) (m : α → Nat) : Prop where
  sz : P.cellsOf T = d.sz
  op : ∀ {H : Type} {enc : TypeId × Value → H} {w : World} {base : Nat} {spare : Nat → Bool} {held : Bool} {fuel : Nat} {cs : List Value} {x : DataW H × List MemPlace},
    DataW.trod enc P w base spare held fuel T cs = some x → ∃ a : α, d.K w a cs ∧ ok a ∧ m a ≤ Rows.uptoBulk x.1

theorem OpensB.int {P : Program} {T : TypeId} {k : IntKind} (ht : P.underlying T = some (.int k)) (hs : P.cellsOf T = 1) : OpensB P T (Kd.int k) (fun n => (Lit.int k n).wf = true) (fun _ => 1) :=
  ⟨hs, fun h => by
    obtain ⟨n, rfl, rfl, hw⟩ := DataW.trod_int ht h
    exact ⟨n, rfl, hw, by simp [Rows.uptoBulk]⟩⟩
theorem OpensB.bool {P : Program} {T : TypeId} (ht : P.underlying T = some .bool) (hs : P.cellsOf T = 1) : OpensB P T Kd.bool (fun _ => True) (fun _ => 1) :=
  ⟨hs, fun h => by
    obtain ⟨n, rfl, rfl⟩ := DataW.trod_bool ht h
    exact ⟨n, rfl, trivial, by simp [Rows.uptoBulk]⟩⟩
theorem OpensB.string {P : Program} {T : TypeId} (ht : P.underlying T = some .string) (hs : P.cellsOf T = 1) : OpensB P T Kd.string (fun s => s.size ≤ maxLen) (fun s => s.size + 1) :=
  ⟨hs, fun h => by
    obtain ⟨s, rfl, rfl, hw⟩ := DataW.trod_string ht h
    refine ⟨s, rfl, hw, ?_⟩
    simp only [Rows.uptoBulk]
    have : s.data.toList.length = s.size := rfl
    omega⟩
theorem bulk_append {H : Type} (l r : List (DataW H)) : Rows.uptoBulkAll (l ++ r) = Rows.uptoBulkAll l + Rows.uptoBulkAll r := by
  induction l with
  | nil => simp [Rows.uptoBulkAll]
  | cons x l ih => simp only [List.cons_append, Rows.uptoBulkAll, ih]; omega
theorem bulk_map {H α : Type} (m : α → Nat) (f : Nat → α) (D : Nat → DataW H) (l : List Nat) (h : ∀ i ∈ l, m (f i) ≤ Rows.uptoBulk (D i)) : bulkList m (l.map f) ≤ Rows.uptoBulkAll (l.map D) := by
  induction l with
  | nil => simp [bulkList, Rows.uptoBulkAll]
  | cons i l ih =>
    have h1 := h i (by simp)
    have h2 := ih (fun j hj => h j (by simp [hj]))
    simp only [bulkList, List.map_cons, List.sum_cons, Rows.uptoBulkAll] at h2 ⊢
    omega

theorem row_opens {α : Type} [Inhabited α] {P : Program} {e : TypeId} {d : Kd α} {ok : α → Prop} {m : α → Nat} (hE : OpensB P e d ok m) {H : Type} {enc : TypeId × Value → H} {w : World} {base n len : Nat} {spare : Nat → Bool} {held : Bool} (a : Addr) (hm : len ≤ maxLen) {D : Nat → DataW H} {Pl : Nat → List MemPlace}
    (h : ∀ i, i < len → ∃ cs', w.cells? base (a.add (i * P.cellsOf e)) (P.cellsOf e) = some cs' ∧ DataW.trod enc P w base spare held n e cs' = some (D i, Pl i)) :
    ∃ xs : List α, xs.length = len ∧ d.C w (some a) len xs ∧ (∀ x ∈ xs, ok x) ∧ bulkList m xs ≤ Rows.uptoBulkAll ((List.range len).map D) := by
  obtain ⟨f, hf⟩ := Go.Deep.choose_lt (α := α) (p := fun i x => (ok x ∧ m x ≤ Rows.uptoBulk (D i)) ∧ ∃ cs', w.cells? base (a.add (i * P.cellsOf e)) (P.cellsOf e) = some cs' ∧ d.K w x cs') (fun i hi => by
    obtain ⟨cs', h1, h2⟩ := h i hi
    obtain ⟨x, hk, ho⟩ := hE.op h2
    exact ⟨x, ho, cs', h1, hk⟩)
  refine ⟨(List.range len).map f, by simp, ⟨by simp, by simpa only [maxLen] using hm, fun _ => ⟨a, rfl, fun j p hj => ?_⟩⟩, fun x hx => ?_, bulk_map m f D _ (fun i hi => (hf i (by simpa using hi)).1.2)⟩
  · have hjl : j < len := by have := (List.getElem?_eq_some_iff.1 hj).1; simpa using this
    rw [List.getElem?_map, List.getElem?_range hjl] at hj
    obtain rfl : f j = p := by simpa using hj
    obtain ⟨_, cs', h1, hk⟩ := hf j hjl
    refine ⟨cs', d.K_len hk, hk, fun i u hu => ?_⟩
    obtain ⟨_, hlen, hc⟩ := World.cells?_some h1
    have hi : i < P.cellsOf e := by rw [← hlen]; exact (List.getElem?_eq_some_iff.1 hu).1
    have := hc i hi
    rw [← hE.sz, ← Go.Deep.add_add, this, hu]
  · obtain ⟨i, hi, rfl⟩ := List.mem_map.1 hx
    exact (hf i (by simpa using hi)).1.1

theorem slice_opens {α : Type} [Inhabited α] {P : Program} {T e : TypeId} {d : Kd α} {ok : α → Prop} {m : α → Nat} (ht : P.underlying T = some (.slice e)) (hE : OpensB P e d ok m)
    {H : Type} {enc : TypeId × Value → H} {w : World} {base : Nat} {spare : Nat → Bool} {held : Bool} {fuel : Nat} {cs : List Value} {x : DataW H × List MemPlace} (h : DataW.trod enc P w base spare held fuel T cs = some x) :
    ∃ (A : Option Addr) (xs : List α) (c : Nat), cs = [.slice A xs.length c] ∧ xs.length ≤ c ∧ d.C w A xs.length xs ∧ (∀ x ∈ xs, ok x) ∧ bulkList m xs + 1 ≤ Rows.uptoBulk x.1 := by
  rcases Go.Deep.open_slice ht h with ⟨rfl, rfl⟩ | ⟨a, len, cap, mm, n, D, Pl, rfl, hb, hl, hm, hmm, rfl, hx⟩
  · exact ⟨none, [], 0, rfl, Nat.le_refl _, ⟨rfl, by simp, fun hp => absurd hp (by simp)⟩, fun x hx => absurd hx (by simp), by simp [bulkList, Rows.uptoBulk]⟩
  · obtain ⟨xs, hxl, hC, hok, hmb⟩ := row_opens hE (len := len) a (Nat.le_trans hl hm) (fun i hi => hx i (by rw [hmm]; split <;> omega))
    subst hxl
    exact ⟨some a, xs, cap, rfl, hl, hC, hok, by simp only [Rows.uptoBulk]; omega⟩
theorem OpensB.slice {α : Type} [Inhabited α] {P : Program} {T e : TypeId} {d : Kd α} {ok : α → Prop} {m : α → Nat} (ht : P.underlying T = some (.slice e)) (hs : P.cellsOf T = 1) (hE : OpensB P e d ok m) :
    OpensB P T (Kd.slice e d) (fun l => ∀ x ∈ l, ok x) (fun l => bulkList m l + 1) :=
  ⟨hs, fun h => by
    obtain ⟨A, xs, c, rfl, hl, hC, hok⟩ := slice_opens ht hE h
    exact ⟨xs, ⟨A, c, rfl, hl, hC⟩, hok⟩⟩

/-- The fields of a struct from one on, each in its kind. -/
structure FieldsB {α : Type} (P : Program) (fs : List Field) (off : Nat) (d : Kd α) (ok : α → Prop) (m : α → Nat) : Prop where
  op : ∀ {H : Type} {enc : TypeId × Value → H} {w : World} {base : Nat} {spare : Nat → Bool} {held : Bool} {n : Nat} {cs : List Value} {xs : List (DataW H × List MemPlace)},
    cs.length = off + d.sz → xs.length = fs.length →
    (∀ (i : Nat) (f : Field), fs[i]? = some f → DataW.trod enc P w base spare held n f.type ((cs.drop f.offset).take (P.cellsOf f.type)) = xs[i]?) → ∃ a : α, d.K w a (cs.drop off) ∧ ok a ∧ m a ≤ Rows.uptoBulkAll (xs.map (·.1))

theorem FieldsB.last {α : Type} {P : Program} {f : Field} {off : Nat} {d : Kd α} {ok : α → Prop} {m : α → Nat} (hE : OpensB P f.type d ok m) (ho : f.offset = off) : FieldsB P [f] off d ok m :=
  ⟨fun {H enc w base spare held n cs xs} hl hx h => by
    obtain ⟨x, rfl⟩ := List.length_eq_one_iff.1 (by simpa using hx : xs.length = 1)
    have hx := h 0 f rfl
    simp only [List.getElem?_cons_zero] at hx
    rw [ho, hE.sz] at hx
    obtain ⟨a, hk, ho'⟩ := hE.op hx
    refine ⟨a, ?_, ho'.1, by simpa [Rows.uptoBulkAll] using ho'.2⟩
    rwa [List.take_of_length_le (by rw [List.length_drop]; omega)] at hk⟩
theorem FieldsB.cons {α β : Type} {P : Program} {f : Field} {fs : List Field} {off : Nat} {d : Kd α} {e : Kd β} {ok : α → Prop} {ok' : β → Prop} {m : α → Nat} {m' : β → Nat} (hE : OpensB P f.type d ok m) (ho : f.offset = off) (hF : FieldsB P fs (off + d.sz) e ok' m') :
    FieldsB P (f :: fs) off (Kd.pair d e) (fun x => ok x.1 ∧ ok' x.2) (fun x => m x.1 + m' x.2) :=
  ⟨fun {H enc w base spare held n cs xs} hl hxl h => by
    have hl' : cs.length = off + (d.sz + e.sz) := hl
    obtain ⟨x, r, rfl⟩ : ∃ x r, xs = x :: r := by cases xs with | nil => simp at hxl | cons x r => exact ⟨x, r, rfl⟩
    have hx := h 0 f rfl
    simp only [List.getElem?_cons_zero] at hx
    rw [ho, hE.sz] at hx
    obtain ⟨a, hk, hoa⟩ := hE.op hx
    obtain ⟨b, hkb, hob⟩ := hF.op (cs := cs) (enc := enc) (w := w) (base := base) (spare := spare) (held := held) (n := n) (xs := r) (by omega) (by simpa using hxl) (fun i g hg => by have := h (i + 1) g (by simpa using hg); simpa using this)
    refine ⟨(a, b), ⟨(cs.drop off).take d.sz, cs.drop (off + d.sz), ?_, hk, hkb⟩, ⟨hoa.1, hob.1⟩, ?_⟩
    · rw [← List.drop_drop, List.take_append_drop]
    · have h1 := hoa.2; have h2 := hob.2; simp only [List.map_cons, Rows.uptoBulkAll]; omega⟩
theorem OpensB.struct {α β : Type} {P : Program} {T : TypeId} {fs : Array Field} {d : Kd α} {ok : α → Prop} {m : α → Nat} (f : β → α) (g : α → β) (hg : ∀ a, f (g a) = a) (ht : P.underlying T = some (.struct fs)) (hs : P.cellsOf T = d.sz) (hF : FieldsB P fs.toList 0 d ok m) :
    OpensB P T (Kd.iso d f) (fun b => ok (f b)) (fun b => m (f b) + 1) :=
  ⟨hs, fun {H enc w base spare held fuel cs x} h => by
    obtain ⟨xs, n, rfl, rfl, hl, hxl, hx⟩ := DataW.trod_struct ht h
    obtain ⟨a, hk, ho⟩ := hF.op (cs := cs) (enc := enc) (w := w) (base := base) (spare := spare) (held := held) (n := n) (xs := xs) (by omega) (by simpa using hxl) (fun i fl hfl => hx i fl (by simpa using hfl))
    refine ⟨g a, ?_, by rw [hg]; exact ho.1, by rw [hg]; have h2 := ho.2; simp only [Rows.uptoBulk]; omega⟩
    show d.K w (f (g a)) cs
    rw [hg]
    simpa using hk⟩
end Go.Proofs.YtenclpkeffhjaaaDoor.OpnB
