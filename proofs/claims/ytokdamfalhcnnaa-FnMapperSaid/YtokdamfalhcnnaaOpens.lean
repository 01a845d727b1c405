/- How an argument of whatever depth, read as data, is told in the print's own kinds: whole numbers, bools, strings, slices and structs of these. -/
import Derived.Test.YtokdamfalhcnnaaWWords
import Derived.Deep.Slices
import Derived.ProofKit
import Derived.OpenShut
namespace Go.Proofs.Ytokdamfalhcnnaa.Opn
open Go.Proofs.YtokdamfalhcnnaaW.PrintWords

instance : Inhabited ByteArray := ⟨⟨#[]⟩⟩

/-- Whatever is read as a value of type T says, in the kind d, some 'a' that is right ('ok'). -/
structure Opens {α : Type} (P : Program) (T : TypeId) (d : Kd α) (ok : α → Prop) : Prop where
  sz : P.cellsOf T = d.sz
  op : ∀ {H : Type} {enc : TypeId × Value → H} {w : World} {base : Nat} {spare : Nat → Bool} {held : Bool} {fuel : Nat} {cs : List Value} {x : DataW H × List MemPlace},
    DataW.trod enc P w base spare held fuel T cs = some x → ∃ a : α, d.K w a cs ∧ ok a

theorem Opens.int {P : Program} {T : TypeId} {k : IntKind} (ht : P.underlying T = some (.int k)) (hs : P.cellsOf T = 1) : Opens P T (Kd.int k) (fun n => (Lit.int k n).wf = true) :=
  ⟨hs, fun h => by
    obtain ⟨n, rfl, _, hw⟩ := DataW.trod_int ht h
    exact ⟨n, rfl, hw⟩⟩
theorem Opens.bool {P : Program} {T : TypeId} (ht : P.underlying T = some .bool) (hs : P.cellsOf T = 1) : Opens P T Kd.bool (fun _ => True) :=
  ⟨hs, fun h => by
    obtain ⟨n, rfl, _⟩ := DataW.trod_bool ht h
    exact ⟨n, rfl, trivial⟩⟩
theorem Opens.string {P : Program} {T : TypeId} (ht : P.underlying T = some .string) (hs : P.cellsOf T = 1) : Opens P T Kd.string (fun s => s.size ≤ maxLen) :=
  ⟨hs, fun h => by
    obtain ⟨s, rfl, _, hw⟩ := DataW.trod_string ht h
    exact ⟨s, rfl, hw⟩⟩

/-- The elements of a slice, each in its kind. -/
theorem row_opens {α : Type} [Inhabited α] {P : Program} {e : TypeId} {d : Kd α} {ok : α → Prop} (hE : Opens P e d ok) {H : Type} {enc : TypeId × Value → H} {w : World} {base n len : Nat} {spare : Nat → Bool} {held : Bool} (a : Addr) (hm : len ≤ maxLen) {D : Nat → DataW H} {Pl : Nat → List MemPlace}
    (h : ∀ i, i < len → ∃ cs', w.cells? base (a.add (i * P.cellsOf e)) (P.cellsOf e) = some cs' ∧ DataW.trod enc P w base spare held n e cs' = some (D i, Pl i)) :
    ∃ xs : List α, xs.length = len ∧ d.C w (some a) len xs ∧ ∀ x ∈ xs, ok x := by
  obtain ⟨f, hf⟩ := Go.Deep.choose_lt (α := α) (p := fun i x => ok x ∧ ∃ cs', w.cells? base (a.add (i * P.cellsOf e)) (P.cellsOf e) = some cs' ∧ d.K w x cs') (fun i hi => by
    obtain ⟨cs', h1, h2⟩ := h i hi
    obtain ⟨x, hk, ho⟩ := hE.op h2
    exact ⟨x, ho, cs', h1, hk⟩)
  refine ⟨(List.range len).map f, by simp, ⟨by simp, by simpa only [maxLen] using hm, fun _ => ⟨a, rfl, fun j p hj => ?_⟩⟩, fun x hx => ?_⟩
  · have hjl : j < len := by have := (List.getElem?_eq_some_iff.1 hj).1; simpa using this
    rw [List.getElem?_map, List.getElem?_range hjl] at hj
    obtain rfl : f j = p := by simpa using hj
    obtain ⟨_, cs', h1, hk⟩ := hf j hjl
    refine ⟨cs', d.K_len hk, hk, fun i u hu => ?_⟩
    obtain ⟨_, hlen, hc⟩ := World.cells?_some h1
    have hi : i < P.cellsOf e := by rw [← hlen]; exact (List.getElem?_eq_some_iff.1 hu).1
    have := hc i hi
    rw [← hE.sz, ← Go.Deep.add_add, this, hu]
  · obtain ⟨i, hi, rfl⟩ := List.mem_map.1 hx
    exact (hf i (by simpa using hi)).1

theorem slice_opens {α : Type} [Inhabited α] {P : Program} {T e : TypeId} {d : Kd α} {ok : α → Prop} (ht : P.underlying T = some (.slice e)) (hE : Opens P e d ok)
    {H : Type} {enc : TypeId × Value → H} {w : World} {base : Nat} {spare : Nat → Bool} {held : Bool} {fuel : Nat} {cs : List Value} {x : DataW H × List MemPlace} (h : DataW.trod enc P w base spare held fuel T cs = some x) :
    ∃ (A : Option Addr) (xs : List α) (c : Nat), cs = [.slice A xs.length c] ∧ xs.length ≤ c ∧ d.C w A xs.length xs ∧ (∀ x ∈ xs, ok x) := by
  rcases Go.Deep.open_slice ht h with ⟨rfl, _⟩ | ⟨a, len, cap, m, n, D, Pl, rfl, hb, hl, hm, hmm, _, hx⟩
  · exact ⟨none, [], 0, rfl, Nat.le_refl _, ⟨rfl, by simp, fun hp => absurd hp (by simp)⟩, fun x hx => absurd hx (by simp)⟩
  · obtain ⟨xs, hxl, hC, hok⟩ := row_opens hE (len := len) a (Nat.le_trans hl hm) (fun i hi => hx i (by rw [hmm]; split <;> omega))
    subst hxl
    exact ⟨some a, xs, cap, rfl, hl, hC, hok⟩
theorem Opens.slice {α : Type} [Inhabited α] {P : Program} {T e : TypeId} {d : Kd α} {ok : α → Prop} (ht : P.underlying T = some (.slice e)) (hs : P.cellsOf T = 1) (hE : Opens P e d ok) :
    Opens P T (Kd.slice e d) (fun l => ∀ x ∈ l, ok x) :=
  ⟨hs, fun h => by
    obtain ⟨A, xs, c, rfl, hl, hC, hok⟩ := slice_opens ht hE h
    exact ⟨xs, ⟨A, c, rfl, hl, hC⟩, hok⟩⟩

/-- The fields of a struct from one on, each in its kind. -/
structure Fields {α : Type} (P : Program) (fs : List Field) (off : Nat) (d : Kd α) (ok : α → Prop) : Prop where
  op : ∀ {H : Type} {enc : TypeId × Value → H} {w : World} {base : Nat} {spare : Nat → Bool} {held : Bool} {n : Nat} {cs : List Value},
    cs.length = off + d.sz →
    (∀ (i : Nat) (f : Field), fs[i]? = some f → ∃ x, DataW.trod enc P w base spare held n f.type ((cs.drop f.offset).take (P.cellsOf f.type)) = some x) → ∃ a : α, d.K w a (cs.drop off) ∧ ok a

theorem Fields.last {α : Type} {P : Program} {f : Field} {off : Nat} {d : Kd α} {ok : α → Prop} (hE : Opens P f.type d ok) (ho : f.offset = off) : Fields P [f] off d ok :=
  ⟨fun hl h => by
    obtain ⟨x, hx⟩ := h 0 f rfl
    rw [ho, hE.sz] at hx
    obtain ⟨a, hk, ho'⟩ := hE.op hx
    refine ⟨a, ?_, ho'⟩
    rwa [List.take_of_length_le (by rw [List.length_drop]; omega)] at hk⟩
theorem Fields.cons {α β : Type} {P : Program} {f : Field} {fs : List Field} {off : Nat} {d : Kd α} {e : Kd β} {ok : α → Prop} {ok' : β → Prop} (hE : Opens P f.type d ok) (ho : f.offset = off) (hF : Fields P fs (off + d.sz) e ok') :
    Fields P (f :: fs) off (Kd.pair d e) (fun x => ok x.1 ∧ ok' x.2) :=
  ⟨fun {H enc w base spare held n cs} hl h => by
    have hl' : cs.length = off + (d.sz + e.sz) := hl
    obtain ⟨x, hx⟩ := h 0 f rfl
    rw [ho, hE.sz] at hx
    obtain ⟨a, hk, hoa⟩ := hE.op hx
    obtain ⟨b, hkb, hob⟩ := hF.op (cs := cs) (enc := enc) (w := w) (base := base) (spare := spare) (held := held) (n := n) (by omega) (fun i g hg => h (i + 1) g (by simpa using hg))
    refine ⟨(a, b), ⟨(cs.drop off).take d.sz, cs.drop (off + d.sz), ?_, hk, hkb⟩, hoa, hob⟩
    rw [← List.drop_drop, List.take_append_drop]⟩
theorem Opens.struct {α β : Type} {P : Program} {T : TypeId} {fs : Array Field} {d : Kd α} {ok : α → Prop} (f : β → α) (g : α → β) (hg : ∀ a, f (g a) = a) (ht : P.underlying T = some (.struct fs)) (hs : P.cellsOf T = d.sz) (hF : Fields P fs.toList 0 d ok) :
    Opens P T (Kd.iso d f) (fun b => ok (f b)) :=
  ⟨hs, fun {H enc w base spare held fuel cs x} h => by
    obtain ⟨xs, n, rfl, rfl, hl, hxl, hx⟩ := DataW.trod_struct ht h
    obtain ⟨a, hk, ho⟩ := hF.op (cs := cs) (enc := enc) (w := w) (base := base) (spare := spare) (held := held) (n := n) (by omega) (fun i fl hfl => by
      have hi : fs[i]? = some fl := by simpa using hfl
      have hlt : i < xs.length := by rw [hxl]; exact (Array.getElem?_eq_some_iff.1 hi).1
      exact ⟨xs[i], by rw [hx i fl hi, List.getElem?_eq_getElem hlt]⟩)
    refine ⟨g a, ?_, by rw [hg]; exact ho⟩
    show d.K w (f (g a)) cs
    rw [hg]
    simpa using hk⟩
end Go.Proofs.Ytokdamfalhcnnaa.Opn
