/- A map that the call makes, told exactly: what stands at each key. -/
import Derived.Maps.OwnSet
import Derived.Maps.OwnOps
import Derived.RowKit
namespace Go.Proofs.Ytokdamfalhcnnaa.Mp
open Go Go.Maps Go.ChangeMaps Go.MapKept
open Go.WideElems (Fit rd rg pl)

/-- an element reads as itself -/
def tokR (v : Value) : Option (DataW Value × List MemPlace) := some (.held v, [])

theorem tight {H : Type} {R : Value → Option (DataW H × List MemPlace)} {P : Program} {k : TypeId} {b n : Nat} {D : DataW H} {w : World} (h : w.ownsMap P k R b n D) : w.ownsMap P k R b (Maps.size D) D := by
  obtain ⟨es, cl, h0, h1, _, rfl⟩ := h
  exact ⟨es, cl, h0, h1, by simp [Maps.size, length_sorted], rfl⟩

/-- block b is a map of just m keys; g tells what stands at each -/
def MapIs (P : Program) (k : TypeId) (b m : Nat) (g : Lit → Option Value) (w : World) : Prop :=
  ∃ D : DataW Value, w.ownsMap P k tokR b m D ∧ Maps.size D = m ∧ Tidy D ∧ ∀ kl : Lit, Maps.has D kl = (g kl).isSome ∧ ∀ z : Value, D.atKey kl (.held z) = .held ((g kl).getD z)

open Classical in
/-- what stands at each key when one key's element is another one -/
noncomputable def upd (g : Lit → Option Value) (kl : Lit) (v : Option Value) (x : Lit) : Option Value := if x = kl then v else g x
theorem upd_same (g : Lit → Option Value) (kl : Lit) (v : Option Value) : upd g kl v kl = v := by simp [upd]
theorem upd_other (g : Lit → Option Value) {kl x : Lit} (v : Option Value) (h : x ≠ kl) : upd g kl v x = g x := by simp [upd, h]

variable {P : Program} {k e t : TypeId} {b m : Nat} {g : Lit → Option Value} {w w' : World}

theorem made (w : World) : MapIs P k w.heap.size 0 (fun _ => none) (w.alloc (.map #[] 0)) :=
  ⟨.map [], World.ownsMap_made w P k tokR, rfl, tidy_empty, fun _ => ⟨rfl, fun _ => rfl⟩⟩

theorem made_of {cl : Nat} (h : w.heap[b]? = some (.map #[] cl)) : MapIs P k b 0 (fun _ => none) w :=
  ⟨.map [], ⟨#[], cl, h, ⟨by simp, stamped_empty cl, by simp⟩, Nat.le_refl _, rfl⟩, rfl, tidy_empty, fun _ => ⟨rfl, fun _ => rfl⟩⟩

theorem MapIs.lt (h : MapIs P k b m g w) : b < w.heap.size := by
  obtain ⟨D, h0, _⟩ := h
  exact h0.lt

theorem MapIs.kept {row : Option Nat} (h : MapIs P k b m g w) (hg : w.grownBy w' row) (hne : some b ≠ row) : MapIs P k b m g w' := by
  obtain ⟨D, h0, h1⟩ := h
  exact ⟨D, h0.kept hg hne, h1⟩

theorem MapIs.of_heap (h : MapIs P k b m g w) (hb : w'.heap[b]? = w.heap[b]?) : MapIs P k b m g w' := by
  obtain ⟨D, ⟨es, cl, h0, h2⟩, h1⟩ := h
  exact ⟨D, ⟨es, cl, hb.trans h0, h2⟩, h1⟩

theorem MapIs.alloc (h : MapIs P k b m g w) (o : Obj) : MapIs P k b m g (w.alloc o) := by
  obtain ⟨D, h0, h1⟩ := h
  exact ⟨D, h0.alloc o, h1⟩

theorem tokR_inv {v : Value} {z : DataW Value × List MemPlace} (h : tokR v = some z) : z = (.held v, []) := by
  unfold tokR at h; cases h; rfl

/-- 'm[k]' -/
theorem MapIs.look (h : MapIs P k b m g w) (K : Keyed P k) (ht : P.underlying t = some (.map k e)) {z : Value} (hz : (zeroValue e).run P w = .ok z w) {key : Value} {kl : Lit} (hkey : keyOf P k key = some kl) :
    (Instr.lookup t (.map (some b)) key false).run P w = .ok ((g kl).getD z) w := by
  obtain ⟨D, h0, _, _, hd⟩ := h
  obtain ⟨v, ps, hrun, hv⟩ := h0.lookup K ht hz (zd := .held z) (zp := []) rfl hkey
  have e1 := tokR_inv hv
  rw [(hd kl).2 z] at e1
  simp only [Prod.mk.injEq, DataW.held.injEq] at e1
  rw [hrun, e1.1]

/-- 'v, ok := m[k]' -/
theorem MapIs.look_ok (h : MapIs P k b m g w) (K : Keyed P k) (ht : P.underlying t = some (.map k e)) {z : Value} (hz : (zeroValue e).run P w = .ok z w) {key : Value} {kl : Lit} (hkey : keyOf P k key = some kl) :
    (Instr.lookup t (.map (some b)) key true).run P w = .ok (.tuple #[(g kl).getD z, .bool (g kl).isSome]) w := by
  obtain ⟨D, h0, _, _, hd⟩ := h
  obtain ⟨v, ps, hrun, hv⟩ := h0.look_ok K ht hz (zd := .held z) (zp := []) rfl hkey
  have e1 := tokR_inv hv
  rw [(hd kl).2 z] at e1
  simp only [Prod.mk.injEq, DataW.held.injEq] at e1
  rw [hrun, e1.1, (hd kl).1]

theorem MapIs.len (h : MapIs P k b m g w) (ht : P.underlying t = some (.map k e)) (ty : TypeId) : (Builtin.len_ #[t] ty #[.map (some b)]).run P w = .ok (.int .i64 m) w := by
  obtain ⟨D, h0, hs, _⟩ := h
  rw [h0.len ht ty, hs]

/-- 'm[k] = v' -/
theorem MapIs.store (h : MapIs P k b m g w) (K : Keyed P k) (ht : P.underlying t = some (.map k e)) (hn : m < maxLen) {key : Value} (val : Value) {kl : Lit} (hkey : keyOf P k key = some kl) (hkk : WideAt.IsKeyLit kl) :
    ∃ w', (Instr.mapUpdate t (.map (some b)) key val).run P w = .ok () w' ∧ MapIs P k b (if (g kl).isSome then m else m + 1) (upd g kl (some val)) w' ∧ w.mapTurned w' b := by
  obtain ⟨D, h0, hs, hT, hd⟩ := h
  obtain ⟨w', hrun, h1, h2⟩ := h0.store K ht (by omega) (d := .held val) (ps := []) hkey rfl
  have hsz : Maps.size (D.put kl (.held val)) = if (g kl).isSome then m else m + 1 := by
    rw [size_put hT, hs, (hd kl).1]
  refine ⟨w', hrun, ⟨_, hsz ▸ tight h1, hsz, hT.put hkk _, fun x => ?_⟩, h2⟩
  by_cases hx : x = kl
  · subst hx
    simp [upd_same, has_put_same hT.isMap hkk, atKey_put_same hT.isMap hkk]
  · rw [upd_other _ _ hx]
    rw [has_put_other hx]
    exact ⟨(hd x).1, fun z => by rw [atKey_put_other hx]; exact (hd x).2 z⟩

/-- 'delete(m, k)' -/
theorem MapIs.drop (h : MapIs P k b m g w) (K : Keyed P k) (ht : P.underlying t = some (.map k e)) {key : Value} {kl : Lit} (hkey : keyOf P k key = some kl) (ty : TypeId) :
    ∃ w', (Builtin.delete_ #[t, k] ty #[.map (some b), key]).run P w = .ok undef w' ∧ MapIs P k b (if (g kl).isSome then m - 1 else m) (upd g kl none) w' ∧ w.mapTurned w' b := by
  obtain ⟨D, h0, hs, hT, hd⟩ := h
  obtain ⟨w', hrun, h1, h2⟩ := h0.drop (ty := ty) K ht hkey
  have hsz : Maps.size (D.del kl) = if (g kl).isSome then m - 1 else m := by
    have := size_del (k := kl) hT
    rw [hs, (hd kl).1] at this
    cases hg : (g kl).isSome <;> simp [hg] at this ⊢ <;> omega
  refine ⟨w', hrun, ⟨_, hsz ▸ tight h1, hsz, hT.del _, fun x => ?_⟩, h2⟩
  by_cases hx : x = kl
  · subst hx
    simp [upd_same, has_del_same, atKey_del_same]
  · rw [upd_other _ _ hx]
    rw [has_del_other hx]
    exact ⟨(hd x).1, fun z => by rw [atKey_del_other hx]; exact (hd x).2 z⟩
end Go.Proofs.Ytokdamfalhcnnaa.Mp
