/- A doubly linked list of entries (key, value, prev, next) behind a struct's head and tail, told exactly. -/
import Derived.Test.YtjhmcpdnmfhodaaProg
import Derived.WalkKit
import Derived.OwnWalk
import Derived.Laws.OwnMore
namespace Go.Proofs.Ytjhmcpdnmfhodaa.Ll
open Go Go.RowKit

structure En where
  b : Nat
  k : Int
  v : Int
def ptr (b : Nat) : Value := .pointer (some ⟨b, 0, none⟩)
def hd (es : List En) (n : Value) : Value := match es with
  | [] => n
  | e :: _ => ptr e.b
def lst : Value → List En → Value
  | p, [] => p
  | _, e :: t => lst (ptr e.b) t
def blocks (es : List En) : List Nat := es.map En.b
/-- the entries lie one behind the other; ET: their type -/
def Seg (ET : TypeId) (w : World) : Value → List En → Value → Prop
  | _, [], _ => True
  | p, e :: t, n => w.heap[e.b]? = some (.cells #[.int .i64 e.k, .int .i64 e.v, p, hd t n] ET (0, 0)) ∧ Seg ET w (ptr e.b) t n

theorem hd_app (xs ys : List En) (n : Value) : hd (xs ++ ys) n = hd xs (hd ys n) := by cases xs <;> rfl
theorem lst_app (p : Value) : ∀ xs ys : List En, lst p (xs ++ ys) = lst (lst p xs) ys
  | [], _ => rfl
  | e :: t, ys => by show lst (ptr e.b) (t ++ ys) = _; rw [lst_app (ptr e.b) t ys]; rfl
theorem lst_snoc (p : Value) (xs : List En) (e : En) : lst p (xs ++ [e]) = ptr e.b := by rw [lst_app]; rfl
variable {ET : TypeId}
theorem Seg.app {w : World} : ∀ {xs ys : List En} {p n : Value}, Seg ET w p (xs ++ ys) n ↔ Seg ET w p xs (hd ys n) ∧ Seg ET w (lst p xs) ys n
  | [], ys, p, n => by simp [Seg, lst]
  | e :: t, ys, p, n => by
    show (w.heap[e.b]? = some (.cells #[.int .i64 e.k, .int .i64 e.v, p, hd (t ++ ys) n] ET (0, 0)) ∧ Seg ET w (ptr e.b) (t ++ ys) n) ↔ (_ ∧ Seg ET w (ptr e.b) t (hd ys n)) ∧ Seg ET w (lst (ptr e.b) t) ys n
    rw [Seg.app (xs := t), hd_app]
    constructor
    · rintro ⟨a, b, c⟩; exact ⟨⟨a, b⟩, c⟩
    · rintro ⟨⟨a, b⟩, c⟩; exact ⟨a, b, c⟩
theorem Seg.kept {w w' : World} : ∀ {es : List En} {p n : Value}, Seg ET w p es n → (∀ e ∈ es, w'.heap[e.b]? = w.heap[e.b]?) → Seg ET w' p es n
  | [], _, _, _, _ => trivial
  | e :: t, p, n, h, hk => ⟨(hk e (by simp)).trans h.1, Seg.kept h.2 (fun x hx => hk x (by simp [hx]))⟩
theorem set_same {w : World} {b j : Nat} {cs : Array Value} {t : TypeId} (u : Value) (h : w.heap[b]? = some (.cells cs t (0, 0))) : (w.setCell ⟨b, j, none⟩ u).heap[b]? = some (.cells (cs.setIfInBounds j u) t (0, 0)) := heap_setCell_same w b j cs t u h
theorem set_other (w : World) {b j k : Nat} (u : Value) (h : k ≠ b) : (w.setCell ⟨b, j, none⟩ u).heap[k]? = w.heap[k]? := heap_setCell_other w ⟨b, j, none⟩ k u h
theorem mem_blocks {es : List En} {e : En} (h : e ∈ es) : e.b ∈ blocks es := List.mem_map_of_mem h
/-- the first entry's prev -/
theorem Seg.prev {w : World} {e : En} {t : List En} {p n : Value} (h : Seg ET w p (e :: t) n) (hn : e.b ∉ blocks t) (p' : Value) : Seg ET (w.setCell ⟨e.b, 2, none⟩ p') p' (e :: t) n :=
  ⟨(set_same p' h.1).trans rfl, h.2.kept (fun x hx => set_other w p' (fun e2 => hn (e2 ▸ mem_blocks hx)))⟩
/-- the last entry's next -/
theorem Seg.next {w : World} {e : En} {t : List En} {p n : Value} (h : Seg ET w p (t ++ [e]) n) (hn : e.b ∉ blocks t) (n' : Value) : Seg ET (w.setCell ⟨e.b, 3, none⟩ n') p (t ++ [e]) n' := by
  have h2 := Seg.app.1 h
  refine Seg.app.2 ⟨h2.1.kept (fun x hx => set_other w n' (fun e2 => hn (e2 ▸ mem_blocks hx))), ⟨(set_same n' h2.2.1).trans rfl, trivial⟩⟩
theorem Seg.put {w : World} {es : List En} {p n : Value} (h : Seg ET w p es n) {b j : Nat} (u : Value) (hb : b ∉ blocks es) : Seg ET (w.setCell ⟨b, j, none⟩ u) p es n :=
  h.kept (fun x hx => set_other w u (fun e2 => hb (e2 ▸ mem_blocks hx)))
theorem Seg.at_ {w : World} : ∀ {es : List En} {p n : Value}, Seg ET w p es n → ∀ e ∈ es, ∃ q z, w.heap[e.b]? = some (.cells #[.int .i64 e.k, .int .i64 e.v, q, z] ET (0, 0))
  | e :: t, p, n, h, x, hx => by
    rcases List.mem_cons.1 hx with rfl | hx
    · exact ⟨_, _, h.1⟩
    · exact h.2.at_ x hx
end Go.Proofs.Ytjhmcpdnmfhodaa.Ll
