/- Pairs in the order of their keys: plain facts. -/
import Derived.Test.YtokdamfalhcnnaaMv
namespace Go.Proofs.Ytokdamfalhcnnaa.Mo
open Go Go.RowKit Mq Mt Mu

def Srt (ps : List Pr) : Prop := ps.Pairwise fun a b => a.1 < b.1
theorem Srt.nodup {ps : List Pr} (h : Srt ps) : (keys ps).Nodup := by
  unfold keys
  rw [List.Nodup, List.pairwise_map]
  exact h.imp (fun hab => by omega)
/-- with a pair, in order -/
def ins : List Pr → Pr → List Pr
  | [], p => [p]
  | a :: t, p => if a.1 < p.1 then a :: ins t p else if a.1 = p.1 then p :: t else p :: a :: t
theorem mem_ins {p e : Pr} : ∀ {ps : List Pr}, e ∈ ins ps p → e = p ∨ e ∈ ps
  | [], h => by simpa [ins] using h
  | a :: t, h => by
    unfold ins at h
    split at h
    · rcases List.mem_cons.1 h with h | h
      · exact .inr (by simp [h])
      · rcases mem_ins h with h | h
        · exact .inl h
        · exact .inr (List.mem_cons.2 (.inr h))
    · split at h
      · rcases List.mem_cons.1 h with h | h
        · exact .inl h
        · exact .inr (List.mem_cons.2 (.inr h))
      · rcases List.mem_cons.1 h with h | h
        · exact .inl h
        · exact .inr h
theorem srt_ins : ∀ {ps : List Pr} (p : Pr), Srt ps → Srt (ins ps p)
  | [], p, _ => by simp [ins, Srt]
  | a :: t, p, h => by
    have h' := List.pairwise_cons.1 h
    unfold ins
    split
    · rename_i h1
      refine List.pairwise_cons.2 ⟨fun e he => ?_, srt_ins p h'.2⟩
      rcases mem_ins he with rfl | he
      · exact h1
      · exact h'.1 e he
    · split
      · rename_i h1 h2
        exact List.pairwise_cons.2 ⟨fun e he => by have := h'.1 e he; omega, h'.2⟩
      · rename_i h1 h2
        exact List.pairwise_cons.2 ⟨fun e he => by
          rcases List.mem_cons.1 he with rfl | he
          · omega
          · have := h'.1 e he; omega, h⟩
theorem put_ins : ∀ {ps : List Pr} (p : Pr), Srt ps → (put ps p).Perm (ins ps p)
  | [], p, _ => by simp [put, del, ins]
  | a :: t, p, h => by
    have h' := List.pairwise_cons.1 h
    unfold ins
    split
    · rename_i h1
      have e1 : put (a :: t) p = p :: a :: del t p.1 := by
        unfold put del
        rw [List.filter_cons_of_pos (by simp; omega)]
      rw [e1]
      exact (List.Perm.swap a p _).trans (List.Perm.cons a (put_ins p h'.2))
    · split
      · rename_i h1 h2
        have e1 : put (a :: t) p = p :: t := by
          unfold put del
          rw [List.filter_cons_of_neg (by simp [h2])]
          congr 1
          exact List.filter_eq_self.2 (fun e he => by have := h'.1 e he; simp; omega)
        rw [e1]
      · rename_i h1 h2
        have e1 : put (a :: t) p = p :: a :: t := by
          unfold put del
          congr 1
          exact List.filter_eq_self.2 (fun e he => by
            rcases List.mem_cons.1 he with rfl | he
            · simp; omega
            · have := h'.1 e he; simp; omega)
        rw [e1]
theorem len_ins (ps : List Pr) (p : Pr) : (ins ps p).length ≤ ps.length + 1 := by
  induction ps with
  | nil => simp [ins]
  | cons a t ih =>
    unfold ins
    split
    · simp; omega
    · split <;> simp
theorem srt_filter {ps : List Pr} (h : Srt ps) (p : Pr → Bool) : Srt (ps.filter p) := h.filter p
/-- pairs out of keys -/
def build (f : Int → Int) (ks : List Int) : List Pr := ks.foldl (fun ps k => ins ps (k, f k)) []
theorem build_snoc (f : Int → Int) (ks : List Int) (k : Int) : build f (ks ++ [k]) = ins (build f ks) (k, f k) := by unfold build; rw [List.foldl_append]; rfl
theorem foldl_srt (f : Int → Int) : ∀ (ks : List Int) (ps : List Pr), Srt ps → Srt (ks.foldl (fun ps k => ins ps (k, f k)) ps)
  | [], _, h => h
  | k :: t, ps, h => foldl_srt f t _ (srt_ins _ h)
theorem build_srt (f : Int → Int) (ks : List Int) : Srt (build f ks) := foldl_srt f ks [] List.Pairwise.nil
theorem foldl_len (f : Int → Int) : ∀ (ks : List Int) (ps : List Pr), (ks.foldl (fun ps k => ins ps (k, f k)) ps).length ≤ ps.length + ks.length
  | [], _ => by simp
  | k :: t, ps => by
    have h1 := foldl_len f t (ins ps (k, f k))
    have h2 := len_ins ps (k, f k)
    simp only [List.foldl_cons, List.length_cons]
    omega
theorem build_len (f : Int → Int) (ks : List Int) : (build f ks).length ≤ ks.length := by have := foldl_len f ks []; unfold build; rw [List.length_nil] at this; omega
end Go.Proofs.Ytokdamfalhcnnaa.Mo
