/- Small lemmas for statements over numbers and lists: rounds, sums without a wrap, elements of lists. -/
import Derived.Test.YtokdamfalhcnnaaWLast
import Derived.Test.YtokdamfalhcnnaaWMore
import Derived.Lib.Repeat
namespace Go.Proofs.Ytokdamfalhcnnaa.Small
open Go.RowKit Go.Proofs.YtokdamfalhcnnaaW.PrintWords Go.Proofs.YtokdamfalhcnnaaW.PrintLast

theorem Ev.shift {α : Type} {g : Nat → Option α} {r : α} (h : Ev (fun k => g (k + 1)) r) : Ev g r := Ev.step (fun _ => rfl) h
theorem wrap_in {n : Int} (h0 : -9223372036854775808 ≤ n) (h1 : n ≤ 9223372036854775807) : wrap64 n = n := by unfold wrap64; omega
theorem wrap_succ (n : Nat) (h : n < 9223372036854775807) : wrap64 ((n : Int) + 1) = ((n + 1 : Nat) : Int) := by rw [wrap_in (by omega) (by omega)]; omega
theorem rdOf_nat {α : Type} (d : α) (xs : List α) (i : Nat) : rdOf d xs (i : Int) = xs.getD i d := by simp [rdOf]
theorem rd_nat (xs : List Int) (i : Nat) : rd xs (i : Int) = xs.getD i 0 := by simp [rd]
theorem getD_at {α : Type} (d : α) (xs : List α) (i : Nat) (h : i < xs.length) : xs.getD i d = xs[i] := by simp [List.getD_eq_getElem?_getD, List.getElem?_eq_getElem h]
theorem take_succ_at {α : Type} (xs : List α) (i : Nat) (h : i < xs.length) : xs.take (i + 1) = xs.take i ++ [xs[i]] := by rw [List.take_succ_eq_append_getElem h]

/-! ### texts as lists of bytes -/
theorem ba_ext {s t : ByteArray} (h : s.data.toList = t.data.toList) : s = t := by
  cases s; cases t
  simp only at h
  congr 1
  exact Array.toList_inj.1 h
/-- The text of a list of bytes. -/
def str (l : List UInt8) : ByteArray := ⟨l.toArray⟩
theorem str_data (l : List UInt8) : (str l).data.toList = l := rfl
theorem str_of (s : ByteArray) : str s.data.toList = s := ba_ext rfl
theorem str_size (l : List UInt8) : (str l).size = l.length := rfl
theorem size_data (s : ByteArray) : s.data.toList.length = s.size := rfl
theorem str_append (l m : List UInt8) : str (l ++ m) = str l ++ str m := ba_ext (by simp [str_data])
theorem str_inj {l m : List UInt8} (h : str l = str m) : l = m := by have := congrArg (fun s : ByteArray => s.data.toList) h; simpa [str_data] using this
/-- Bytes as whole numbers. -/
def nb (l : List UInt8) : List Int := l.map fun b => (b.toNat : Int)
theorem bytesOf_nb (s : ByteArray) : bytesOf s = nb s.data.toList := rfl
theorem nb_append (l m : List UInt8) : nb (l ++ m) = nb l ++ nb m := by simp [nb]
theorem nb_length (l : List UInt8) : (nb l).length = l.length := by simp [nb]
theorem strOfNums_nb (l : List UInt8) : strOfNums (nb l) = str l := by
  simp only [strOfNums, nb, str, List.map_map]
  congr 2
  refine List.map_congr_left (g := id) ?_ |>.trans (List.map_id l)
  intro b _
  simp
theorem strOfNums_bytesOf (s : ByteArray) : strOfNums (bytesOf s) = s := by rw [bytesOf_nb, strOfNums_nb, str_of]
theorem toList_beq (s : ByteArray) : (s.toList == s.toList) = true := beq_self_eq_true _
theorem toList_data (s : ByteArray) : s.toList = s.data.toList := ByteArray.toList_eq s
theorem toList_str (l : List UInt8) : (str l).toList = l := toList_data _
theorem extract_str (l : List UInt8) (a b : Nat) : (str l).extract a b = str ((l.drop a).take (b - a)) := ba_ext (by rw [ByteArray.data_extract, Array.toList_extract, List.extract_eq_take_drop]; rfl)
theorem extract_data (s : ByteArray) (a b : Nat) : (s.extract a b).data.toList = (s.data.toList.drop a).take (b - a) := by rw [ByteArray.data_extract, Array.toList_extract, List.extract_eq_take_drop]
theorem repeatL_one (b : UInt8) : ∀ n, Lib.repeatL [b] n = List.replicate n b
  | 0 => rfl
  | n + 1 => by rw [Lib.repeatL, repeatL_one b n]; rfl
theorem repeatL_snoc (l : List UInt8) : ∀ n, Lib.repeatL l (n + 1) = Lib.repeatL l n ++ l
  | 0 => by simp [Lib.repeatL]
  | n + 1 => by
    have h := repeatL_snoc l n
    calc Lib.repeatL l (n + 1 + 1) = l ++ Lib.repeatL l (n + 1) := rfl
      _ = l ++ (Lib.repeatL l n ++ l) := by rw [h]
      _ = (l ++ Lib.repeatL l n) ++ l := by rw [List.append_assoc]
      _ = Lib.repeatL l (n + 1) ++ l := rfl
end Go.Proofs.Ytokdamfalhcnnaa.Small
