/- impl.Grown computes what spec.Grown computes. -/
import Derived.Test.YtjpdkmmpofddlaaGrw
namespace Go.Proofs.Ytjpdkmmpofddlaa.Gro
open Go Go.RowKit Go.Proofs.YtjpdkmmpofddlaaW.PrintWords Go.Proofs.Ytjpdkmmpofddlaa.Mp Go.Proofs.Ytjpdkmmpofddlaa.Cfg Go.Proofs.Ytjpdkmmpofddlaa.Tbl Go.Proofs.Ytjpdkmmpofddlaa.Grw Go.Proofs.Ytjpdkmmpofddlaa.GGrBody

def z45 : Value := .agg #[.string ⟨#[]⟩, .int .i64 0, .int .i64 0, .int .i64 0, .int .i64 0, .bool false, .slice none 0 0, .slice none 0 0, .slice none 0 0, .bool false, .int .i64 0, .int .i64 0, .int .i64 0, .int .i64 0, .nilFunc, .int .i64 0]
theorem info45 : (Try.prog.info? 45).map (fun i => (i.zero, i.size, i.bytes)) = some (some z45, 16, 184) := by kernel_rfl
/-- the greatest width of column i -/
def mk (l1 : List Int) (i : Nat) : Int := if i < l1.length then rd l1 i else 0
def cfgs (l1 : List Int) (n : Nat) : List Cf := (List.range n).map fun i => (false, mk l1 i, 0)
theorem cfgs_succ (l1 : List Int) (n : Nat) : cfgs l1 (n + 1) = cfgs l1 n ++ [(false, mk l1 n, 0)] := by simp [cfgs, List.range_succ]
theorem cfgs_len (l1 : List Int) (n : Nat) : (cfgs l1 n).length = n := by simp [cfgs]
theorem at_mk (l1 : List Int) (j : Nat) : impl_at.f l1 j = some (mk l1 j) := by
  unfold impl_at.f mk
  by_cases h : j < l1.length
  · rw [if_pos (by omega), if_pos (by omega), if_pos h]
  · rw [if_neg (by omega), if_neg h]
theorem hat (l1 : List Int) (n : Nat) (j : Int) (h0 : 0 ≤ j) (h1 : j < n) : spec_at.f l1 j = some (wm (cfgs l1 n) j) := by
  obtain ⟨i, rfl⟩ : ∃ i : Nat, j = i := ⟨j.toNat, by omega⟩
  have e : spec_at.f l1 (i : Int) = some (mk l1 i) := by
    unfold spec_at.f mk
    by_cases h : i < l1.length
    · rw [if_pos (by omega), if_pos (by omega), if_pos h]
    · rw [if_neg (by omega), if_neg h]
  rw [e]
  unfold wm
  rw [cfgs_len, if_pos ⟨h0, h1⟩]
  have hi : i < n := by omega
  simp [cfgs, List.getD_eq_getElem?_getD, hi]

/-- a style with the least width of a row -/
def styleOf (a : Int) : Array Value := #[.string ⟨#[]⟩, .string ⟨#[]⟩, .string ⟨#[]⟩, .string ⟨#[]⟩, .string ⟨#[]⟩, .string ⟨#[]⟩, .string ⟨#[]⟩, .string ⟨#[]⟩, .string ⟨#[]⟩, .string ⟨#[]⟩, .string ⟨#[]⟩, .string ⟨#[]⟩, .string ⟨#[]⟩, .string ⟨#[]⟩, .string ⟨#[]⟩, .string ⟨#[]⟩, .string ⟨#[]⟩, .string ⟨#[]⟩, .string ⟨#[]⟩, .pointer none, .slice none 0 0, .slice none 0 0, .slice none 0 0, .slice none 0 0, .slice none 0 0, .slice none 0 0, .slice none 0 0, .bool false, .int .i64 0, .int .i64 0, .int .i64 0, .int .i64 0, .int .i64 0, .int .i64 0, .int .i64 0, .int .i64 0, .int .i64 0, .int .i64 0, .bool false, .string ⟨#[]⟩, .string ⟨#[]⟩, .bool false, .string ⟨#[]⟩, .bool false, .bool false, .bool false, .bool false, .bool false, .bool false, .bool false, .bool false, .int .i64 0, .int .i64 a, .int .i64 0, .slice none 0 0, .int .i64 0]
theorem built69 (a : Int) : Try.prog.built 69 [(8, .agg #[.int .i64 0, .int .i64 a])] = some (styleOf a) := by kernel_rfl
theorem build69 {ops : Array Oper} {rest : List Oper} {o : Oper} {a : Act} {w : World} {Q : Exit → Act → World → Prop} {n : Int} (x : Operand) (hg : o.guard = none) (ho : o.op = .build 69 #[(8, x)]) (hx : a.eval x = .agg #[.int .i64 0, .int .i64 n])
    (h : wpList Try.prog ops Q rest (a.put o.dst (.agg (styleOf n))) w) : wpList Try.prog ops Q (o :: rest) a w := by
  have e : (#[(8, x)].map fun (i, x) => (i, a.eval x)).toList = [(8, .agg #[.int .i64 0, .int .i64 n])] := by simp [hx]
  refine wpList_build hg 69 _ ho ?_ ?_
  · rw [e, built69]; rfl
  · rw [e, built69]; exact h

theorem zz' (k0 : Nat) (A0 : Option Addr) (c0 : Nat) (l0 l1 : List Int) (A1 : Option Addr) (c1 : Nat) (n m : Nat) (cs : List Cf) (a2 a3 : Int) (res : List Int) (w : World) (hn : n = l0.length) (hm : m = cs.length) (hr0 : Kd.C (Kd.int .i64) w A0 l0.length l0) (hr1 : kd.C w A1 m cs) (h0 : l0.length < 17592186044416) (h1 : m < 17592186044416)
    (hat : ∀ j : Int, 0 ≤ j → j < l0.length → spec_at.f l1 j = some (wm cs j)) (H : spec_Grown.l0 k0 l1 l0 (wrap64 (a3 - a2)) = some res) :
    Calls Try.prog 14 #[.slice A0 n c0, .slice A1 m c1, .agg (styleOf a3), .int .i64 a2] w fun e w' => ∃ v, e = .returned v ∧ Kd.R (Kd.int .i64) 3 w' w.heap.size (fun _ => True) v res ∧ Below w.heap.size w w' := by
  subst hn; subst hm
  exact zz k0 A0 c0 l0 l1 A1 c1 cs (styleOf a3) a2 a3 res w hr0 hr1 rfl h0 h1 rfl hat H

set_option linter.all false in
set_option maxRecDepth 100000 in
set_option maxHeartbeats 2000000 in
theorem calls (k0 : Nat) (A0 : Option Addr) (c0 : Nat) (l0 : List Int) (A1 : Option Addr) (c1 : Nat) (l1 : List Int) (a2 a3 : Int) (res : List Int) (w : World) (hr0 : Kd.C (Kd.int .i64) w A0 l0.length l0) (hr1 : Kd.C (Kd.int .i64) w A1 l1.length l1) (hc1 : l1.length ≤ c1) (hn : l0.length < 17592186044416 / 1024)
    (H : spec_Grown.l0 k0 l1 l0 (wrap64 (a3 - a2)) = some res) :
    Calls Try.prog 7 #[.slice A0 l0.length c0, .slice A1 l1.length c1, .int .i64 a2, .int .i64 a3] w fun e w' => ∃ v, e = .returned v ∧ Kd.R (Kd.int .i64) 3 w' w.heap.size (fun _ => True) v res ∧ Below w.heap.size w w' := by
  obtain ⟨n, hN⟩ : ∃ n, n = l0.length := ⟨_, rfl⟩
  have HH := Aside0.mk H; have HC0 := Aside0.mk hr0; have HC1 := Aside0.mk hr1; have HN := Aside0.mk hN
  rw [← hN] at hn ⊢
  clear H hr0 hr1 hN
  go_enter Try.func7, Try.ntmps7
  go_wp2_with (fail)
  go_loopw [9, 13] (fun v i wr => ∃ j : Nat, j ≤ n ∧ i = .int .i64 j ∧ Kd.R kd 45 wr w.heap.size (fun _ => True) v (cfgs l1 j) ∧ Below w.heap.size w wr) (fun _ i _ => n - (RowKit.intOf i).toNat)
  case atStart => exact ⟨0, by omega, rfl, Kd.R_nil _ _ _ _ _, Below.refl _ _⟩
  case round =>
    obtain ⟨j, hj, rfl, HO, HB⟩ := hrel
    have HOA := Aside0.mk HO
    by_cases hlt : j < n
    · have hd : decide ((j : Int) < (n : Int)) = true := by simp; omega
      clear HO
      have hlen := cfgs_len l1 j
      go_wp2_with (first
        | (go_at_call 13; refine (impl_at.calls _ _ l1 (j : Int) _ _ (Kd.C_below HC1.out (by repeat (first | exact HB | apply below_alloc))) hc1 (at_mk l1 j)).mono ?_; rintro e w1 ⟨rfl, hw1⟩; replace HB := HB.trans (hw1.below.mono HB.size); have HO1 := Aside0.mk (Kd.R_below HOA.out hw1.below); clear hw1 HOA)
        | ((with_reducible refine gate_builtin (b := .append) (xs := #[.tmp 16, .tmp 21]) rfl ?_); at_builtin; refine Kd.R_append kd (w0 := w) w.heap.size rfl (.tmp 16) (.tmp 21) 36 45 z45 184 rfl Try.underlying36 info45 rfl (by decide) (by omega) _ (cfgs l1 j) (false, mk l1 j, 0) (enc (false, mk l1 j, 0)) (fun _ => True) (fun _ => False) rfl rfl rfl (fun _ hk => hk.elim) (fun _ _ => trivial) HO1.out HB HB.size (by rw [hlen]; omega) ?_; intro v1 w2 HO2 HB2 hg2 ha2; clear hg2 ha2))
      go_roundw
      case rel => exact ⟨j + 1, hlt, rfl, by rw [cfgs_succ]; exact HO2, HB2⟩
      case measure => simp [RowKit.intOf]; omega
    · have hd : decide ((j : Int) < (n : Int)) = false := by simp; omega
      obtain rfl : j = n := by omega
      obtain ⟨A, c, rfl, hcl, hC⟩ := Kd.R_reads HO
      have hlen := cfgs_len l1 j
      rw [hlen] at hcl hC
      have CC := Aside0.mk hC
      clear HO HOA hC
      go_wp2_with (first
        | ((with_reducible refine gate_dst (N := 28) rfl ?_); refine build69 (.tmp 27) rfl rfl rfl ?_)
        | (go_at_call 14; go_loud (refine (zz' k0 A0 c0 l0 l1 A c j j (cfgs l1 j) a2 a3 res _ HN.out hlen.symm (Kd.C_below HC0.out HB) CC.out (by have := HN.out; omega) (by omega) (fun i h0 h1 => hat l1 j i h0 (by rw [HN.out]; exact h1)) HH.out).mono ?_; rintro e w1 ⟨v, rfl, hR, hB⟩; have HR := Aside0.mk (Kd.R_lower hR HB.size); replace HB := HB.trans (hB.mono HB.size))))
      go_ret
      exact ⟨_, rfl, HR.out, HB⟩

theorem at_some (l1 : List Int) (j : Int) (h0 : 0 ≤ j) : ∃ t, spec_at.f l1 j = some t := by
  unfold spec_at.f
  by_cases h : j < (l1.length : Int)
  · exact ⟨_, by rw [if_pos h, if_pos h0]⟩
  · exact ⟨_, by rw [if_neg h]⟩
/-- one row of rounds ends, if the rounds with less to be had end -/
theorem inner (l1 : List Int) (n : Nat) (hn : n < 1000000) (L : Nat) (hL : L < 100000000) (IH : ∀ m : Nat, m < L → ∀ ys : List Int, ys.length = n → ∃ k r, spec_Grown.l0 k l1 ys m = some r) :
    ∀ d : Nat, d ≤ n → ∀ (m : Nat) (ys : List Int) (any : Bool), ys.length = n → m ≤ L → (any = true → m < L) → ∃ k r, spec_Grown.l1 k l1 ys m any ((n - d : Nat) : Int) = some r := by
  have ex : ∀ (x : Nat) (m : Nat) (ys : List Int) (any : Bool), ys.length = n → (any = true → m < L) → ∃ k r, (if any = true then spec_Grown.l0 k l1 ys m else some ys) = some r := by
    intro x m ys any hy ha
    cases any with
    | true => obtain ⟨k, r, h⟩ := IH m (ha rfl) ys hy; exact ⟨k, r, by simpa using h⟩
    | false => exact ⟨0, ys, rfl⟩
  intro d
  induction d with
  | zero =>
    intro _ m ys any hy hm ha
    obtain ⟨k, r, h⟩ := ex n m ys any hy ha
    refine ⟨k + 2, r, ?_⟩
    simp only [spec_Grown.l1, spec_Grown.j2]
    rw [if_neg (by omega), if_neg (by simp)]
    exact h
  | succ d ih =>
    intro hd m ys any hy hm ha
    have hw : wrap64 (((n - (d + 1) : Nat) : Int) + 1) = ((n - d : Nat) : Int) := by unfold wrap64; omega
    by_cases hp : 0 < m
    · have hl : wrap64 ((m : Int) - 1) = ((m - 1 : Nat) : Int) := by unfold wrap64; omega
      obtain ⟨t, ht⟩ := at_some l1 ((n - (d + 1) : Nat) : Int) (by omega)
      obtain ⟨k1, r1, h1⟩ := ih (by omega) (m - 1) (ys.set (((n - (d + 1) : Nat) : Int)).toNat (wrap64 ((rd ys ((n - (d + 1) : Nat) : Int)) + 1))) true (by rw [List.length_set]; exact hy) (by omega) (fun _ => by omega)
      obtain ⟨k2, r2, h2⟩ := ih (by omega) m ys any hy hm ha
      have c1 : ((n - (d + 1) : Nat) : Int) < (ys.length : Int) := by omega
      have c0 : (0 : Int) ≤ ((n - (d + 1) : Nat) : Int) := by omega
      have one : ∀ k, spec_Grown.l1 (k + 2) l1 ys m any ((n - (d + 1) : Nat) : Int) = if t = 0 then spec_Grown.l1 k l1 (ys.set (((n - (d + 1) : Nat) : Int)).toNat (wrap64 ((rd ys ((n - (d + 1) : Nat) : Int)) + 1))) ((m - 1 : Nat) : Int) true ((n - d : Nat) : Int) else if rd ys ((n - (d + 1) : Nat) : Int) < t then spec_Grown.l1 k l1 (ys.set (((n - (d + 1) : Nat) : Int)).toNat (wrap64 ((rd ys ((n - (d + 1) : Nat) : Int)) + 1))) ((m - 1 : Nat) : Int) true ((n - d : Nat) : Int) else spec_Grown.l1 k l1 ys m any ((n - d : Nat) : Int) := by
        intro k
        simp only [spec_Grown.l1, spec_Grown.j2]
        rw [if_pos c1, if_pos (by simpa using hp)]
        simp only [ht, Option.bind_some, if_pos c0, if_pos c1, hw, hl]
      by_cases z : t = 0
      · exact ⟨k1 + 2, r1, by rw [one, if_pos z]; exact h1⟩
      · by_cases q : rd ys ((n - (d + 1) : Nat) : Int) < t
        · exact ⟨k1 + 2, r1, by rw [one, if_neg z, if_pos q]; exact h1⟩
        · exact ⟨k2 + 2, r2, by rw [one, if_neg z, if_neg q]; exact h2⟩
    · obtain ⟨k, r, h⟩ := ex n m ys any hy ha
      refine ⟨k + 2, r, ?_⟩
      simp only [spec_Grown.l1, spec_Grown.j2]
      rw [if_pos (by omega), if_neg (by simp; omega)]
      exact h
theorem outer (l1 : List Int) (n : Nat) (hn : n < 1000000) : ∀ L : Nat, L < 100000000 → ∀ ys : List Int, ys.length = n → ∃ k r, spec_Grown.l0 k l1 ys L = some r := by
  intro L
  induction L using Nat.strongRecOn with
  | ind L ih =>
    intro hL ys hy
    by_cases hp : 0 < L
    · obtain ⟨k, r, h⟩ := inner l1 n hn L hL (fun m hm ys hy => ih m hm (by omega) ys hy) n (Nat.le_refl _) L ys false hy (Nat.le_refl _) (fun h => by cases h)
      rw [Nat.sub_self] at h
      exact ⟨k + 1, r, by simp only [spec_Grown.l0]; rw [if_pos (by omega)]; exact h⟩
    · exact ⟨1, ys, by simp only [spec_Grown.l0]; rw [if_neg (by omega)]⟩
theorem ends (l0 l1 : List Int) (a2 a3 : Int) (h0 : l0.length ≤ 60) (h2 : 0 ≤ a2) (h2' : a2 ≤ 3000) (h3 : 0 ≤ a3) (h3' : a3 ≤ 3000) : ∃ k r, spec_Grown.l0 k l1 l0 (wrap64 (a3 - a2)) = some r := by
  have hw : wrap64 (a3 - a2) = a3 - a2 := by unfold wrap64; omega
  rw [hw]
  by_cases h : 0 < a3 - a2
  · obtain ⟨k, r, h⟩ := outer l1 l0.length (by omega) (a3 - a2).toNat (by omega) l0 rfl
    exact ⟨k, r, by rw [Int.toNat_of_nonneg (by omega)] at h; exact h⟩
  · exact ⟨1, l0, by simp only [spec_Grown.l0]; rw [if_neg (by omega)]⟩

theorem len (l1 : List Int) : ∀ k, (∀ ys m r, spec_Grown.l0 k l1 ys m = some r → r.length = ys.length) ∧ (∀ ys m any x r, spec_Grown.l1 k l1 ys m any x = some r → r.length = ys.length) ∧ (∀ ys m any x b r, spec_Grown.j2 k l1 ys m any x b = some r → r.length = ys.length) := by
  intro k
  induction k with
  | zero => exact ⟨fun _ _ _ h => by simp [spec_Grown.l0] at h, fun _ _ _ _ _ h => by simp [spec_Grown.l1] at h, fun _ _ _ _ _ _ h => by simp [spec_Grown.j2] at h⟩
  | succ k ih =>
    obtain ⟨i0, i1, i2⟩ := ih
    refine ⟨fun ys m r h => ?_, fun ys m any x r h => ?_, fun ys m any x b r h => ?_⟩
    · simp only [spec_Grown.l0] at h
      split at h
      · exact i1 _ _ _ _ _ h
      · rw [← Option.some.inj h]
    · simp only [spec_Grown.l1] at h
      split at h
      · exact i2 _ _ _ _ _ _ h
      · exact i2 _ _ _ _ _ _ h
    · simp only [spec_Grown.j2] at h
      split at h
      · obtain ⟨t, _, h⟩ := Option.bind_eq_some_iff.mp h
        split at h
        · split at h
          · split at h
            · have := i1 _ _ _ _ _ h; rwa [List.length_set] at this
            · cases h
          · cases h
        · split at h
          · split at h
            · split at h
              · have := i1 _ _ _ _ _ h; rwa [List.length_set] at this
              · exact i1 _ _ _ _ _ h
            · cases h
          · cases h
      · split at h
        · exact i0 _ _ _ h
        · rw [← Option.some.inj h]

/-- what both compute -/
noncomputable def grownF (l0 l1 : List Int) (a2 a3 : Int) : Option (List Int) :=
  open Classical in if h : l0.length ≤ 60 ∧ ∃ r k, spec_Grown.l0 k l1 l0 (wrap64 (a3 - a2)) = some r then some (Classical.choose h.2) else none
theorem grownF_spec {l0 l1 : List Int} {a2 a3 : Int} {r : List Int} (h : grownF l0 l1 a2 a3 = some r) : l0.length ≤ 60 ∧ ∃ k, spec_Grown.l0 k l1 l0 (wrap64 (a3 - a2)) = some r := by
  unfold grownF at h
  split at h
  · rename_i hc
    obtain rfl := Option.some.inj h
    exact ⟨hc.1, Classical.choose_spec hc.2⟩
  · cases h
theorem grownF_some (l0 l1 : List Int) (a2 a3 : Int) (h0 : l0.length ≤ 60) (h2 : 0 ≤ a2) (h2' : a2 ≤ 3000) (h3 : 0 ≤ a3) (h3' : a3 ≤ 3000) : ∃ r, grownF l0 l1 a2 a3 = some r := by
  obtain ⟨k, r, h⟩ := ends l0 l1 a2 a3 h0 h2 h2' h3 h3'
  unfold grownF
  rw [dif_pos ⟨h0, r, k, h⟩]
  exact ⟨_, rfl⟩
theorem spec_f (k : Nat) (l0 l1 : List Int) (a2 a3 : Int) (h0 : l0.length ≤ 60) : spec_Grown.f k l0 l1 a2 a3 = spec_Grown.l0 k l1 l0 (wrap64 (a3 - a2)) := by
  unfold spec_Grown.f
  simp only [Option.bind_some, List.length_nil, Nat.zero_add, List.nil_append]
  rw [if_pos (by omega)]
end Go.Proofs.Ytjpdkmmpofddlaa.Gro
