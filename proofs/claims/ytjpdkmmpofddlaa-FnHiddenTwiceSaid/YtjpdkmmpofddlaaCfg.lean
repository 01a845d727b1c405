/- Columns' configs: a row of structs of sixteen cells each, as the walks carry it. -/
import Derived.Test.YtjpdkmmpofddlaaMp
import Derived.Test.YtjpdkmmpofddlaaGGrBodyx
import Derived.Laws.Rows
import Derived.Laws.Cells
namespace Go.Proofs.Ytjpdkmmpofddlaa.Cfg
open Go Go.RowKit Go.Proofs.YtjpdkmmpofddlaaW.PrintWords

/-- hidden, the greatest width, the least width -/
abbrev Cf := Bool × Int × Int
def enc (x : Cf) : List Value := [.string ⟨#[]⟩, .int .i64 0, .int .i64 0, .int .i64 0, .int .i64 0, .bool false, .slice none 0 0, .slice none 0 0, .slice none 0 0, .bool x.1, .int .i64 0, .int .i64 0, .int .i64 0, .int .i64 x.2.1, .nilFunc, .int .i64 x.2.2]
theorem enc_len (x : Cf) : (enc x).length = 16 := rfl
theorem enc_one (x : Cf) : ∀ u ∈ enc x, u.oneCell' = true := by
  intro u hu
  simp only [enc, List.mem_cons, List.not_mem_nil, or_false] at hu
  rcases hu with h | h | h | h | h | h | h | h | h | h | h | h | h | h | h | h <;> subst h <;> rfl

def kd : Kd Cf where
  sz := 16
  E := []
  K := fun _ x cs => cs = enc x
  M := fun _ _ _ x cs => cs = enc x
  K_len := fun h => by rw [h]; rfl
  K_one := fun h => by rw [h]; exact enc_one _
  K_below := fun _ h => h
  K_of_M := fun h => h
  M_mono := fun _ h => h
  M_bound := fun h => h
  M_move := fun _ h => h
  M_lower := fun _ h => h

theorem load_at (P : Program) (ty : TypeId) (w : World) (ad : Addr) (d : TypeDesc) (c : List Value) (hu : P.underlying ty = some d) (hd : (match d with | .struct _ | .array _ _ => true | _ => false) = true) (hi : (P.info? ty).map (·.size) = some c.length)
    (hc : ∀ j u, c[j]? = some u → w.cell? (ad.add j) = some u) : (loadVar ty ad).run P w = .ok (.agg c.toArray) w := by
  have hl := run_loadCells_list (P := P) w ad c hc
  cases hq : P.info? ty with
  | none => simp [hq] at hi
  | some i =>
    have hs : i.size = c.length := by simpa [hq] using hi
    have hagg : (isAgg ty).run P w = .ok true w := by
      unfold isAgg
      cases d <;> simp_all [run_underlying hu]
    unfold loadVar
    simp [hagg, sizeOf, typeInfo, hq, hs, hl]
theorem exec_load {P : Program} {o : Oper} {a : Act} {w : World} {t : TypeId} {p : Operand} {ad : Addr} {v : Value} (ho : o.op = .load t p) (hp : a.eval p = .pointer (some ad)) (hl : (loadVar t ad).run P w = .ok v w) : (execOp a.eval o).run P w = .ok (.value v) w := by
  unfold execOp
  simp [ho, hp, Instr.loadAt, Instr.sureAddr, hl, Result.andThen]
end Go.Proofs.Ytjpdkmmpofddlaa.Cfg
