/- A mapper is a map, whatever is done to it, call by call, and whatever is asked of it; asked of at most 300 known calls and 100 keys. -/
import Derived.Test.YtokdamfalhcnnaaOpnFnMapper
namespace Go.Proofs.Ytokdamfalhcnnaa.Pure
open Go.RowKit Go.Proofs.Ytokdamfalhcnnaa.GFnMapper Go.Proofs.Ytokdamfalhcnnaa.Opn Go.Proofs.Ytokdamfalhcnnaa.OpnFnMapper Go.Proofs.YtokdamfalhcnnaaW.PrintWords Go.Proofs.YtokdamfalhcnnaaW.PrintLast

theorem in64 {k : Int} (h : (Lit.int .i64 k).wf = true) : Mq.In64 k := by
  have := bounds_i64 h
  unfold Mq.In64
  omega
theorem FnMapper : OpnFnMapper.Pure := by
  intro a0 l1 l2 a3 h0 _ hl1 _ hl2 h3
  unfold laws_FnMapper.f
  exact if_pos ⟨bounds_u8 h0, fun x hx => in64 (hl1 x hx), fun x hx => ⟨in64 (hl2 x hx).1, in64 (hl2 x hx).2.1, in64 (hl2 x hx).2.2.1⟩, in64 h3⟩

end Go.Proofs.Ytokdamfalhcnnaa.Pure
