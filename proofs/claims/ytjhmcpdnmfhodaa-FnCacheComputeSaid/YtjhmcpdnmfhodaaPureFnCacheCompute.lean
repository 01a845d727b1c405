/- GetOrCompute asks its function just where Get finds nothing, and gives what Get gives then; asked of scripts of at most 300 known calls. -/
import Derived.Test.YtjhmcpdnmfhodaaOpnFnCacheCompute
namespace Go.Proofs.Ytjhmcpdnmfhodaa.Pure
open Go.RowKit Go.Proofs.Ytjhmcpdnmfhodaa.GFnCacheCompute Go.Proofs.Ytjhmcpdnmfhodaa.Opn Go.Proofs.Ytjhmcpdnmfhodaa.OpnFnCacheCompute Go.Proofs.YtjhmcpdnmfhodaaW.PrintWords Go.Proofs.YtjhmcpdnmfhodaaW.PrintLast

theorem in64 {k : Int} (h : (Lit.int .i64 k).wf = true) : Lrc.In64 k := by
  have := bounds_i64 h
  unfold Lrc.In64
  omega
theorem FnCacheCompute : OpnFnCacheCompute.Pure := by
  intro a0 l1 a2 a3 h0 _ hl h2 h3
  have hb := bounds_u8 h0
  unfold laws_FnCacheCompute.f
  exact if_pos ⟨hb.1, hb.2, in64 h2, fun x hx => in64 (hl x hx).2.1⟩

end Go.Proofs.Ytjhmcpdnmfhodaa.Pure
