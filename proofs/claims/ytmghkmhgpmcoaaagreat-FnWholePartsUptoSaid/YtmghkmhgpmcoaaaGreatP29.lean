/- What the claim's theorem 'proved' rests on: GrowN. -/
import Derived.Test.YtmghkmhgpmcoaaaGreatP08
set_option linter.unusedVariables false
set_option linter.unusedSimpArgs false
set_option maxRecDepth 100000
set_option maxHeartbeats 10000000
namespace Go.Proofs.YtmghkmhgpmcoaaaGreat
section
open Go Go.RowKit
def BU (H:Hp)(n:Nat)(wr:World):Hp:=fun k=>if k<n then H k else wr.heap[k]?
theorem growN_imm {H:Hp}{w wr:World}{n:Nat}(hi:Imm H w)(hb:Bw w wr):Imm (BU H n wr) wr:=by
 intro k o e
 unfold BU at e
 by_cases hk:k<n
 ·rw [if_pos hk]at e;exact A2 hb (hi k o e)
 ·rw [if_neg hk]at e;exact e
theorem hle_growN {H:Hp}{w wr:World}{n:Nat}(hi:Imm H w)(hn:w.heap.size≤n):Hle H (BU H n wr):=by
 intro k o e
 unfold BU
 rw [if_pos (by have:=A0 (hi k o e);omega)];exact e
theorem growN_mono {H:Hp}{wr w1:World}{n:Nat}(h:∀k o,n≤k→wr.heap[k]?=some o→w1.heap[k]?=some o):Hle (BU H n wr) (BU H n w1):=by
 intro k o e
 unfold BU at e⊢
 by_cases hk:k<n
 ·rw [if_pos hk]at e⊢;exact e
 ·rw [if_neg hk]at e⊢;exact h k o (by omega) e
theorem growN_bw {H:Hp}{wr w1:World}{n:Nat}(hb:Bw wr w1):Hle (BU H n wr) (BU H n w1):=growN_mono fun k o _ e=>A2 hb e
theorem grow_growN {H:Hp}{w wp w1:World}{n:Nat}(hi:Imm H w)(hw:w.heap.size≤n)(hn:n≤wp.heap.size):Hle (A6 H wp w1) (BU H n w1):=by
 intro k o e
 unfold A6 at e
 unfold BU
 by_cases hk:k<wp.heap.size
 ·rw [if_pos hk]at e
  rw [if_pos (by have:=A0 (hi k o e);omega)];exact e
 ·rw [if_neg hk]at e
  rw [if_neg (by omega)];exact e
theorem growN_step {H:Hp}{w1 w2 wz:World}{n:Nat}(hn:n≤w1.heap.size)(hb:Bw w1 w2)(hz:∀k,n≤k→wz.heap[k]?=w2.heap[k]?):Hle (A6 (BU H n w1) w1 w2) (BU H n wz):=by
 intro k o e
 unfold A6 at e
 by_cases hk:k<w1.heap.size
 ·rw [if_pos hk]at e
  unfold BU at e⊢
  by_cases h:k<n
  ·rw [if_pos h]at e⊢;exact e
  ·rw [if_neg h]at e⊢;rw [hz k (by omega)];exact A2 hb e
 ·rw [if_neg hk]at e
  unfold BU
  rw [if_neg (by omega),hz k (by omega)];exact e
theorem growN_grow {H:Hp}{w wr w2:World}{n:Nat}(hi:Imm H w)(hn:w.heap.size≤n)(hz:∀k o,n≤k→wr.heap[k]?=some o→w2.heap[k]?=some o):Hle (BU H n wr) (A6 H w w2):=by
 intro k o e
 unfold BU at e
 unfold A6
 by_cases h:k<n
 ·rw [if_pos h]at e
  rw [if_pos (A0 (hi k o e))];exact e
 ·rw [if_neg h]at e
  rw [if_neg (by omega)];exact hz k o (by omega) e
end
end Go.Proofs.YtmghkmhgpmcoaaaGreat
