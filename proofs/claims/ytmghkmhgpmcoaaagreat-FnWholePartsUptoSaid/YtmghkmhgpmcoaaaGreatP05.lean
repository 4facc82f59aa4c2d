/- What the claim's theorem 'proved' rests on: Box. -/
import Derived.Test.YtmghkmhgpmcoaaaGreatP00
set_option linter.unusedVariables false
set_option linter.unusedSimpArgs false
set_option maxRecDepth 100000
set_option maxHeartbeats 10000000
namespace Go.Proofs.YtmghkmhgpmcoaaaGreat
section
open Go.RowKit
theorem b1_0 {w:World}{a:Obj}:(w.alloc a).heap[w.heap.size]?=some a:=A4
theorem Cs {w:World}{a b:Obj}:((w.alloc a).alloc b).heap[w.heap.size]?=some a:=A3 b1_0
theorem BF {w:World}{a b:Obj}:((w.alloc a).alloc b).heap[w.heap.size+1]?=some b:=by simpa using A4 (w:=(w.alloc a)) (o:=b)
theorem b3_0 {w:World}{a b c:Obj}:(((w.alloc a).alloc b).alloc c).heap[w.heap.size]?=some a:=A3 Cs
theorem b3_1 {w:World}{a b c:Obj}:(((w.alloc a).alloc b).alloc c).heap[w.heap.size+1]?=some b:=A3 BF
theorem ET {w:World}{a b c:Obj}:(((w.alloc a).alloc b).alloc c).heap[w.heap.size+1+1]?=some c:=by simpa using A4 (w:=((w.alloc a).alloc b)) (o:=c)
theorem b4_0 {w:World}{a b c d:Obj}:((((w.alloc a).alloc b).alloc c).alloc d).heap[w.heap.size]?=some a:=A3 b3_0
theorem b4_1 {w:World}{a b c d:Obj}:((((w.alloc a).alloc b).alloc c).alloc d).heap[w.heap.size+1]?=some b:=A3 b3_1
theorem b4_2 {w:World}{a b c d:Obj}:((((w.alloc a).alloc b).alloc c).alloc d).heap[w.heap.size+1+1]?=some c:=A3 ET
theorem b4_3 {w:World}{a b c d:Obj}:((((w.alloc a).alloc b).alloc c).alloc d).heap[w.heap.size+1+1+1]?=some d:=by simpa using A4 (w:=(((w.alloc a).alloc b).alloc c)) (o:=d)
theorem b5_0 {w:World}{a b c d e:Obj}:(((((w.alloc a).alloc b).alloc c).alloc d).alloc e).heap[w.heap.size]?=some a:=A3 b4_0
theorem b5_1 {w:World}{a b c d e:Obj}:(((((w.alloc a).alloc b).alloc c).alloc d).alloc e).heap[w.heap.size+1]?=some b:=A3 b4_1
theorem b5_2 {w:World}{a b c d e:Obj}:(((((w.alloc a).alloc b).alloc c).alloc d).alloc e).heap[w.heap.size+1+1]?=some c:=A3 b4_2
theorem b5_3 {w:World}{a b c d e:Obj}:(((((w.alloc a).alloc b).alloc c).alloc d).alloc e).heap[w.heap.size+1+1+1]?=some d:=A3 b4_3
theorem b5_4 {w:World}{a b c d e:Obj}:(((((w.alloc a).alloc b).alloc c).alloc d).alloc e).heap[w.heap.size+1+1+1+1]?=some e:=by simpa using A4 (w:=((((w.alloc a).alloc b).alloc c).alloc d)) (o:=e)
theorem b6_0 {w:World}{a b c d e f:Obj}:((((((w.alloc a).alloc b).alloc c).alloc d).alloc e).alloc f).heap[w.heap.size]?=some a:=A3 b5_0
theorem b6_1 {w:World}{a b c d e f:Obj}:((((((w.alloc a).alloc b).alloc c).alloc d).alloc e).alloc f).heap[w.heap.size+1]?=some b:=A3 b5_1
theorem b6_2 {w:World}{a b c d e f:Obj}:((((((w.alloc a).alloc b).alloc c).alloc d).alloc e).alloc f).heap[w.heap.size+1+1]?=some c:=A3 b5_2
theorem b6_3 {w:World}{a b c d e f:Obj}:((((((w.alloc a).alloc b).alloc c).alloc d).alloc e).alloc f).heap[w.heap.size+1+1+1]?=some d:=A3 b5_3
theorem b6_4 {w:World}{a b c d e f:Obj}:((((((w.alloc a).alloc b).alloc c).alloc d).alloc e).alloc f).heap[w.heap.size+1+1+1+1]?=some e:=A3 b5_4
theorem b6_5 {w:World}{a b c d e f:Obj}:((((((w.alloc a).alloc b).alloc c).alloc d).alloc e).alloc f).heap[w.heap.size+1+1+1+1+1]?=some f:=by simpa using A4 (w:=(((((w.alloc a).alloc b).alloc c).alloc d).alloc e)) (o:=f)
theorem b7_0 {w:World}{a b c d e f g:Obj}:(((((((w.alloc a).alloc b).alloc c).alloc d).alloc e).alloc f).alloc g).heap[w.heap.size]?=some a:=A3 b6_0
theorem b7_1 {w:World}{a b c d e f g:Obj}:(((((((w.alloc a).alloc b).alloc c).alloc d).alloc e).alloc f).alloc g).heap[w.heap.size+1]?=some b:=A3 b6_1
theorem b7_2 {w:World}{a b c d e f g:Obj}:(((((((w.alloc a).alloc b).alloc c).alloc d).alloc e).alloc f).alloc g).heap[w.heap.size+1+1]?=some c:=A3 b6_2
theorem b7_3 {w:World}{a b c d e f g:Obj}:(((((((w.alloc a).alloc b).alloc c).alloc d).alloc e).alloc f).alloc g).heap[w.heap.size+1+1+1]?=some d:=A3 b6_3
theorem b7_4 {w:World}{a b c d e f g:Obj}:(((((((w.alloc a).alloc b).alloc c).alloc d).alloc e).alloc f).alloc g).heap[w.heap.size+1+1+1+1]?=some e:=A3 b6_4
theorem b7_5 {w:World}{a b c d e f g:Obj}:(((((((w.alloc a).alloc b).alloc c).alloc d).alloc e).alloc f).alloc g).heap[w.heap.size+1+1+1+1+1]?=some f:=A3 b6_5
theorem b7_6 {w:World}{a b c d e f g:Obj}:(((((((w.alloc a).alloc b).alloc c).alloc d).alloc e).alloc f).alloc g).heap[w.heap.size+1+1+1+1+1+1]?=some g:=by simpa using A4 (w:=((((((w.alloc a).alloc b).alloc c).alloc d).alloc e).alloc f)) (o:=g)
theorem b8_0 {w:World}{a b c d e f g h:Obj}:((((((((w.alloc a).alloc b).alloc c).alloc d).alloc e).alloc f).alloc g).alloc h).heap[w.heap.size]?=some a:=A3 b7_0
theorem b8_1 {w:World}{a b c d e f g h:Obj}:((((((((w.alloc a).alloc b).alloc c).alloc d).alloc e).alloc f).alloc g).alloc h).heap[w.heap.size+1]?=some b:=A3 b7_1
theorem b8_2 {w:World}{a b c d e f g h:Obj}:((((((((w.alloc a).alloc b).alloc c).alloc d).alloc e).alloc f).alloc g).alloc h).heap[w.heap.size+1+1]?=some c:=A3 b7_2
theorem b8_3 {w:World}{a b c d e f g h:Obj}:((((((((w.alloc a).alloc b).alloc c).alloc d).alloc e).alloc f).alloc g).alloc h).heap[w.heap.size+1+1+1]?=some d:=A3 b7_3
theorem b8_4 {w:World}{a b c d e f g h:Obj}:((((((((w.alloc a).alloc b).alloc c).alloc d).alloc e).alloc f).alloc g).alloc h).heap[w.heap.size+1+1+1+1]?=some e:=A3 b7_4
theorem b8_5 {w:World}{a b c d e f g h:Obj}:((((((((w.alloc a).alloc b).alloc c).alloc d).alloc e).alloc f).alloc g).alloc h).heap[w.heap.size+1+1+1+1+1]?=some f:=A3 b7_5
theorem b8_6 {w:World}{a b c d e f g h:Obj}:((((((((w.alloc a).alloc b).alloc c).alloc d).alloc e).alloc f).alloc g).alloc h).heap[w.heap.size+1+1+1+1+1+1]?=some g:=A3 b7_6
theorem b8_7 {w:World}{a b c d e f g h:Obj}:((((((((w.alloc a).alloc b).alloc c).alloc d).alloc e).alloc f).alloc g).alloc h).heap[w.heap.size+1+1+1+1+1+1+1]?=some h:=by simpa using A4 (w:=(((((((w.alloc a).alloc b).alloc c).alloc d).alloc e).alloc f).alloc g)) (o:=h)
end
end Go.Proofs.YtmghkmhgpmcoaaaGreat
