/- What the claim's theorem 'proved' rests on: FpNew. -/
import Derived.Test.YtmghkmhgpmcoaaaGreatP22
set_option linter.unusedVariables false
set_option linter.unusedSimpArgs false
set_option maxRecDepth 100000
set_option maxHeartbeats 10000000
namespace Go.Proofs.YtmghkmhgpmcoaaaGreat
section
open Go Go.RowKit Go.MapKept
theorem newSet_c (w:World):Calls Tryz.prog 60 #[.slice none 0 0] w (fun e w'=>e= .returned (.pointer (some ⟨w.heap.size,0,none⟩))∧Bw w w'∧w'.heap[w.heap.size]?=some AK∧w'.heap.size=w.heap.size+1):=by
 go_enter Tryz.func60,Tryz.ntmps60
 go_wp2_with fail
 go_loopw [10] (fun i wr=>i= .int .i64 0∧wr=w.alloc AK) (fun _ _=>0)
 case atStart=>exact⟨rfl,rfl⟩
 case round=>
  rename_i wr
  obtain⟨rfl,rfl⟩:=hrel
  go_wp2_with fail
  go_ret
  exact⟨rfl,A5,A4,by simp⟩
end
end Go.Proofs.YtmghkmhgpmcoaaaGreat
