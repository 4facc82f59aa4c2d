/- What the claim's theorem 'proved' rests on: ToVal. -/
import Derived.Test.YtmghkmhgpmcoaaaGreatP09
set_option linter.unusedVariables false
set_option linter.unusedSimpArgs false
set_option maxRecDepth 100000
set_option maxHeartbeats 10000000
namespace Go.Proofs.YtmghkmhgpmcoaaaGreat
section
open Go Go.RowKit
theorem EZ (v:GV)(H:Hp)(x4 x5:Value)(w:World)(hi:Imm H w)(hv:RV H v x4 x5):
  Calls Tryz.prog 32 #[Ar v x4 x5] w (fun e w'=>Bw w w'∧∃X,e= .returned X∧RVal (A6 H w w') (Ak v) X):=by
 have HP:=Lib.hid (fun w0 h0=>plain_c v.sz v (Nat.le_refl _) H x4 x5 w0 h0 hv)
 have HI:=Lib.hid hi
 obtain⟨hk,hn,hf,hs,h4,a5,c5,rfl,hn5,hl5,hc5,hat5⟩:=By.1 hv
 obtain⟨a4,c4,rfl,hn4,hl4,hc4,hat4⟩:=h4
 clear hi hv hk hn hf hs hn5 hl5 hc5 hat5 hn4 hl4 hc4 hat4
 unfold Ar at HP⊢
 go_enter Tryz.func32,Tryz.ntmps32
 go_wp2_with fail
 refine(HP.out _ (HI.out.below A5)).mono ?_
 rintro _ w1 ⟨hb1,x,rfl,hx⟩
 have HB:=Lib.hid hb1
 have HN:=Lib.hid (newVal_c (Ak v) _ x w1 (Imm.grow (HI.out.below A5) hb1) hx)
 clear hb1 hx
 go_wp2_with fail
 refine HN.out.mono ?_
 rintro _ w2 ⟨hb2,X,rfl,hX⟩
 have HX:=Lib.hid (And.intro hb2 hX)
 clear hb2 hX
 go_wp2_with fail
 go_ret
 have hb:=(A5.tr HB.out).tr HX.out.1
 refine⟨hb,X,rfl,HX.out.2.mono ?_⟩
 have hs1:=HB.out.size
 have hi:=HI.out
 intro k o e
 unfold A6 at e⊢
 by_cases h1:k<w1.heap.size
 ·rw [if_pos h1]at e
  by_cases h0:k<(w.alloc (.cells #[.int .i64 v.k, .int .i64 v.n, .float .f64 v.f, .string v.s, .slice a4 v.ks.length c4, .slice a5 v.l.length c5] 35)).heap.size
  ·rw [if_pos h0]at e
   rw [if_pos (A0 (hi k o e))];exact e
  ·rw [if_neg h0]at e
   rw [if_neg (by simp at h0;omega)];exact A2 HX.out.1 e
 ·rw [if_neg h1]at e
  rw [if_neg (by simp at hs1;omega)];exact e
end
end Go.Proofs.YtmghkmhgpmcoaaaGreat
