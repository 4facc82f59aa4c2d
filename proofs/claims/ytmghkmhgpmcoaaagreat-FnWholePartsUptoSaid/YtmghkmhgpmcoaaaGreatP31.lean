/- What the claim's theorem 'proved' rests on: FromVal. -/
import Derived.Test.YtmghkmhgpmcoaaaGreatP19
import Derived.Test.YtmghkmhgpmcoaaaGreatP27
set_option linter.unusedVariables false
set_option linter.unusedSimpArgs false
set_option maxRecDepth 100000
set_option maxHeartbeats 10000000
namespace Go.Proofs.YtmghkmhgpmcoaaaGreat
section
open Go Go.RowKit Go.MapKept
theorem fromValue_c (t:JT)(H:Hp)(b:Nat)(x:Value)(w:World)(hi:Imm H w)(cx:A8 H b 0=some x)(hx:RJ H t x):
  Calls Tryz.prog 34 #[Ab b] w (RetV E0 w (AE t)):=by
 have HI:=Lib.hid (And.intro hi hx)
 have HC:=Lib.hid (fun w0 h0=>fromTree_c t.sz t (Nat.le_refl _) H x w0 h0 hx)
 have kx:(w.alloc (CY 0 (.slice none 0 0) (.slice none 0 0))).cell? ⟨b,0,none⟩=some x:=(hi.below A5).cell cx
 have mm:=EG kx
 unfold CY at mm kx
 clear hi cx hx
 go_enter Tryz.func34,Tryz.ntmps34
 go_wp2_with fail
 refine(unstr_c x _).mono ?_
 rintro _ w1 ⟨rfl,hb1⟩
 have HB1:=Lib.hid (A5.tr hb1:Bw w w1)
 have hbx:=A2 hb1 A4
 have HBX:=Lib.hid hbx
 clear mm kx hb1 hbx
 go_wp2_with fail
 refine(HC.out w1 (HI.out.1.below HB1.out)).mono ?_
 rintro _ w2 ⟨hb2,x4,x5,rfl,hv⟩
 obtain⟨a4,c4,a5,c5,rfl,rfl⟩:=hv.open
 have HV:=Lib.hid (And.intro hb2 hv)
 have hbx:=A2 hb2 HBX.out
 obtain⟨q,f⟩:=A1 hbx
 have hl:=A0 hbx
 unfold Ar
 clear hb2 hv hbx
 go_wp2_with fail
 refine bodyPost_ret (v:= .agg #[.int .i64 (AE t).k, .int .i64 (AE t).n, .float .f64 (AE t).f, .string (AE t).s, .slice a4 (AE t).ks.length c4, .slice a5 (AE t).l.length c5]) (by simp [results,Tryz.results34,go_sem,q]) rfl ?_
 obtain⟨hb2,hv⟩:=HV.out
 have hs1:=HB1.out.size
 have hl1:=A0 HBX.out
 refine⟨?_,_,_,rfl,hv.mono (Ba (E0i w) (by omega) fun k o hk e=> ?_)⟩
 ·have hb:=HB1.out.tr hb2
  repeat with_reducible (first|exact hb|refine Bw.set ?_ (by omega) _ _)
 ·have hk1:¬k=w.heap.size:=by omega
  repeat rw [Ag _ _ _ _ _ hk1]
  exact e
end
end Go.Proofs.YtmghkmhgpmcoaaaGreat
