/- What the claim's theorem 'proved' rests on: DoMapR. -/
import Derived.Test.YtmghkmhgpmcoaaaGreatP21
set_option linter.unusedVariables false
set_option linter.unusedSimpArgs false
set_option maxRecDepth 100000
set_option maxHeartbeats 10000000
namespace Go.Proofs.YtmghkmhgpmcoaaaGreat
section
open Go Go.RowKit Go.MapKept
theorem typedmerge_doMapR (ks ks2:List ByteArray)(vs vs2:List JT)(hl:0<ks.length)(H:Hp)(bl br wb bt ha r r2:Nat)(rel:ByteArray)(hrel:(rel.toList==An)=false)(w:World)(Q:World→World→Prop)(hi:Imm H w)
  (cx:A8 H bl 0=some (.iface 190 (.map (some r)))) (hx:RJ H (.map ks vs) (.iface 190 (.map (some r))))
  (cy:A8 H br 0=some (.iface 190 (.map (some r2)))) (hy:RJ H (.map ks2 vs2) (.iface 190 (.map (some r2)))) (ct:A8 H bt 8=some (.string rel))
  (k0:w.cell? ⟨wb,0,none⟩=some (Ab bl)) (k1:w.cell? ⟨wb,1,none⟩=some (Ab br)) (ka:w.cell? ⟨wb,15,none⟩=some (.iface 185 (.pointer (some ⟨ha,0,none⟩))))
  (hD:∀w1,Bw w w1→Calls Tryz.prog 284 #[.pointer (some ⟨wb,0,none⟩), .pointer (some ⟨bt,0,none⟩), .iface 446 (.map (some r)), .iface 446 (.map (some r2))] w1 (fun e w2=>e= .returned (.slice none 0 0)∧Q w1 w2)):
  Calls Tryz.prog 279 #[.pointer (some ⟨wb,0,none⟩), .pointer (some ⟨bt,0,none⟩)] w (fun e w2=>e= .returned (.slice none 0 0)∧∃w1,Bw w w1∧Q w1 w2):=by
 have HI:=Lib.hid hi
 have HX:=Lib.hid (And.intro cx (And.intro hx (And.intro cy (And.intro hy ct))))
 obtain⟨r',es,ck,e,hm⟩:=hx.mapAt
 cases e
 have HM:=Lib.hid hm
 have hll:ks.length≤4294967296:=hm.lim_
 have HD:=Lib.hid hD
 have hlt:=Ah ka
 have hz:((ks.length:Int)==0)=false:=by have:¬(ks.length:Int)=0:=(by omega);simpa using this
 have m1:=fun w=>DU (some r) w
 have m7:=fun a w=>Bq a w
 unfold An at hrel
 clear hi cx hx cy hy ct hD hl hm
 go_enter_defers Tryz.func279,Tryz.ntmps279
 go_wp2_with fail
 refine(Cf ks vs H bl wb ha r _ w HI.out HX.out.1 HX.out.2.1 ka).mono ?_
 rintro _ wa ⟨rfl,hwa⟩
 have HBa:=Lib.hid hwa
 have l0:=cell_later hwa k0
 have l1:=cell_later hwa k1
 have la:=cell_later hwa ka
 have hla:=Ah la
 clear k0 k1 ka hwa
 go_wp2_with fail
 refine(Cf ks2 vs2 H br wb ha r2 _ wa (HI.out.below HBa.out) HX.out.2.2.1 HX.out.2.2.2.1 la).mono ?_
 rintro _ wc ⟨rfl,hwc⟩
 have HBc:=Lib.hid (Bw.tr HBa.out hwc)
 have la':=cell_later hwc la
 have hlc:=Ah la'
 clear l0 l1 la hwc
 go_wp2_with fail
 refine(Eu HM.out wc (HI.out.below HBc.out)).mono ?_
 rintro _ wd ⟨rfl,hwd⟩
 have HBd:=Lib.hid (Bw.tr HBc.out hwd)
 have kt:=(HI.out.below HBd.out).cell HX.out.2.2.2.2
 clear la' hwd
 go_wp2_with fail
 refine(HD.out wd HBd.out).mono ?_
 rintro _ we ⟨rfl,hq⟩
 have HQ:=Lib.hid hq
 clear hq kt
 go_wp2_with fail
 refine leaves_cons (f:=274) (args:= #[.pointer (some ⟨ha,0,none⟩), .iface 446 (.map (some r2))]) (by simp) (by simp [go_sem,m7]) ?_
 refine(Bn _ _ _ _).mono ?_
 rintro _ _ _ ⟨rfl,rfl,rfl⟩
 refine leaves_cons (f:=274) (args:= #[.pointer (some ⟨ha,0,none⟩), .iface 446 (.map (some r))]) (by simp [settle]) (by simp [go_sem,m7]) ?_
 refine(Bn _ _ _ _).mono ?_
 rintro _ _ _ ⟨rfl,rfl,rfl⟩
 exact⟨.slice none 0 0,(by simp [results,Tryz.results279,go_sem]),rfl,wd,HBd.out,HQ.out⟩
theorem typedcompare_doMapR (ks ks2:List ByteArray)(vs vs2:List JT)(hl:0<ks.length)(H:Hp)(bl br wb bt ha r r2:Nat)(rel:ByteArray)(hrel:(rel.toList==An)=false)(w:World)(Q:World→World→Prop)(hi:Imm H w)
  (cx:A8 H bl 0=some (.iface 190 (.map (some r)))) (hx:RJ H (.map ks vs) (.iface 190 (.map (some r))))
  (cy:A8 H br 0=some (.iface 190 (.map (some r2)))) (hy:RJ H (.map ks2 vs2) (.iface 190 (.map (some r2)))) (ct:A8 H bt 8=some (.string rel))
  (k0:w.cell? ⟨wb,0,none⟩=some (Ab bl)) (k1:w.cell? ⟨wb,1,none⟩=some (Ab br)) (ka:w.cell? ⟨wb,13,none⟩=some (.iface 185 (.pointer (some ⟨ha,0,none⟩))))
  (hD:∀w1,Bw w w1→Calls Tryz.prog 208 #[.pointer (some ⟨wb,0,none⟩), .pointer (some ⟨bt,0,none⟩), .iface 446 (.map (some r)), .iface 446 (.map (some r2))] w1 (fun e w2=>e= .returned (.slice none 0 0)∧Q w1 w2)):
  Calls Tryz.prog 202 #[.pointer (some ⟨wb,0,none⟩), .pointer (some ⟨bt,0,none⟩)] w (fun e w2=>e= .returned (.slice none 0 0)∧∃w1,Bw w w1∧Q w1 w2):=by
 have HI:=Lib.hid hi
 have HX:=Lib.hid (And.intro cx (And.intro hx (And.intro cy (And.intro hy ct))))
 obtain⟨r',es,ck,e,hm⟩:=hx.mapAt
 cases e
 have HM:=Lib.hid hm
 have hll:ks.length≤4294967296:=hm.lim_
 have HD:=Lib.hid hD
 have hlt:=Ah ka
 have hz:((ks.length:Int)==0)=false:=by have:¬(ks.length:Int)=0:=(by omega);simpa using this
 have m1:=fun w=>DU (some r) w
 have m7:=fun a w=>Bq a w
 unfold An at hrel
 clear hi cx hx cy hy ct hD hl hm
 go_enter_defers Tryz.func202,Tryz.ntmps202
 go_wp2_with fail
 refine(C4 ks vs H bl wb ha r _ w HI.out HX.out.1 HX.out.2.1 ka).mono ?_
 rintro _ wa ⟨rfl,hwa⟩
 have HBa:=Lib.hid hwa
 have l0:=cell_later hwa k0
 have l1:=cell_later hwa k1
 have la:=cell_later hwa ka
 have hla:=Ah la
 clear k0 k1 ka hwa
 go_wp2_with fail
 refine(C4 ks2 vs2 H br wb ha r2 _ wa (HI.out.below HBa.out) HX.out.2.2.1 HX.out.2.2.2.1 la).mono ?_
 rintro _ wc ⟨rfl,hwc⟩
 have HBc:=Lib.hid (Bw.tr HBa.out hwc)
 have la':=cell_later hwc la
 have hlc:=Ah la'
 clear l0 l1 la hwc
 go_wp2_with fail
 refine(Eu HM.out wc (HI.out.below HBc.out)).mono ?_
 rintro _ wd ⟨rfl,hwd⟩
 have HBd:=Lib.hid (Bw.tr HBc.out hwd)
 have kt:=(HI.out.below HBd.out).cell HX.out.2.2.2.2
 clear la' hwd
 go_wp2_with fail
 refine(HD.out wd HBd.out).mono ?_
 rintro _ we ⟨rfl,hq⟩
 have HQ:=Lib.hid hq
 clear hq kt
 go_wp2_with fail
 refine leaves_cons (f:=274) (args:= #[.pointer (some ⟨ha,0,none⟩), .iface 446 (.map (some r2))]) (by simp) (by simp [go_sem,m7]) ?_
 refine(Bn _ _ _ _).mono ?_
 rintro _ _ _ ⟨rfl,rfl,rfl⟩
 refine leaves_cons (f:=274) (args:= #[.pointer (some ⟨ha,0,none⟩), .iface 446 (.map (some r))]) (by simp [settle]) (by simp [go_sem,m7]) ?_
 refine(Bn _ _ _ _).mono ?_
 rintro _ _ _ ⟨rfl,rfl,rfl⟩
 exact⟨.slice none 0 0,(by simp [results,Tryz.results202,go_sem]),rfl,wd,HBd.out,HQ.out⟩
end
end Go.Proofs.YtmghkmhgpmcoaaaGreat
