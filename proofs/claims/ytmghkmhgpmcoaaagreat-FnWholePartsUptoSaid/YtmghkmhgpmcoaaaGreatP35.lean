/- What the claim's theorem 'proved' rests on: TcTop. -/
import Derived.Test.YtmghkmhgpmcoaaaGreatP26
import Derived.Test.YtmghkmhgpmcoaaaGreatP33
import Derived.Test.YtmghkmhgpmcoaaaGreatP34
set_option linter.unusedVariables false
set_option linter.unusedSimpArgs false
set_option maxRecDepth 100000
set_option maxHeartbeats 10000000
namespace Go.Proofs.YtmghkmhgpmcoaaaGreat
section
open Go Go.RowKit Go.MapKept
def CT (b0 bM b2:Nat):Obj:= .cells #[.pointer (some ⟨b0,0,none⟩), .pointer (some ⟨bM,0,none⟩), .pointer (some ⟨b2,0,none⟩)] 104
theorem tc_Compare (s:List Ax)(rr:As)(sc:ByteArray)(key:ByteArray)(r fe:As)(rel:ByteArray)(rest:List Bp)(a:Ap)(t u:JT)(hres:Av s rr=some ⟨sc,[],⟨[⟨key,r,[]⟩],fe,rel⟩::rest⟩)(hrel:(rel.toList==An)=false)(hsc:sc.toList.isEmpty=true)(hnr:Bf ⟨sc,[],⟨[⟨key,r,[]⟩],fe,rel⟩::rest⟩=true)(hnq:Dt rr=true)
  (hrec:Av s r=some a) (hnn:Bf a=true) (h1:Ck a t) (h2:Ck a u) (hks:key.size≤lim) (bR bl br:Nat) (S:Option Addr) (y:Six)
  (H:Hp) (w0:World) (hi0:Imm H w0) (hS:AO Ak H s (.pointer S)) (hr:BM Ak H rr y) (x yv:Value) (cx:A8 H bl 0=some x) (cy:A8 H br 0=some yv) (hx:RJ H (.map [key] [t]) x) (hy:RJ H (.map [key] [u]) yv)
  (hbR0:w0.heap[bR]?=some (B9 (Ab br) y S)):
  Calls Tryz.prog 37 #[.agg #[Ab bl, .pointer y.y0, .pointer y.y1, .pointer y.y2, .pointer y.y3, .pointer y.y4, .bool false, .pointer S], .pointer (some ⟨bR,0,none⟩)] w0 (fun e w'=>Bw w0 w'∧∃bC b0 bM b2,e= .returned (.tuple #[.pointer (some ⟨bC,0,none⟩), .nilIface])∧w'.heap[bC]?=some (CT b0 bM b2)∧w'.heap[b0]?=some AK∧w'.heap[b2]?=some AK∧B4 w0.heap.size bM key (eqJ u t) w'):=by
 have HT:=Lib.hid (fun m wb bM q0 q2 hL hR hl e1 e2 e3 e4 wz hi hS hr hHw hHM hb hC hM hwM hcw hcM=>tc_root m s rr sc key r fe rel rest a t u hres hrel hsc hnr hrec hnn h1 h2 hks bl br wb bM q0 q2 hL hR hl e1 e2 e3 e4 H wz hi hS hr x yv cx cy hx hy hHw hHM hb hC hM hwM hcw hcM)
 obtain⟨bs,xs,eS,hS1,hS2⟩:=hS
 cases eS
 have HS:=Lib.hid (show AO Ak H s (.pointer (some ⟨bs,0,none⟩)) from⟨bs,xs,rfl,hS1,hS2⟩)
 obtain⟨w,hw⟩:∃w,w=(w0.alloc (B9 (Ab bl) y (some ⟨bs,0,none⟩))).alloc (B9 (Ab bl) y (some ⟨bs,0,none⟩)):=⟨_,rfl⟩
 obtain⟨bL,hbLe⟩:∃bL,bL=w0.heap.size+1:=⟨_,rfl⟩
 have H0:Hid (Bw w0 w∧bL=w0.heap.size+1):=by subst hw;exact⟨Am,hbLe⟩
 have hi:=hi0.below H0.out.1
 have hbL:w.heap[bL]?=some (B9 (Ab bl) y (some ⟨bs,0,none⟩)):=by subst hw;subst hbLe;exact BF
 have hbR:=A2 H0.out.1 hbR0
 have hBRl:=A0 hbR0
 have HI:=Lib.hid (And.intro hi (And.intro hr (And.intro hbL hbR)))
 unfold B9 at hbL hbR hw
 have HE:=Lib.hid (fun w0 h0=>refEquals_c rr (fun k=>if k=bL∨k=bR then w.heap[k]? else H k) y bL 1 bR 1 w0 h0 (hr.mono (by
   intro k o e;show(if k=bL∨k=bR then w.heap[k]? else H k)=some o;split
   ·exact hi k o e
   ·exact e)) (by
   have q:=(A1 hbL).1
   have hcc:∀i,A8 (fun k=>if k=bL∨k=bR then w.heap[k]? else H k) bL i=w.cell? ⟨bL,i,none⟩:=fun i=>by
    rw [←Ai];unfold A8 At;simp
   refine⟨?_, ?_, ?_, ?_, ?_, ?_⟩<;>rw [hcc]
   ·exact q 1
   ·exact q 2
   ·exact q 3
   ·exact q 4
   ·exact q 5
   ·exact q 6) (by
   have q:=(A1 hbR).1
   have hcc:∀i,A8 (fun k=>if k=bL∨k=bR then w.heap[k]? else H k) bR i=w.cell? ⟨bR,i,none⟩:=fun i=>by
    rw [←Ai];unfold A8 At;simp
   refine⟨?_, ?_, ?_, ?_, ?_, ?_⟩<;>rw [hcc]
   ·exact q 1
   ·exact q 2
   ·exact q 3
   ·exact q 4
   ·exact q 5
   ·exact q 6) hnq)
 have HX:Hid (Imm (fun k=>if k=bL∨k=bR then w.heap[k]? else H k) w):=by
  intro k o e
  change (if k=bL∨k=bR then w.heap[k]? else H k)=some o at e
  split at e
  ·exact e
  ·exact hi k o e
 rcases y with⟨y0,y1,y2,y3,y4⟩
 simp only at hbL hbR hw
 obtain⟨q,f⟩:=A1 hbL
 obtain⟨q2,f2⟩:=A1 hbR
 have hlL:=A0 hbL
 have hlR:=A0 hbR
 have a7:=q 7
 have c7:=q2 7
 have g7:=cell_regrown a7
 have h7:=cell_regrown c7
 have HBL:=Lib.hid (And.intro hbL hbR)
 clear q q2 hi hr cx cy hx hy hbL hbR h1 h2 hS1 hS2 hi0 hbR0
 go_enter Tryz.func37,Tryz.ntmps37
 go_upto_region 2 with(fail)
 rw [←hw]
 rw [←hbLe]
 clear hw hbLe
 refine wp_region_quiet_below (by kernel_rfl) (by kernel_rfl) ?_
 repeat (go_big_quiet_step (fail))
 refine wpQuiet_nil ?_
 intro _ hw'
 obtain⟨⟨dq,osq⟩,hw''⟩:=hw'
 subst hw''
 obtain⟨wa,hwa,hw'⟩:∃x,Bw w x∧x=Go.Sort.grow (redrawn w dq) osq:=⟨_,below_regrown _ _ _,rfl⟩
 rw [←hw']
 clear hw'
 go_wp2_with fail
 refine(HE.out wa (HX.out.below hwa)).mono ?_
 rintro _ wb ⟨rfl,hwb⟩
 have hB:=hwa.tr hwb
 obtain⟨q,f⟩:=A1 (A2 hB HBL.out.1)
 obtain⟨q2,f2⟩:=A1 (A2 hB HBL.out.2)
 have hlL:=A0 (A2 hB HBL.out.1)
 have hlR:=A0 (A2 hB HBL.out.2)
 clear g7 h7 a7 c7
 go_upto_region 7 with(fail)
 obtain⟨wz,hwz⟩:∃wz,wz=wb.alloc (.cells #[.nilIface, .nilIface, .pointer none, .pointer none, .pointer none, .pointer none, .pointer none, .pointer none, .bool false, .slice none 0 0, .pointer none, .bool false, .pointer none, .nilIface] 145):=⟨_,rfl⟩
 have HZ:Hid (Bw wb wz∧wz.heap[wb.heap.size]?=some (.cells #[.nilIface, .nilIface, .pointer none, .pointer none, .pointer none, .pointer none, .pointer none, .pointer none, .bool false, .slice none 0 0, .pointer none, .bool false, .pointer none, .nilIface] 145)∧wz.heap.size=wb.heap.size+1):=by
  subst hwz;exact⟨A5,A4,by simp⟩
 rw [←hwz]
 clear hwz q f q2 f2
 obtain⟨q,f⟩:=A1 (A2 HZ.out.1 (A2 hB HBL.out.1))
 obtain⟨q2,f2⟩:=A1 (A2 HZ.out.1 (A2 hB HBL.out.2))
 obtain⟨qz,fz⟩:=A1 HZ.out.2.1
 have hlL2:=A0 (A2 HZ.out.1 (A2 hB HBL.out.1))
 have hlR2:=A0 (A2 HZ.out.1 (A2 hB HBL.out.2))
 have hlz:=A0 HZ.out.2.1
 have n1:¬bL=wb.heap.size:=by omega
 have n2:¬bR=wb.heap.size:=by omega
 have n3:¬wb.heap.size=bL:=by omega
 have n4:¬wb.heap.size=bR:=by omega
 go_upto_region 11 with(fail)
 obtain⟨ws,hws⟩:∃ws,ws=(((((((((wz.setCell ⟨wb.heap.size,0,none⟩ (Ab bl)).setCell ⟨wb.heap.size,1,none⟩ (Ab br)).setCell ⟨wb.heap.size,2,none⟩ (.pointer (some ⟨bs,0,none⟩))).setCell ⟨wb.heap.size,3,none⟩ (.pointer y0)).setCell ⟨wb.heap.size,4,none⟩ (.pointer y1)).setCell ⟨wb.heap.size,5,none⟩ (.pointer y2)).setCell ⟨wb.heap.size,6,none⟩ (.pointer y3)).setCell ⟨wb.heap.size,7,none⟩ (.pointer y4)).setCell ⟨wb.heap.size,8,none⟩ (.bool false)):=⟨_,rfl⟩
 have HW:Hid (Az wz ws wb.heap.size∧ws.heap[wb.heap.size]?=some (.cells #[Ab bl,Ab br, .pointer (some ⟨bs,0,none⟩), .pointer y0, .pointer y1, .pointer y2, .pointer y3, .pointer y4, .bool false, .slice none 0 0, .pointer none, .bool false, .pointer none, .nilIface] 145)):=by
  subst hws
  refine⟨((((((((((Az.refl wz _).set _ _).set _ _).set _ _).set _ _).set _ _).set _ _).set _ _).set _ _).set _ _), ?_⟩
  simpa using(Ac (Ac (Ac (Ac (Ac (Ac (Ac (Ac (Ac HZ.out.2.1 0 (Ab bl)) 1 (Ab br)) 2 (.pointer (some ⟨bs,0,none⟩))) 3 (.pointer y0)) 4 (.pointer y1)) 5 (.pointer y2)) 6 (.pointer y3)) 7 (.pointer y4)) 8 (.bool false))
 rw [←hws]
 clear hws q f q2 f2 qz fz
 have hlw:wb.heap.size<ws.heap.size:=A0 HW.out.2
 go_wp2_with fail
 refine(newSet_c ws).mono ?_
 rintro _ wn1 ⟨rfl,hn1,hx1,hs1⟩
 have HN1:=Lib.hid (And.intro hn1 (And.intro hx1 hs1))
 clear hn1 hx1 hs1
 go_wp2_with fail
 refine(newSet_c wn1).mono ?_
 rintro _ wn2 ⟨rfl,hn2,hx2,hs2⟩
 have HN2:=Lib.hid (And.intro hn2 (And.intro hx2 hs2))
 clear hn2 hx2 hs2
 go_wp2_with fail
 refine(newSet_c wn2).mono ?_
 rintro _ wn3 ⟨rfl,hn3,hx3,hs3⟩
 have HN3:=Lib.hid (And.intro hn3 (And.intro hx3 hs3))
 have hwb3:=A2 hn3 (A2 HN2.out.1 (A2 HN1.out.1 HW.out.2))
 clear hn3 hx3 hs3
 obtain⟨qz,fz⟩:=A1 hwb3
 have hl3:wb.heap.size<wn3.heap.size:=A0 hwb3
 have hl4:wb.heap.size<wn3.heap.size+1:=by omega
 have HB3:=Lib.hid hwb3
 clear hwb3
 go_upto_region 12 with(fail)
 obtain⟨wc,hwc⟩:∃wc,wc=(wn3.setCell ⟨wb.heap.size,10,none⟩ (.pointer (some ⟨wn3.heap.size,0,none⟩))).alloc (CT ws.heap.size wn1.heap.size wn2.heap.size):=⟨_,rfl⟩
 have HC:Hid ((∃wt,Az wn3 wt wb.heap.size∧Bw wt wc)∧wc.heap[wb.heap.size]?=some (.cells #[Ab bl,Ab br, .pointer (some ⟨bs,0,none⟩), .pointer y0, .pointer y1, .pointer y2, .pointer y3, .pointer y4, .bool false, .slice none 0 0, .pointer (some ⟨wn3.heap.size,0,none⟩), .bool false, .pointer none, .nilIface] 145)∧wc.heap.size=wn3.heap.size+1∧wc.heap[wn3.heap.size]?=some (CT ws.heap.size wn1.heap.size wn2.heap.size)):=by
  have ht:Az wn3 (wn3.setCell ⟨wb.heap.size,10,none⟩ (.pointer (some ⟨wn3.heap.size,0,none⟩))) wb.heap.size:=(Az.refl _ _).set _ _
  have hs:=ht.size
  subst hwc
  refine⟨⟨_,ht,A5⟩,A3 ?_,by simp,by have:=A4 (w:=wn3.setCell ⟨wb.heap.size,10,none⟩ (.pointer (some ⟨wn3.heap.size,0,none⟩))) (o:=CT ws.heap.size wn1.heap.size wn2.heap.size);rwa [hs]at this⟩
  simpa using Ac HB3.out 10 (.pointer (some ⟨wn3.heap.size,0,none⟩))
 unfold CT at hwc
 rw [←hwc]
 clear hwc qz fz
 have hlc:wb.heap.size<wc.heap.size:=A0 HC.out.2.1
 obtain⟨qz,fz⟩:=A1 HC.out.2.1
 go_wp2_with fail
 refine(newHA_c wc).mono ?_
 rintro _ wh ⟨rfl,hwh⟩
 have HH:Hid (Bw wc wh∧wh.heap[wb.heap.size]?=some (.cells #[Ab bl,Ab br, .pointer (some ⟨bs,0,none⟩), .pointer y0, .pointer y1, .pointer y2, .pointer y3, .pointer y4, .bool false, .slice none 0 0, .pointer (some ⟨wn3.heap.size,0,none⟩), .bool false, .pointer none, .nilIface] 145)∧wh.heap.size=wc.heap.size+1):=by subst hwh;exact⟨A5,A3 HC.out.2.1,by simp⟩
 clear hwh qz fz
 have hlh:wb.heap.size<wh.heap.size:=A0 HH.out.2.1
 obtain⟨qz,fz⟩:=A1 HH.out.2.1
 go_upto_region 14 with(fail)
 obtain⟨wm,hwm⟩:∃wm,wm=wh.setCell ⟨wb.heap.size,13,none⟩ (.iface 185 (.pointer (some ⟨wc.heap.size,0,none⟩))):=⟨_,rfl⟩
 have HM:Hid (Az wh wm wb.heap.size∧wm.heap[wb.heap.size]?=some (⟨Ab bl,Ab br,some ⟨bs,0,none⟩,⟨y0,y1,y2,y3,y4⟩,none,0,0,wn3.heap.size,false,none,wc.heap.size⟩:CW).obj):=by
  subst hwm
  refine⟨(Az.refl wh _).set _ _, ?_⟩
  have:=Ac HH.out.2.1 13 (.iface 185 (.pointer (some ⟨wc.heap.size,0,none⟩)))
  unfold CW.obj
  simpa using this
 rw [←hwm]
 clear hwm qz fz
 have e1:=HN1.out.1.size
 have e2:=HN2.out.1.size
 have e3:=HN3.out.1.size
 have e4:=HN1.out.2.2
 have e5:=HN2.out.2.2
 have e6:=HN3.out.2.2
 obtain⟨wt,hT,hTc⟩:=HC.out.1
 have e7:=hT.size
 have e8:=HH.out.2.2
 have e9:=HM.out.1.size
 have e10:wc.heap.size=wn3.heap.size+1:=HC.out.2.2.1
 have hfar:∀k o,wn3.heap[k]?=some o→k≠wb.heap.size→wm.heap[k]?=some o:=fun k o ho hk=>by
  have hl:=A0 ho
  rw [HM.out.1.block k hk,HH.out.1.block k (by omega),hTc.block k (by omega),hT.block k hk]
  exact ho
 have hM0:wm.heap[wn1.heap.size]?=some AK:=hfar _ _ (A2 HN3.out.1 HN2.out.2.1) (by omega)
 have h00:wm.heap[ws.heap.size]?=some AK:=hfar _ _ (A2 HN3.out.1 (A2 HN2.out.1 HN1.out.2.1)) (by omega)
 have h22:wm.heap[wn2.heap.size]?=some AK:=hfar _ _ HN3.out.2.1 (by omega)
 have hcc:wm.heap[wn3.heap.size]?=some (CT ws.heap.size wn1.heap.size wn2.heap.size):=by
  rw [HM.out.1.block _ (by omega),HH.out.1.block _ (by omega)];exact HC.out.2.2.2
 have hBs:=hB.size
 have HBM:Hid (Bw w wm):=((((((((hB.tr HZ.out.1).turn hBs HW.out.1).tr HN1.out.1).tr HN2.out.1).tr HN3.out.1).turn hBs hT).tr hTc).tr HH.out.1).turn hBs HM.out.1
 have hno:∀k,wb.heap.size≤k→H k=none:=fun k hk=>by
  cases hh:H k with
  |none=>rfl
  |some o=>have:=A0 (HI.out.1 _ _ hh);omega
 have HMC:=Lib.hid (HT.out (⟨Ab bl,Ab br,some ⟨bs,0,none⟩,⟨y0,y1,y2,y3,y4⟩,none,0,0,wn3.heap.size,false,none,wc.heap.size⟩:CW) wb.heap.size wn1.heap.size (some ⟨ws.heap.size,0,none⟩) (some ⟨wn2.heap.size,0,none⟩) rfl rfl rfl rfl rfl rfl rfl wm (HI.out.1.below HBM.out) HS.out HI.out.2.1 (hno _ (Nat.le_refl _)) (hno _ (by omega)) HM.out.2 hcc hM0 (by omega) (show wn3.heap.size≠wb.heap.size by omega) (show wn3.heap.size≠wn1.heap.size by omega))
 have hlm:wb.heap.size<wm.heap.size:=A0 HM.out.2
 have HE2:=Lib.hid (And.intro h00 (And.intro h22 hcc))
 have HEE:=Lib.hid (And.intro e1 (And.intro e2 (And.intro e3 (And.intro e4 (And.intro e5 (And.intro e6 (And.intro e8 (And.intro e9 e10))))))))
 clear hno hM0 h00 h22 hcc hfar e1 e2 e3 e4 e5 e6 e7 e8 e9 e10
 go_wp2_with fail
 refine HMC.out.mono ?_
 rintro _ wn ⟨rfl,hfr,⟨pa,pn,pc,sp,hmo⟩,hmod⟩
 have hmo2:=hmo
 unfold CW.obj at hmo2
 simp only at hmo2
 have HN:=Lib.hid (And.intro hfr (And.intro hmo2 hmod))
 obtain⟨qm,fm⟩:=A1 hmo2
 have hlm2:=A0 hmo2
 clear hfr hmo hmo2 hmod HMC
 go_wp2_with fail
 go_ret2
 obtain⟨e1,e2,e3,e4,e5,e6,e8,e9,e10⟩:=HEE.out
 obtain⟨hfr,hmo2,hmod⟩:=HN.out
 have hbs:=HBM.out.size
 have hb0:=H0.out.1
 refine⟨?_,wn3.heap.size,ws.heap.size,wn1.heap.size,wn2.heap.size,rfl, ?_, ?_, ?_,hmod.weak (by have:=hb0.size;omega)⟩
 ·refine H0.out.1.tr ⟨hfr.os.trans HBM.out.os,hfr.tape.trans HBM.out.tape,hfr.output.trans HBM.out.output,Nat.le_trans HBM.out.size hfr.size,fun k hk=> ?_⟩
  rw [hfr.block k (by omega) (by omega)];exact HBM.out.block k hk
 ·rw [hfr.block _ (A0 HE2.out.2.2) (by omega)];exact HE2.out.2.2
 ·rw [hfr.block _ (A0 HE2.out.1) (by omega)];exact HE2.out.1
 ·rw [hfr.block _ (A0 HE2.out.2.1) (by omega)];exact HE2.out.2.1
end
end Go.Proofs.YtmghkmhgpmcoaaaGreat
