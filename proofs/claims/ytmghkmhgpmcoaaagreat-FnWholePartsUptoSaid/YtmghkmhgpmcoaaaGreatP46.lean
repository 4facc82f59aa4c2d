/- What the claim's theorem 'proved' rests on: FsItem, FsVisit, FsTop. -/
import Derived.Test.YtmghkmhgpmcoaaaGreatP26
import Derived.Test.YtmghkmhgpmcoaaaGreatP33
import Derived.Test.YtmghkmhgpmcoaaaGreatP45
set_option linter.unusedVariables false
set_option linter.unusedSimpArgs false
set_option maxRecDepth 100000
set_option maxHeartbeats 10000000
namespace Go.Proofs.YtmghkmhgpmcoaaaGreat
section
open Go Go.RowKit Go.MapKept
theorem meth_AsMap {w:World}{b:Nat}{x:Value}(h:w.cell? ⟨b,0,none⟩=some x):(method 594 184 (.pointer (some ⟨b,0,none⟩)) "AsMap").run Tryz.prog w= .ok (263, .agg #[x]) w:=
 AC (by kernel_rfl) (by kernel_rfl) (Cr h)
theorem methm_Iterate (r:Option Nat)(w:World):(method 594 446 (.map r) "Iterate").run Tryz.prog w= .ok (331, .map r) w:=by kernel_rfl
theorem asMap0_c r (w:World):Calls Tryz.prog 263 #[.agg #[.iface 190 (.map r)]] w (Pur w (.iface 446 (.map r))):=by
 have hc:=fun u w=>asMap_c r u w
 go_enter Tryz.func263,Tryz.ntmps263
 go_wp2_with fail
 refine(hc _ _).mono ?_
 rintro _ w1 ⟨rfl,hb⟩
 go_wp2_with fail
 go_ret
 exact⟨rfl,Am.tr hb⟩
structure FsBoxes (w:World) (be bw bT wb bt:Nat):Prop where
 e:w.heap[be]?=some (.cells #[.slice none 0 0] 157)
 w_:w.heap[bw]?=some (.cells #[.pointer (some ⟨wb,0,none⟩)] 154)
 t_:w.heap[bT]?=some (.cells #[.pointer (some ⟨bt,0,none⟩)] 78)
def FsItem (m:FW)(wb bM be bw bT bt:Nat)(key:ByteArray)(w:World):Ending→World→Prop:=fun e w'=>e= .returned (.bool true)∧Fr (fun k=>k=wb∨k=bM∨k=be) w.heap.size w w'∧FsBoxes w' be bw bT wb bt∧
 (∃pa pn pc sp,w'.heap[wb]?=some ({m with pa:=pa,pn:=pn,pc:=pc,spare:=sp}:FW).obj)∧B4 w.heap.size bM key false w'
theorem fs_item (m:FW)(wb bt bv b1 be bw bT bM:Nat)(key:ByteArray)(r:As)(t:JT)(x:Value)(H:Hp)(w:World)(hx:FsBoxes w be bw bT wb bt)(hL:m.L=Ab b1)(hset:m.set=bM)(hsp:m.spare=none)(hpa:m.pa=none)(hpn:m.pn=0)(hpc:m.pc=0)
  (hi:Imm H w) (hHw:H wb=none) (hHM:H bM=none) (hHe:H be=none) (hwM:wb≠bM) (hks:key.size≤lim) (ht:OneF H bt key r) (hb:w.heap[wb]?=some m.obj) (hM0:w.heap[bM]?=some AK) (cx:A8 H bv 0=some x) (hv:RJ H t x) (hnull:t.isNull=false) (hem:∀ks vs,t= .map ks vs→0<ks.length)
  (n1:¬bw=be) (n2:¬bT=be) (hw:∀k,(k=be∨k=bw∨k=bT)→¬k=wb∧¬k=bM) (hM:ChildF H r t m.S bM):
  Calls Tryz.prog 252 #[.string key,Ab bv, .pointer (some ⟨bT,0,none⟩), .pointer (some ⟨bw,0,none⟩), .pointer (some ⟨be,0,none⟩)] w (FsItem m wb bM be bw bT bt key w):=by
 obtain⟨⟨xf,hxf,hsl⟩,⟨ye,hye⟩⟩:=ht
 have HF:=Lib.hid (fun w0 h0=>findField_c H [⟨key,r,[]⟩] key bt xf w0 h0 hxf hsl)
 have hlast:Dy [⟨key,r,[]⟩] key [(⟨key,r,[]⟩:Au)].length=some ⟨key,r,[]⟩:=by simp [Dy]
 rw [hlast]at HF
 obtain⟨q0,f0⟩:=A1 hx.e
 obtain⟨q1,f1⟩:=A1 hx.w_
 obtain⟨q2,f2⟩:=A1 hx.t_
 have hlt:=A0 hb
 have hltM:=A0 hM0
 have hltt:bt<w.heap.size:=Ah (hi.cell hxf)
 have hl0:=A0 hx.e
 have hl1:=A0 hx.w_
 have hl2:=A0 hx.t_
 obtain⟨k0,k1,k2,k3,k4,k5⟩:=hye.look hi
 have HI:=Lib.hid (And.intro hi (And.intro hb (And.intro hM0 (And.intro hM hx))))
 have HN:=Lib.hid (And.intro hHw (And.intro hHM (And.intro hHe (And.intro hwM hw))))
 have HV:=Lib.hid (And.intro cx (And.intro hv (And.intro hnull hem)))
 clear hi hb hM0 hM hlast hxf hsl hye hx hHw hHM hHe hwM hw cx hv hnull hem
 go_enter Tryz.func252,Tryz.ntmps252
 go_upto_region 3 with(fail)
 obtain⟨wa,hwa⟩:∃wa,wa=((w.alloc (.cells #[.string key] 9)).alloc (.cells #[.pointer (some ⟨w.heap.size,0,none⟩), .pointer none, .pointer none, .pointer none] 227)).alloc (.cells #[.pointer ye.y0, .pointer ye.y1, .pointer ye.y2, .pointer ye.y3, .pointer ye.y4, .bool false] 83):=⟨_,rfl⟩
 have HA:Hid (Bw w wa∧wa.heap.size=w.heap.size+3∧wa.heap[w.heap.size]?=some (.cells #[.string key] 9)∧wa.heap[w.heap.size+1]?=some (.cells #[.pointer (some ⟨w.heap.size,0,none⟩), .pointer none, .pointer none, .pointer none] 227)∧wa.heap[w.heap.size+1+1]?=some (.cells #[.pointer ye.y0, .pointer ye.y1, .pointer ye.y2, .pointer ye.y3, .pointer ye.y4, .bool false] 83)):=by
  subst hwa;exact⟨Co,by simp,b3_0,b3_1,ET⟩
 rw [←hwa]
 clear hwa q0 f0 q1 f1 q2 f2 k0 k1 k2 k3 k4 k5
 obtain⟨qt,ft⟩:=A1 (A2 HA.out.1 HI.out.2.2.2.2.t_)
 obtain⟨qk,fk⟩:=A1 HA.out.2.2.1
 have hla:=A0 (A2 HA.out.1 HI.out.2.2.2.2.t_)
 have hlk:=A0 HA.out.2.2.1
 go_wp2_with fail
 refine(HF.out _ (HI.out.1.below HA.out.1)).mono ?_
 rintro _ w1 ⟨hb1,y,xd,rfl,hq⟩
 obtain rfl:xd= .nilIface:=hq.2.2
 have HQ:=Lib.hid (And.intro hq.2.1 hb1)
 have hx2:=A2 hb1 HA.out.2.2.2.2
 obtain⟨q2,f2⟩:=A1 hx2
 have hl3:w.heap.size+1+1<w1.heap.size:=A0 hx2
 have HX2:=Lib.hid hx2
 clear hb1 hq hx2 qt ft qk fk
 go_upto_region 6 with(fail)
 obtain⟨ws,hws⟩:∃ws,ws=((((((w1.setCell ⟨w.heap.size+1+1,0,none⟩ (.pointer y.y0)).setCell ⟨w.heap.size+1+1,1,none⟩ (.pointer y.y1)).setCell ⟨w.heap.size+1+1,2,none⟩ (.pointer y.y2)).setCell ⟨w.heap.size+1+1,3,none⟩ (.pointer y.y3)).setCell ⟨w.heap.size+1+1,4,none⟩ (.pointer y.y4)).setCell ⟨w.heap.size+1+1,5,none⟩ (.bool false)):=⟨_,rfl⟩
 have HS:Hid (Az w1 ws (w.heap.size+1+1)∧ws.heap[w.heap.size+1+1]?=some (.cells #[.pointer y.y0, .pointer y.y1, .pointer y.y2, .pointer y.y3, .pointer y.y4, .bool false] 83)):=by
  subst hws
  refine⟨((((((Az.refl w1 _).set _ _).set _ _).set _ _).set _ _).set _ _).set _ _, ?_⟩
  simpa using Ac (Ac (Ac (Ac (Ac (Ac HX2.out 0 (.pointer y.y0)) 1 (.pointer y.y1)) 2 (.pointer y.y2)) 3 (.pointer y.y3)) 4 (.pointer y.y4)) 5 (.bool false)
 rw [←hws]
 obtain⟨wd,hwd⟩:∃wd,wd=ws.alloc (.cells #[.string key, .pointer y.y0, .pointer y.y1, .pointer y.y2, .pointer y.y3, .pointer y.y4, .bool false, .nilIface] 241):=⟨_,rfl⟩
 have HD:Hid (Bw w wd∧wd.heap[w.heap.size]?=some (.cells #[.string key] 9)∧wd.heap[w.heap.size+1]?=some (.cells #[.pointer (some ⟨w.heap.size,0,none⟩), .pointer none, .pointer none, .pointer none] 227)∧wd.heap[w.heap.size+1+1]?=some (.cells #[.pointer y.y0, .pointer y.y1, .pointer y.y2, .pointer y.y3, .pointer y.y4, .bool false] 83)∧w.heap.size+3≤wd.heap.size):=by
  have hsz:=HS.out.1.size
  have hs1:=HQ.out.2.size
  have hs2:=HA.out.2.1
  subst hwd
  refine⟨((HA.out.1.tr HQ.out.2).turn (by omega) HS.out.1).al _,A3 ?_,A3 ?_,A3 HS.out.2,by simp;omega⟩
  ·rw [HS.out.1.block _ (by omega)];exact A2 HQ.out.2 HA.out.2.2.1
  ·rw [HS.out.1.block _ (by omega)];exact A2 HQ.out.2 HA.out.2.2.2.1
 rw [←hwd]
 clear hws hwd q2 f2
 obtain⟨q0,f0⟩:=A1 HD.out.2.2.1
 obtain⟨q1,f1⟩:=A1 HD.out.2.2.2.1
 obtain⟨q2,f2⟩:=A1 (A2 HD.out.1 HI.out.2.2.2.2.w_)
 have hl4:=A0 HD.out.2.2.1
 have hl5:=A0 HD.out.2.2.2.1
 have hl6:=A0 (A2 HD.out.1 HI.out.2.2.2.2.w_)
 have HPC:=Lib.hid (fs_prep m wb b1 (some ⟨w.heap.size,0,none⟩) y wd hL hsp hpa hpn hpc (A2 HD.out.1 HI.out.2.1))
 go_wp2_with fail
 refine HPC.out.mono ?_
 rintro _ wp ⟨hfr,w2b,sp,pr,pc,eb,rfl,g1,g2,g3,g4,g5,g6,g7,g8,g9,j1,j2,j3,j4,j5,j6⟩
 have HP:=Lib.hid (And.intro hfr (And.intro g1 (And.intro g2 (And.intro g3 (And.intro g4 (And.intro g5 (And.intro g6 (And.intro g7 (And.intro g8 g9)))))))))
 have HP3:=Lib.hid (And.intro j1 (And.intro j2 (And.intro j3 (And.intro j4 (And.intro j5 j6)))))
 unfold FW.obj at j4
 simp only at j4
 obtain⟨q,f⟩:=A1 j4
 have hlw:=A0 j4
 clear HPC hfr g1 g2 g3 g4 g5 g6 g7 g8 g9 j1 j2 j3 j4 j5 j6 q0 f0 q1 f1 q2 f2
 go_upto_region 8 with(fail)
 obtain⟨wm,hwm⟩:∃wm,wm=wp.setCell ⟨w2b,0,none⟩ (Ab bv):=⟨_,rfl⟩
 have HMM:Hid (Az wp wm w2b∧wm.heap[w2b]?=some (⟨Ab bv,m.S,y,m.set,some ⟨pr,0,none⟩,1,pc,some ⟨sp,0,none⟩,m.ha⟩:FW).obj):=by
  subst hwm
  refine⟨(Az.refl wp _).set _ _, ?_⟩
  have:=Ac HP3.out.2.2.2.1 0 (Ab bv)
  unfold FW.obj at this⊢
  simpa using this
 rw [←hwm]
 clear hwm q f
 have hdz:=HD.out.1.size
 have hpz:=HP.out.1.size
 have hmz:=HMM.out.1.size
 have HFM:Hid (Fr (fun k=>k=wb) w.heap.size w wm):=by
  have a:=HD.out.1
  have b:=HP.out.1
  have c:=HMM.out.1
  have e4:=HP.out.2.1
  exact⟨c.os.trans (b.os.trans a.os),c.tape.trans (b.tape.trans a.tape),c.output.trans (b.output.trans a.output),by omega,fun k hk hx=>by rw [c.block k (by omega),b.block k (by omega) hx];exact a.block k hk⟩
 have HIM:Hid (Imm H wm):=HFM.out.imm HI.out.1 (fun k hk=>by subst hk;exact HN.out.1)
 have hnM:¬bM=w2b:=by have:=HP.out.2.1;omega
 have hMm:wm.heap[bM]?=some AK:=(HFM.out.block bM hltM (fun h=>HN.out.2.2.2.1 h.symm)).trans HI.out.2.2.1
 have hcp:wm.cell? ⟨pr,0,none⟩=some (.pointer (some ⟨w.heap.size,0,none⟩))∧wm.cell? ⟨pr,1,none⟩=some (.pointer none)∧wm.cell? ⟨pr,2,none⟩=some (.pointer none)∧wm.cell? ⟨pr,3,none⟩=some (.pointer none):=Cb (HMM.out.1.block pr HP.out.2.2.2.2.2.1) HP3.out.2.2.2.2.1
 have HC:=Lib.hid (fun w0 (hb0:Bw wm w0)=>HI.out.2.2.2.1 H bv pr (some ⟨w.heap.size,0,none⟩) x w0 w2b ⟨Ab bv,m.S,y,m.set,some ⟨pr,0,none⟩,1,pc,some ⟨sp,0,none⟩,m.ha⟩ y (Hle.refl _) (HIM.out.below hb0) HV.out.1 HV.out.2.1 HQ.out.1 rfl rfl rfl hset rfl rfl (A2 hb0 hMm) (BJ hb0 hcp) hnM (A2 hb0 HMM.out.2))
 have hee:wm.heap[be]?=some (.cells #[.slice none 0 0] 157):=(HFM.out.block be hl0 (HN.out.2.2.2.2 be (.inl rfl)).1).trans HI.out.2.2.2.2.e
 have HEE:=Lib.hid (And.intro hee hMm)
 obtain⟨q,f⟩:=A1 hee
 have hle:=A0 hee
 have hnbM:¬be=bM:=(HN.out.2.2.2.2 be (.inl rfl)).2
 clear hee hMm hcp hnM
 go_cut [] (fun wx=>∃wy w2,Bw wm wy∧FsOut wy bM (some ⟨w.heap.size,0,none⟩) none none none w2∧Az w2 wx be∧wx.heap[be]?=some (.cells #[.slice none 0 0] 157))
 case first=>
  go_region_law
   (first
    |(go_simp;refine(HC.out _ (by first|exact Bw.rfl|exact Bw.rfl.dr)).mono ?_;rintro _ w2 ⟨rfl,wy,hy1,hy2⟩;have hby:Bw wm wy:=(by first|with_reducible exact hy1|exact Bw.rfl.dr.tr hy1);have HY:=Lib.hid (And.intro hby hy2);have hbe:=(hy2.1.block be (by have:=hby.size;omega) hnbM).trans (A2 hby HEE.out.1);have HBE:=Lib.hid hbe;obtain⟨qz,fz⟩:=A1 hbe;have hlz:=A0 hbe;clear hy1 hy2 hby hbe))
  all_goals
   go_wp2_with fail
   go_meet
   refine⟨wy,w2,HY.out.1,HY.out.2,(Az.refl w2 be).set _ _, ?_⟩
   simpa using Ac HBE.out 0 (.slice none 0 0)
 case rest=>
  obtain⟨wy,w2,hy1,hy2,hT,hbe⟩:=hcut
  obtain⟨wn,hwn⟩:∃wn:World,wn=wc:=⟨_,rfl⟩
  subst hwn
  have HY:=Lib.hid (And.intro hy1 (And.intro hy2 (And.intro hT hbe)))
  clear hy1 hy2 hT hbe q f
  have HFAR:Hid (∀k,k<wm.heap.size→k≠bM→k≠be→wn.heap[k]?=wm.heap[k]?):=fun k hk h1 h2=>by
   have e1:=HY.out.1.size
   rw [HY.out.2.2.1.block k h2,HY.out.2.1.1.block k (by omega) h1,HY.out.1.block k hk]
  have HSZ:Hid (wm.heap.size≤wn.heap.size):=by
   have e1:=HY.out.1.size
   have e2:=HY.out.2.1.1.size
   have e3:=HY.out.2.2.1.size
   show _≤_
   omega
  have hfmz:=HFM.out.size
  have HFN:Hid (Fr (fun k=>k=wb∨k=bM∨k=be) w.heap.size w wn):=by
   have a:=HFM.out
   obtain⟨b,c,d,_⟩:=HY.out
   refine⟨d.os.trans (c.1.os.trans (b.os.trans a.os)),d.tape.trans (c.1.tape.trans (b.tape.trans a.tape)),d.output.trans (c.1.output.trans (b.output.trans a.output)),Nat.le_trans a.size HSZ.out,fun k hk hx=> ?_⟩
   simp only [not_or]at hx
   rw [HFAR.out k (by omega) hx.2.1 hx.2.2];exact a.block k hk hx.1
  have HIN:Hid (Imm H wn):=HFN.out.imm HI.out.1 (fun k hk=>by
   rcases hk with rfl|rfl|rfl
   ·exact HN.out.1
   ·exact HN.out.2.1
   ·exact HN.out.2.2.1)
  have hnull:Hid (t.isNull=false):=HV.out.2.2.1
  go_upto_region 9 with(fail)
  go_cut [52] (fun s wx=>s= .bool false∧Bw wn wx)
  case first=>
   have kx:=HIN.out.cell HV.out.1
   have mm:=Aw kx
   go_wp2_with fail
   refine(AU t H _ _ HV.out.2.1).mono ?_
   rintro _ wq ⟨rfl,hwq⟩
   rw [hnull.out]
   clear mm kx
   have kx:=(HIN.out.below hwq).cell HV.out.1
   have mm:=Bm kx
   go_wp2_with fail
   refine(CH t H _ _ HV.out.2.1).mono ?_
   rintro _ wr ⟨rfl,hwr⟩
   clear mm kx
   have hbr:Bw wn wr:=Bw.tr hwq hwr
   have kx:=(HIN.out.below hbr).cell HV.out.1
   have mm:=meth_AsMap kx
   cases hmp:t.isMap
   ·go_wp2_with fail
    go_meet
    exact⟨rfl,hbr⟩
   ·cases t with
    |map ks vs=>
     have hz:=HV.out.2.2.2 ks vs rfl
     obtain⟨r1,es,ck,hxr,hm⟩:=HV.out.2.1.mapAt
     change x= .iface 190 (.map (some r1))at hxr
     have HVC:=HV.out.1
     subst hxr
     have HM2:=Lib.hid hm
     have m1:=fun w=>methm_Length (some r1) w
     have hz0:((ks.length:Int)==0)=false:=by have:¬(ks.length:Int)=0:=(by omega);simpa using this
     clear hm hz HVC
     go_wp2_with fail
     refine(asMap0_c _ _).mono ?_
     rintro _ wt ⟨rfl,hwt⟩
     have hbt:Bw wn wt:=Bw.tr hbr hwt
     go_wp2_with fail
     refine(Et HM2.out wt (HIN.out.below hbt)).mono ?_
     rintro _ wu ⟨rfl,hwu⟩
     go_wp2_with fail
     go_meet
     exact⟨rfl,Bw.tr hbt hwu⟩
    |_=>simp [JT.isMap]at hmp
  case rest=>
   obtain⟨rfl,hbo⟩:=hcut
   obtain⟨wo,hwo⟩:∃wo:World,wo=wc:=⟨_,rfl⟩
   subst hwo
   have HO:=Lib.hid hbo
   have hsz:=HSZ.out
   have hoz:=hbo.size
   have htn:wo.heap[bT]?=_:=A2 hbo ((HFAR.out bT (by omega) (HN.out.2.2.2.2 bT (by simp)).2 n2).trans ((HFM.out.block bT hl2 (HN.out.2.2.2.2 bT (by simp)).1).trans HI.out.2.2.2.2.t_))
   have hkn:wo.heap[w.heap.size]?=some (.cells #[.string key] 9):=A2 hbo ((HFAR.out _ (by omega) (by omega) (by omega)).trans ((HMM.out.1.block _ (by have:=HP.out.2.1;omega)).trans ((HP.out.1.block _ (by omega) (by omega)).trans HD.out.2.1)))
   have HKN:=Lib.hid hkn
   obtain⟨qt,ft⟩:=A1 htn
   obtain⟨qk,fk⟩:=A1 hkn
   have hl7:=A0 htn
   have hl8:=A0 hkn
   clear hbo htn hkn
   go_wp2_with fail
   refine(HF.out wo (HIN.out.below HO.out)).mono ?_
   rintro _ w5 ⟨hb5,y',xd',rfl,hq5⟩
   obtain rfl:xd'= .nilIface:=hq5.2.2
   have HB5:=Lib.hid hb5
   clear hb5 hq5 qt ft qk fk
   go_upto_region 14 with(fail)
   obtain⟨w6,hw6⟩:∃w6,w6=w5.alloc (.cells #[.string key, .pointer y'.y0, .pointer y'.y1, .pointer y'.y2, .pointer y'.y3, .pointer y'.y4, .bool false, .nilIface] 241):=⟨_,rfl⟩
   have H6:Hid (Bw wn w6):=by subst hw6;exact(Bw.tr HO.out HB5.out).al _
   rw [←hw6]
   clear hw6
   have h6z:=H6.out.size
   have hbwn:w6.heap[bw]?=_:=A2 H6.out ((HFAR.out bw (by omega) (HN.out.2.2.2.2 bw (by simp)).2 n1).trans ((HFM.out.block bw hl1 (HN.out.2.2.2.2 bw (by simp)).1).trans HI.out.2.2.2.2.w_))
   obtain⟨qw,fw⟩:=A1 hbwn
   have hl9:=A0 hbwn
   obtain⟨_,g1,g2,g3,g4,g5,g6,g7,g8,g9⟩:=HP.out
   obtain⟨j1,j2,j3,_,_,j6⟩:=HP3.out
   have hkeep:∀k o,wp.heap[k]?=some o→k≠w2b→k≠bM→k≠be→w6.heap[k]?=some o:=fun k o ho h1 h2 h3=>by
    have hl:=A0 ho
    exact A2 H6.out ((HFAR.out k (by omega) h2 h3).trans ((HMM.out.1.block k h1).trans ho))
   have hbw1:=(HN.out.2.2.2.2 be (.inl rfl)).1
   have c1:w6.heap[wb]?=some ({m with spare:=some ⟨sp,0,none⟩}:FW).obj:=hkeep wb _ j1 (by omega) HN.out.2.2.2.1 (by omega)
   have c2:w6.heap[w2b]?=some (⟨Ab bv,m.S,y,m.set,some ⟨pr,0,none⟩,1,pc,some ⟨sp,0,none⟩,m.ha⟩:FW).obj:=A2 H6.out ((HFAR.out w2b (A0 HMM.out.2) (by omega) (by omega)).trans HMM.out.2)
   have c3:w6.heap[sp]?=some (.cells #[.slice (some ⟨eb,0,none⟩) 0 0] 432):=hkeep sp _ j2 g4 (by omega) (by omega)
   have c4:w6.heap[eb]?=some (.cells #[] 154):=hkeep eb _ j3 g8 (by omega) (by omega)
   have HC6:=Lib.hid (And.intro c1 (And.intro c3 c4))
   have HFNN:=Lib.hid (fs_fin {m with spare:=some ⟨sp,0,none⟩} ⟨Ab bv,m.S,y,m.set,some ⟨pr,0,none⟩,1,pc,some ⟨sp,0,none⟩,m.ha⟩ wb w2b sp eb pr pc b1 w6 hL rfl rfl rfl rfl j6 c1 c2 c3 c4 (by omega) (by omega) (by omega) (fun h=>g9 h.symm))
   have HG:=Lib.hid (And.intro g1 (And.intro g2 (And.intro g7 hbw1)))
   clear g1 g2 g3 g4 g5 g6 g7 g8 g9 j1 j2 j3 j6 c1 c2 c3 c4 hkeep hbwn hbw1
   go_wp2_with fail
   refine HFNN.out.mono ?_
   rintro _ w7 ⟨rfl,hfr7,pa7,pn7,pc7,hb7⟩
   have H7:=Lib.hid (And.intro hfr7 hb7)
   clear hfr7 hb7 HFNN qw fw
   go_wp2_with fail
   go_ret
   obtain⟨hfr7,hb7⟩:=H7.out
   obtain⟨g1,g2,g7,hbw1⟩:=HG.out
   have hz7:=hfr7.size
   have hfin:∀k o,wn.heap[k]?=some o→k≠wb→k≠sp→k≠eb→w7.heap[k]?=some o:=fun k o ho h1 h2 h3=>by
    have hl:=A0 ho
    rw [hfr7.block k (by omega) (by simp only [not_or];exact⟨h1,h2,h3⟩)];exact A2 H6.out ho
   have hX:=HI.out.2.2.2.2
   have hw:=HN.out.2.2.2.2
   have hold:∀k o,w.heap[k]?=some o→k≠wb→k≠bM→k≠be→w7.heap[k]?=some o:=fun k o ho h1 h2 h3=>by
    have hl:=A0 ho
    refine hfin k o ?_ h1 (by omega) (by omega)
    rw [HFN.out.block k hl (by simp only [not_or];exact⟨h1,h2,h3⟩)];exact ho
   refine⟨rfl,⟨?_, ?_, ?_, ?_,fun k hk hx=> ?_⟩,⟨hfin be _ HY.out.2.2.2 hbw1 (by omega) (by omega),hold bw _ hX.w_ (hw bw (by simp)).1 (hw bw (by simp)).2 n1,hold bT _ hX.t_ (hw bT (by simp)).1 (hw bT (by simp)).2 n2⟩,⟨pa7,pn7,pc7,_,hb7⟩, ?_⟩
   ·exact hfr7.os.trans (H6.out.os.trans HFN.out.os)
   ·exact hfr7.tape.trans (H6.out.tape.trans HFN.out.tape)
   ·exact hfr7.output.trans (H6.out.output.trans HFN.out.output)
   ·omega
   ·have hx0:=hx
    simp only [not_or]at hx
    rw [hfr7.block k (by omega) (by simp only [not_or];exact⟨hx.1,by omega,by omega⟩),H6.out.block k (by omega)]
    exact HFN.out.block k hk hx0
   ·have hkey:w7.cell? ⟨w.heap.size,0,none⟩=some (.string key):=by
     have hb0:w7.heap[w.heap.size]?=some (.cells #[.string key] 9):=by
      refine hfin _ _ ?_ (by omega) (by omega) (by omega)
      exact(HFAR.out _ (by omega) (by omega) (by omega)).trans ((HMM.out.1.block _ (by omega)).trans ((HP.out.1.block _ (by omega) (by omega)).trans HD.out.2.1))
     exact(A1 hb0).1 0
    have hone:=HY.out.2.1.2
    have hyz:=HY.out.1.size
    obtain⟨b2,c2,z0,z1,z2,z3,z4,z5,z6⟩:=hone
    have hl2b:=Ah z2
    have hlsp:=A0 HC6.out.2.1
    have hsp2:=A0 HP3.out.2.1
    have heb2:=A0 HP3.out.2.2.1
    have hTz:=HY.out.2.2.1.size
    have hb2:w7.heap[b2]?=w2.heap[b2]?:=by
     rw [hfr7.block b2 (by simp only at hl2b;omega) (by simp only [not_or];exact⟨by omega,by omega,by omega⟩),H6.out.block b2 (by simp only at hl2b;omega)]
     exact HY.out.2.2.1.block b2 (by omega)
    have hbM:w7.heap[bM]?=w2.heap[bM]?:=by
     have hl:=A0 z1
     have:=HN.out.2.2.2.1
     rw [hfr7.block bM (by omega) (by simp only [not_or];exact⟨by omega,by omega,by omega⟩),H6.out.block bM (by omega)]
     exact HY.out.2.2.1.block bM (fun h=>hnbM h.symm)
    unfold B4
    rw [if_neg (by simp)]
    exact⟨w.heap.size,Nat.le_refl _,⟨b2,c2,by omega,hbM.trans z1,(Al hb2 _).trans z2,(Al hb2 _).trans z3,(Al hb2 _).trans z4,(Al hb2 _).trans z5,z6⟩,hkey,by omega⟩
end
section
open Go Go.RowKit Go.MapKept
theorem ChildF.le {H K:Hp}{r:As}{t:JT}{S:Option Addr}{bM:Nat}(hk:Hle H K)(h:ChildF H r t S bM):ChildF K r t S bM:=
 fun L bl bP p0 x w1 w2b m2 y h1=>h L bl bP p0 x w1 w2b m2 y (hk.trans h1)
theorem iterate0_c {r fid:Nat}{cap:Array Value}{w:World}{P:Ending→World→Prop}(hC:Calls Tryz.prog 332 #[.map (some r), .iface 185 (.pointer (some ⟨w.heap.size,0,none⟩)), .func (.func fid) #[] cap] (w.alloc (.cells #[] 187)) P)
  (hP:∀e w',P e w'→∃b,e= .returned (.bool b)):Calls Tryz.prog 331 #[.map (some r), .func (.func fid) #[] cap] w P:=by
 have HC:=Lib.hid hC
 have HP:=Lib.hid hP
 clear hC hP
 go_enter Tryz.func331,Tryz.ntmps331
 go_wp2_with fail
 refine HC.out.mono ?_
 rintro e w1 hp
 have HQ:=Lib.hid hp
 obtain⟨b,rfl⟩:=HP.out e w1 hp
 clear hp
 go_wp2_with fail
 exact HQ.out
def FsInv (m:FW)(wb bt be bw bT bM lo:Nat)(key:ByteArray)(L:List Nat)(K:Hp):Prop:=
 (∃m':FW,(L=[]→m'=m)∧(∃pa pn pc sp,m'={m with pa:=pa,pn:=pn,pc:=pc,spare:=sp})∧K wb=some m'.obj)∧
 K be=some (.cells #[.slice none 0 0] 157)∧K bw=some (.cells #[.pointer (some ⟨wb,0,none⟩)] 154)∧K bT=some (.cells #[.pointer (some ⟨bt,0,none⟩)] 78)∧
 (L=[]→K bM=some AK)∧(¬L=[]→ModH lo bM key false K)
theorem fs_iterFn (m:FW)(wb bt be bw bT b1 bM lo:Nat)(key:ByteArray)(r:As)(t:JT)(H:Hp)(w:World)(hL:m.L=Ab b1)(hset:m.set=bM)(hsp:m.spare=none)(hpa:m.pa=none)(hpn:m.pn=0)(hpc:m.pc=0)(hi:Imm H w)(hks:key.size≤lim)(ht:OneF H bt key r)
  (hX:∀k,(k=wb∨k=bM∨k=be)→H k=none) (hlt:∀k,(k=wb∨k=bM∨k=be∨k=bw∨k=bT)→k<w.heap.size) (hwM:wb≠bM) (n1:¬bw=be) (n2:¬bT=be) (hw:∀k,(k=be∨k=bw∨k=bT)→¬k=wb∧¬k=bM) (hlo:lo≤w.heap.size)
  (hnull:t.isNull=false) (hem:∀ks vs,t= .map ks vs→0<ks.length) (hM:ChildF H r t m.S bM)
  (L:List Nat) (j:Nat) (hj:j<[t].length) (k:ByteArray) (w1:World) (x:Value) (hk:[key][j]?=some k) (hfr:Fr (fun k=>k=wb∨k=bM∨k=be) w.heap.size w w1) (hbig:w.heap.size+2≤w1.heap.size) (hbx:w1.heap[w.heap.size]?=some (.cells #[x] 244)) (hx:RJ H [t][j] x)
  (hinv:FsInv m wb bt be bw bT bM lo key L (CS w.heap.size w1)) (hnd:L.Nodup) (hlL:∀i ∈ L,i<[t].length) (hjL:j ∉ L):
  Calls Tryz.prog 252 (#[.string k, .iface 184 (.pointer (some ⟨w.heap.size,0,none⟩))]++ #[.pointer (some ⟨bT,0,none⟩), .pointer (some ⟨bw,0,none⟩), .pointer (some ⟨be,0,none⟩)]) w1 (fun e w2=>e= .returned (.bool ((fun _=>true) j))∧Fr (fun k=>k=wb∨k=bM∨k=be) (w.heap.size+2) w1 w2∧FsInv m wb bt be bw bT bM lo key (L++[j]) (CS w.heap.size w2)):=by
 obtain rfl:j=0:=by simpa using hj
 obtain rfl:k=key:=by simpa using hk.symm
 have hL0:L=[]:=by
  cases L with
  |nil=>rfl
  |cons a l=>have h1:=hlL a (by simp);simp at h1;subst h1;simp at hjL
 subst hL0
 obtain⟨⟨m',hm1,_,hmo⟩,he,hw_,ht_,hM0,_⟩:=hinv
 have hmm:m'=m:=hm1 rfl
 rw [hmm]at hmo
 have hi1:Imm H w1:=hfr.imm hi hX
 have hbb:FsBoxes w1 be bw bT wb bt:=⟨Be he,Be hw_,Be ht_⟩
 have hM1:=Be (hM0 rfl)
 have hlb:=hlt wb (.inl rfl)
 have hlM:=hlt bM (.inr (.inl rfl))
 have hle:=hlt be (.inr (.inr (.inl rfl)))
 have hK:=two_le (bl:=w.heap.size) (br:=w.heap.size) hi1
 have hnone:∀c,H c=none→c<w.heap.size→two H w.heap.size w.heap.size w1 c=none:=fun c hc hl=>by unfold two;rw [if_neg (by omega)];exact hc
 refine(fs_item m wb bt w.heap.size b1 be bw bT bM k r t x (two H w.heap.size w.heap.size w1) w1 hbb hL hset hsp hpa hpn hpc (two_imm hi1) (hnone _ (hX _ (.inl rfl)) hlb) (hnone _ (hX _ (.inr (.inl rfl))) hlM) (hnone _ (hX _ (.inr (.inr rfl))) hle) hwM hks (ht.mono hK) (Be hmo) hM1 (two_cell (.inl rfl) hbx) (hx.mono hK) hnull hem n1 n2 hw (hM.le hK)).mono ?_
 rintro e w2 ⟨rfl,hfr2,hb2,⟨pa,pn,pc,sp,hmb⟩,hmod⟩
 have hin:∀c o,c<w.heap.size→w2.heap[c]?=some o→CS w.heap.size w2 c=some o:=fun c o hc ho=>mask_in ho (by omega) (by omega)
 refine⟨rfl,⟨hfr2.os,hfr2.tape,hfr2.output,hfr2.size,fun c hc hx2=>hfr2.block c (by omega) hx2⟩,⟨_,fun h=>by simp at h,⟨pa,pn,pc,sp,rfl⟩,hin _ _ hlb hmb⟩,hin _ _ hle hb2.e,hin _ _ (hlt _ (.inr (.inr (.inr (.inl rfl))))) hb2.w_,hin _ _ (hlt _ (.inr (.inr (.inr (.inr rfl))))) hb2.t_,fun h=>by simp at h,fun _=>(hmod.mask hbig (by omega) (by omega)).weak (by omega)⟩
def F' (m:FW)(wb bM:Nat)(key:ByteArray)(w:World):Ending→World→Prop:=fun e w'=>e= .returned (.slice none 0 0)∧Fr (fun k=>k=wb∨k=bM) w.heap.size w w'∧
 (∃pa pn pc sp,w'.heap[wb]?=some ({m with pa:=pa,pn:=pn,pc:=pc,spare:=sp}:FW).obj)∧B4 w.heap.size bM key false w'
theorem fs_visit (m:FW)(wb bt b1 r1 bM:Nat)(key:ByteArray)(r:As)(t:JT)(H:Hp)(w:World)(hL:m.L=Ab b1)(hset:m.set=bM)(hsp:m.spare=none)(hpa:m.pa=none)(hpn:m.pn=0)(hpc:m.pc=0)(hi:Imm H w)(hHw:H wb=none)(hHM:H bM=none)(hks:key.size≤lim)(ht:OneF H bt key r)(hb:w.heap[wb]?=some m.obj)
  (hM0:w.heap[bM]?=some AK) (hwM:wb≠bM) (hnull:t.isNull=false) (hem:∀ks vs,t= .map ks vs→0<ks.length)
  (es1:Array MapEntry) (ck1:Nat) (hm1:Cw H r1 [key] [t] es1 ck1) (hM:ChildF H r t m.S bM):
  Calls Tryz.prog 246 #[.pointer (some ⟨wb,0,none⟩), .pointer (some ⟨bt,0,none⟩), .iface 446 (.map (some r1))] w (F' m wb bM key w):=by
 have hlt:=A0 hb
 have hltM:=A0 hM0
 obtain⟨wz,hwz⟩:∃wz,wz=((w.alloc (.cells #[.pointer (some ⟨wb,0,none⟩)] 154)).alloc (.cells #[.pointer (some ⟨bt,0,none⟩)] 78)).alloc (.cells #[.slice none 0 0] 157):=⟨_,rfl⟩
 have HZ:Hid (Bw w wz∧wz.heap.size=w.heap.size+3∧FsBoxes wz (w.heap.size+1+1) w.heap.size (w.heap.size+1) wb bt):=by
  subst hwz;exact⟨Co,by simp,⟨ET,b3_0,b3_1⟩⟩
 obtain⟨wI,hwI⟩:∃wI,wI=wz.alloc (.cells #[] 187):=⟨_,rfl⟩
 have HII:Hid (Bw wz wI∧wI.heap.size=wz.heap.size+1):=by subst hwI;exact⟨A5,by simp⟩
 have hnone:∀k,w.heap.size≤k→H k=none:=fun k hk=>by
  cases hh:H k with
  |none=>rfl
  |some o=>have:=A0 (hi _ _ hh);omega
 have hX:∀k,(k=wb∨k=bM∨k=w.heap.size+1+1)→H k=none:=by
  rintro k (rfl|rfl|rfl)
  ·exact hHw
  ·exact hHM
  ·exact hnone _ (by omega)
 have hlts:∀k,(k=wb∨k=bM∨k=w.heap.size+1+1∨k=w.heap.size∨k=w.heap.size+1)→k<wI.heap.size:=by
  intro k hk;rw [HII.out.2,HZ.out.2.1];omega
 have hbI:=HZ.out.1.tr HII.out.1
 have hiI:=hi.below hbI
 have HC:=Lib.hid (iterate_c hm1 ⟨wz.heap.size,0,none⟩ 252 #[.pointer (some ⟨w.heap.size+1,0,none⟩), .pointer (some ⟨w.heap.size,0,none⟩), .pointer (some ⟨w.heap.size+1+1,0,none⟩)] (enters_of Tryz.func252 (by kernel_rfl) rfl)
  (fun k=>k=wb∨k=bM∨k=w.heap.size+1+1) (FsInv m wb bt (w.heap.size+1+1) w.heap.size (w.heap.size+1) bM w.heap.size key) (fun _=>true) wI hiI (fun k hk=>⟨hlts k (by rcases hk with h|h|h<;>simp [h]),hX k hk⟩)
  ⟨⟨m,fun _=>rfl,⟨m.pa,m.pn,m.pc,m.spare,rfl⟩,A2 hbI hb⟩,A2 HII.out.1 HZ.out.2.2.e,A2 HII.out.1 HZ.out.2.2.w_,A2 HII.out.1 HZ.out.2.2.t_,fun _=>A2 hbI hM0,fun h=>absurd rfl h⟩
  (fun L j hj k w1 x a1 a2 a3 a4 a5 a6 a7 a8 a9=>fs_iterFn m wb bt _ _ _ b1 bM w.heap.size key r t H wI hL hset hsp hpa hpn hpc hiI hks ht hX hlts hwM (by omega) (by omega) (by intro k hk;omega) hbI.size hnull hem hM L j hj k w1 x a1 a2 a3 a4 a5 a6 a7 a8 a9))
 rw [hwI]at HC
 have HC0:=Lib.hid (iterate0_c HC.out (fun e w' h=>by obtain⟨_,_,b,h1,_⟩:=h;exact⟨b,h1⟩))
 have HWZ:=Lib.hid hwz.symm
 have hmf:∀(fn:Fn) (first cap:Array Value) (w:World),(Instr.makeFunc fn first cap).run Tryz.prog w= .ok (.func fn first cap) w:=fun _ _ _ _=>rfl
 have m1:=fun w=>methm_Iterate (some r1) w
 have HWI:=Lib.hid hwI
 clear hwz hwI hnone hX hlts hb hm1 hM ht hi hM0 hbI hiI HC
 go_enter Tryz.func246,Tryz.ntmps246
 go_wp2_with fail
 rw [HWZ.out]
 refine HC0.out.mono ?_
 rintro _ w1 ⟨hfr,L,b,rfl,hinv,hnd,hLj,hall,hfls⟩
 rw [←HWI.out]at hfr hinv
 have hb1:b=true:=by
  cases b with
  |true=>rfl
  |false=>obtain⟨j,_,h⟩:=hfls rfl;simp at h
 have hL0:¬L=[]:=by
  intro e;subst e
  have:=(hall hb1 0 (by simp)).1
  simp at this
 obtain⟨⟨m',_,⟨pa',pn',pc',sp',hm'⟩,hmo⟩,he,hw_,ht_,_,hmod⟩:=hinv
 subst hm'
 have HI:=Lib.hid (And.intro hfr (And.intro (Be hmo) (And.intro (Be he) (hmod hL0))))
 obtain⟨q,f⟩:=A1 (Be he)
 have hle1:w.heap.size+1+1<w1.heap.size:=A0 (Be he)
 clear hfr hmo he hw_ ht_ hmod hnd hLj hall hfls HC0 hL0
 go_wp2_with fail
 refine bodyPost_ret (v:= .slice none 0 0) (by simp [results,Tryz.results246,go_sem,q]) rfl ?_
 obtain⟨hfr,hmo,he,hmod⟩:=HI.out
 obtain⟨hz1,hz2,_⟩:=HZ.out
 have hmod1:B4 w.heap.size bM key false w1:=by
  have h1:=hmod
  unfold ModH at h1
  rw [if_neg (by simp)]at h1
  unfold B4
  rw [if_neg (by simp)]
  obtain⟨kb,b2,c,h1,h2,h3,h4,h5,h6,h7,h8,h9,h10⟩:=h1
  have hcm:∀b o v,A8 (CS wI.heap.size w1) b o=some v→w1.cell? ⟨b,o,none⟩=some v:=fun b o v h=>by rw [←Ai];exact A7 (mask_le _ _) h
  exact⟨kb,h1,⟨b2,c,h2,Be h3,hcm _ _ _ h4,hcm _ _ _ h5,hcm _ _ _ h6,hcm _ _ _ h7,h9⟩,hcm _ _ _ h8,h10⟩
 have t2:Az w1 (w1.setCell ⟨w.heap.size+1+1,0,none⟩ (.slice none 0 0)) (w.heap.size+1+1):=(Az.refl w1 _).set _ _
 have hsz1:=hfr.size
 have hiz:=HII.out.1
 have his:=HII.out.2
 refine⟨rfl,⟨t2.os.trans (hfr.os.trans (hiz.os.trans hz1.os)),t2.tape.trans (hfr.tape.trans (hiz.tape.trans hz1.tape)),t2.output.trans (hfr.output.trans (hiz.output.trans hz1.output)),by rw [t2.size];omega,fun k hk hx=> ?_⟩,⟨pa',pn',pc',sp', ?_⟩,hmod1.turn t2 he (by omega)⟩
 ·simp only [not_or]at hx
  rw [t2.block k (by omega),hfr.block k (by omega) (by simp only [not_or];exact⟨hx.1,hx.2,by omega⟩),hiz.block k (by omega)]
  exact hz1.block k hk
 ·rw [t2.block wb (by omega)];exact hmo
theorem fs_root (m:FW)(s:List Ax)(rr:As)(sc:ByteArray)(key:ByteArray)(r fe:As)(rel:ByteArray)(rest:List Bp)(a:Ap)(t:JT)(hres:Av s rr=some ⟨sc,[],⟨[⟨key,r,[]⟩],fe,rel⟩::rest⟩)(hrel:(rel.toList==An)=false)(hsc:sc.toList.isEmpty=true)
  (hrec:Av s r=some a) (h1:Ck a t) (hnull:t.isNull=false) (hem:∀ks vs,t= .map ks vs→0<ks.length) (hks:key.size≤lim) (bl wb bM:Nat) (hL:m.L=Ab bl) (hset:m.set=bM) (hsp:m.spare=none) (hpa:m.pa=none) (hpn:m.pn=0) (hpc:m.pc=0)
  (H:Hp) (w:World) (hi:Imm H w) (hS:AO Ak H s (.pointer m.S)) (hr:BM Ak H rr m.y) (x:Value) (cx:A8 H bl 0=some x) (hx:RJ H (.map [key] [t]) x) (hHw:H wb=none) (hHM:H bM=none) (hb:w.heap[wb]?=some m.obj)
  (hM0:w.heap[bM]?=some AK) (hwM:wb≠bM):
  Calls Tryz.prog 68 #[.pointer (some ⟨wb,0,none⟩)] w (fun e w'=>e= .returned (.slice none 0 0)∧∃w1,Bw w w1∧F' m wb bM key w1 (.returned (.slice none 0 0)) w'):=by
 have hlt:=A0 hb
 have hltM:=A0 hM0
 refine(fs_toSet m s rr ⟨sc,[],⟨[⟨key,r,[]⟩],fe,rel⟩::rest⟩ bl wb hL hres H w hi hS hr hb ?_ (fun wa wd=>∃wc,Bw wa wc∧F' m wb bM key wc (.returned (.slice none 0 0)) wd) ?_).mono ?_
 ·intro K2 w2 p1 p2 p3 hi2 hk2 hq
  simp only [AI,QLi,QMa,Bk,hsc,if_true]at hq
  obtain⟨rfl,rfl,b,_,_,rfl,_⟩:=hq
  exact Dd (.map [key] [t]) rfl K2 bl x _ w2 hi2 (A7 hk2 cx) (hx.mono hk2)
 ·intro K2 w2 p1 p2 p3 hb2 hi2 hk2 hkk hq
  have hKw:K2 wb=none:=by rw [hkk wb hlt];exact hHw
  have hKM:K2 bM=none:=by rw [hkk bM hltM];exact hHM
  have hbb:=A2 hb2 hb
  simp only [AI,QLi,QMa,Bk,hsc,if_true]at hq
  obtain⟨rfl,rfl,b,xf,ye,rfl,hc0,_,hcq,hcr,_,hsl,_⟩:=hq
  have hx2:=hx.mono hk2
  have cx2:=A7 hk2 cx
  obtain⟨r1,es1,ck1,rfl,hm1⟩:=hx2.mapAt
  have hone:OneF K2 b key r:=⟨⟨xf,hc0,hsl⟩,ye,hcq⟩
  refine(CI _ ⟨wb,0,none⟩ m.y w2 (fun wa wd=>∃wc,Bw wa wc∧F' m wb bM key wc (.returned (.slice none 0 0)) wd) (fun w3 hb3=>fs_doMapR m [key] [t] K2 bl wb b r1 rel hrel w3 (fun wa wd=>F' m wb bM key wa (.returned (.slice none 0 0)) wd) hL (hi2.below hb3) cx2 hx2 hcr (A2 hb3 hbb)
    (fun w4 hb4=>(fs_visit m wb b bl r1 bM key r t K2 w4 hL hset hsp hpa hpn hpc ((hi2.below hb3).below hb4) hKw hKM hks hone (A2 hb4 (A2 hb3 hbb)) (A2 hb4 (A2 hb3 (A2 hb2 hM0))) hwM hnull hem es1 ck1 hm1 (fs_leaf s r a t hrec h1 m.S bM K2 (hS.mono hk2))).mono (by rintro e w5 ⟨rfl,h5⟩;exact⟨rfl,rfl,h5⟩)))).mono ?_
  rintro _ w5 ⟨rfl,wq,g1,wr,g2,g3⟩
  exact⟨rfl,wr,Bw.tr g1 g2,g3⟩
 ·rintro _ w4 ⟨rfl,w2,hb2,wc,g1,g3⟩
  exact⟨rfl,wc,hb2.tr g1,g3⟩
end
section
open Go Go.RowKit Go.MapKept
theorem fs_walker (bl:Nat)(y:Six)(S:Option Addr)(w:World):Calls Tryz.prog 66 #[.agg #[Ab bl, .pointer y.y0, .pointer y.y1, .pointer y.y2, .pointer y.y3, .pointer y.y4, .bool false, .pointer S]] w (fun e w'=>Bw w w'∧∃wb bM ha,e= .returned (.pointer (some ⟨wb,0,none⟩))∧w.heap.size≤wb∧w.heap.size≤bM∧wb≠bM∧w'.heap[wb]?=some (⟨Ab bl,S,y,bM,none,0,0,none,ha⟩:FW).obj∧w'.heap[bM]?=some AK):=by
 rcases y with⟨y0,y1,y2,y3,y4⟩
 go_enter Tryz.func66,Tryz.ntmps66
 go_upto_region 6 with(fail)
 obtain⟨wa,hwa⟩:∃wa,wa=((w.alloc (BV (Ab bl) ⟨y0,y1,y2,y3,y4⟩ S)).alloc (.cells #[Ab bl, .pointer S, .pointer y0, .pointer y1, .pointer y2, .pointer y3, .pointer y4, .bool false, .pointer (some ⟨w.heap.size+1+1,0,none⟩), .slice none 0 0, .pointer none, .nilIface] 161)).alloc AK:=⟨_,rfl⟩
 have HA:Hid (Bw w wa∧wa.heap.size=w.heap.size+3∧wa.heap[w.heap.size+1]?=some (.cells #[Ab bl, .pointer S, .pointer y0, .pointer y1, .pointer y2, .pointer y3, .pointer y4, .bool false, .pointer (some ⟨w.heap.size+1+1,0,none⟩), .slice none 0 0, .pointer none, .nilIface] 161)∧wa.heap[w.heap.size+1+1]?=some AK):=by
  subst hwa;exact⟨Co,by simp,b3_1,ET⟩
 unfold BV AK at hwa
 rw [←hwa]
 clear hwa
 go_wp2_with fail
 refine(newHA_c wa).mono ?_
 rintro _ wh ⟨rfl,hwh⟩
 have HH:Hid (Bw wa wh∧wh.heap[w.heap.size+1]?=some (.cells #[Ab bl, .pointer S, .pointer y0, .pointer y1, .pointer y2, .pointer y3, .pointer y4, .bool false, .pointer (some ⟨w.heap.size+1+1,0,none⟩), .slice none 0 0, .pointer none, .nilIface] 161)):=by subst hwh;exact⟨A5,A3 HA.out.2.2.1⟩
 clear hwh
 obtain⟨q,f⟩:=A1 HH.out.2
 have hl:=A0 HH.out.2
 go_wp2_with fail
 go_ret
 have t:=(Az.refl wh (w.heap.size+1)).set 11 (.iface 185 (.pointer (some ⟨wa.heap.size,0,none⟩)))
 refine⟨(HA.out.1.tr HH.out.1).turn (by omega) t,w.heap.size+1,w.heap.size+1+1,wa.heap.size,rfl,by omega,by omega,by omega, ?_, ?_⟩
 ·have:=Ac HH.out.2 11 (.iface 185 (.pointer (some ⟨wa.heap.size,0,none⟩)))
  unfold FW.obj
  simpa using this
 ·rw [t.block _ (by omega)];exact A2 HH.out.1 HA.out.2.2.2
theorem fs_finished (m:FW)(wb:Nat)(u:FrameMode)(w:World)(hb:w.heap[wb]?=some m.obj):CallsD Tryz.prog 67 #[.pointer (some ⟨wb,0,none⟩)] u w (fun e u' w'=>u'=u∧(e= .returned (.tuple #[])∧Az w w' wb)):=by
 unfold FW.obj at hb
 obtain⟨q,f⟩:=A1 hb
 have hl:=A0 hb
 clear hb
 go_enter_d Tryz.func67,Tryz.ntmps67
 go_wp2_with fail
 go_end0
 refine⟨rfl, ?_⟩
 repeat with_reducible (first|exact Az.refl w wb|refine Az.set ?_ _ _)
theorem B4.turnO {lo bM wb:Nat}{key:ByteArray}{same:Bool}{m:FW}{b:Nat}{w2 w3:World}(h:B4 lo bM key same w2)(t:Az w2 w3 wb)(he:w2.heap[wb]?=some m.obj)(hM:¬bM=wb)(hL:m.L=Ab b:=by rfl):B4 lo bM key same w3:=by
 unfold FW.obj at he
 have q:=(A1 he).1 0
 unfold B4 at h⊢
 split at h
 ·rename_i hs
  rw [if_pos hs];exact(t.block bM hM).trans h
 ·rename_i hs
  rw [if_neg hs]
  obtain⟨kb,hlk,⟨b2,c2,hl2,h1,h2,h3,h4,h5,h6⟩,hk,hkM⟩:=h
  have x1:¬b2=wb:=by
   rintro rfl
   rw [h2]at q;simp [hL]at q
  have x2:¬kb=wb:=by
   rintro rfl
   rw [hk]at q;simp [hL]at q
  have e:=t.block b2 x1
  exact⟨kb,hlk,⟨b2,c2,hl2,(t.block bM hM).trans h1,(Al e 0).trans h2,(Al e 1).trans h3,(Al e 2).trans h4,(Al e 3).trans h5,h6⟩,(Al (t.block kb x2) 0).trans hk,hkM⟩
theorem fs_ToFieldSet (s:List Ax)(rr:As)(sc:ByteArray)(key:ByteArray)(r fe:As)(rel:ByteArray)(rest:List Bp)(a:Ap)(t:JT)(hres:Av s rr=some ⟨sc,[],⟨[⟨key,r,[]⟩],fe,rel⟩::rest⟩)(hrel:(rel.toList==An)=false)(hsc:sc.toList.isEmpty=true)
  (hrec:Av s r=some a) (h1:Ck a t) (hnull:t.isNull=false) (hem:∀ks vs,t= .map ks vs→0<ks.length) (hks:key.size≤lim) (bl:Nat) (S:Option Addr) (y:Six)
  (H:Hp) (w:World) (hi:Imm H w) (hS:AO Ak H s (.pointer S)) (hr:BM Ak H rr y) (x:Value) (cx:A8 H bl 0=some x) (hx:RJ H (.map [key] [t]) x):
  Calls Tryz.prog 40 #[.agg #[Ab bl, .pointer y.y0, .pointer y.y1, .pointer y.y2, .pointer y.y3, .pointer y.y4, .bool false, .pointer S]] w (fun e w'=>Bw w w'∧∃bM,e= .returned (.tuple #[.pointer (some ⟨bM,0,none⟩), .nilIface])∧B4 w.heap.size bM key false w'):=by
 have HW:=Lib.hid (fs_walker bl y S (w.alloc (BV (Ab bl) y S)))
 have HT:=Lib.hid (fun m wb bM hL hset e2 e3 e4 e5 wz hi hS hr hHw hHM hb hM hwM=>fs_root m s rr sc key r fe rel rest a t hres hrel hsc hrec h1 hnull hem hks bl wb bM hL hset e2 e3 e4 e5 H wz hi hS hr x cx hx hHw hHM hb hM hwM)
 have HI:=Lib.hid (And.intro hi (And.intro hS hr))
 have hno:Hid (∀k,w.heap.size≤k→H k=none):=fun k hk=>by
  cases hh:H k with
  |none=>rfl
  |some o=>have:=A0 (hi _ _ hh);omega
 unfold BV at HW
 obtain⟨y',hy'⟩:∃y',y'=y:=⟨_,rfl⟩
 rcases y with⟨y0,y1,y2,y3,y4⟩
 simp only at HW
 clear hi hS hr cx hx h1 hnull hem
 go_enter_defers Tryz.func40,Tryz.ntmps40
 go_wp2_with fail
 refine HW.out.mono ?_
 rintro _ wa ⟨hb1,wb,bM,ha,rfl,g1,g2,g3,g4,g5⟩
 have hs1:=hb1.size
 simp at g1 g2 hs1
 have HA:=Lib.hid (And.intro (A5.tr hb1:Bw w wa) (And.intro g1 (And.intro g2 (And.intro g3 (And.intro g4 g5)))))
 have HC:=Lib.hid (HT.out _ wb bM rfl rfl rfl rfl rfl rfl wa (HI.out.1.below HA.out.1) HI.out.2.1 HI.out.2.2 (hno.out _ (by omega)) (hno.out _ (by omega)) g4 g5 g3)
 clear hb1 g4 g5 hs1 g3 g2 g1
 go_wp2_with fail
 refine HC.out.mono ?_
 rintro _ wc ⟨rfl,w1,hb1,_,hfr,⟨pa,pn,pc,sp,hmb⟩,hmod⟩
 have HO:=Lib.hid (And.intro hb1 (And.intro hfr (And.intro hmb hmod)))
 unfold FW.obj at hmb
 simp only at hmb
 obtain⟨q,f⟩:=A1 hmb
 have hl:=A0 hmb
 clear hb1 hfr hmb hmod HC HW
 go_wp2_with fail
 refine leaves_cons (f:=67) (args:= #[.pointer (some ⟨wb,0,none⟩)]) (by simp) (by simp [go_sem]) ?_
 refine(fs_finished _ wb _ wc HO.out.2.2.1).mono ?_
 rintro _ _ w3 ⟨rfl,rfl,ht⟩
 refine⟨.tuple #[.pointer (some ⟨bM,0,none⟩), .nilIface],(by simp [results,Tryz.results40,go_sem]), ?_⟩
 obtain⟨hb0,g1,g2,g3,g4,g5⟩:=HA.out
 obtain⟨hb1,hfr,hmb,hmod⟩:=HO.out
 have z0:=hb0.size
 have z1:=hb1.size
 have z2:=hfr.size
 refine⟨⟨ht.os.trans (hfr.os.trans (hb1.os.trans hb0.os)),ht.tape.trans (hfr.tape.trans (hb1.tape.trans hb0.tape)),ht.output.trans (hfr.output.trans (hb1.output.trans hb0.output)),by rw [ht.size];omega,fun k hk=> ?_⟩,bM,rfl, ?_⟩
 ·rw [ht.block k (by omega),hfr.block k (by omega) (by simp only [not_or];omega),hb1.block k (by omega)];exact hb0.block k hk
 ·exact(hmod.weak (by omega)).turnO ht hmb (fun h=>g3 h.symm)
end
end Go.Proofs.YtmghkmhgpmcoaaaGreat
