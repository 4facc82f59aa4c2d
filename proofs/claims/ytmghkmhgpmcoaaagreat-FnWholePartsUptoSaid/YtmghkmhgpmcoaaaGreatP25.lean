/- What the claim's theorem 'proved' rests on: TcPrep, TcFin, TcItem, TcItems. -/
import Derived.Test.YtmghkmhgpmcoaaaGreatP22
set_option linter.unusedVariables false
set_option linter.unusedSimpArgs false
set_option maxRecDepth 100000
set_option maxHeartbeats 10000000
namespace Go.Proofs.YtmghkmhgpmcoaaaGreat
section
open Go Go.RowKit Go.MapKept
@[go_sem] theorem ptrC_nil_nil (w:World):(binOp .eql 141 (.pointer none) (.pointer none)).run Tryz.prog w= .ok (.bool true) w:=by kernel_rfl
def TcPrep (m:CW)(wb cm2:Nat)(fp:Option Addr)(y:Six)(w:World):Ending→World→Prop:=fun e w'=>Fr (fun k=>k=wb) w.heap.size w w'∧
 ∃(w2b sp pr pc eb:Nat),e= .returned (.pointer (some ⟨w2b,0,none⟩))∧w.heap.size≤w2b∧w.heap.size≤sp∧w.heap.size≤pr∧sp≠w2b∧pr≠w2b∧pr≠sp∧w.heap.size≤eb∧eb≠w2b∧eb≠sp∧w'.heap[wb]?=some ({m with spare:=some ⟨sp,0,none⟩}:CW).obj∧
  w'.heap[sp]?=some (.cells #[.slice (some ⟨eb,0,none⟩) 0 0] 420)∧w'.heap[eb]?=some (.cells #[] 138)∧w'.heap[w2b]?=some ({m with L:= .nilIface,R:= .nilIface,y:=y,pa:=some ⟨pr,0,none⟩,pn:=1,pc:=pc,cmp:=cm2,spare:=some ⟨sp,0,none⟩}:CW).obj∧
  (w'.cell? ⟨pr,0,none⟩=some (.pointer fp)∧w'.cell? ⟨pr,1,none⟩=some (.pointer none)∧w'.cell? ⟨pr,2,none⟩=some (.pointer none)∧w'.cell? ⟨pr,3,none⟩=some (.pointer none))∧1≤pc
theorem tc_prep_end {bl br ha wb pr pc:Nat}{S fp:Option Addr}{out cm2:Nat}{y0 y1 y2 y3 y4:Option Addr}{leaf:Bool}{z:Six}{w wa wp wx:World}(k6:Fr (fun k=>k=wb) w.heap.size w wa)(k5:wa.heap.size=w.heap.size+1+1+1+1)(g1:Bw wa wp)(g3:wp.heap.size=wa.heap.size+1)(h3:Fr (fun k=>k=wa.heap.size) wp.heap.size wp wx)
  (h1:wx.heap[wa.heap.size]?=some (.cells #[Ab bl,Ab br, .pointer S, .pointer z.y0, .pointer z.y1, .pointer z.y2, .pointer z.y3, .pointer z.y4, .bool false, .slice (some ⟨pr,0,none⟩) 1 pc, .pointer (some ⟨out,0,none⟩), .bool leaf, .pointer (some ⟨w.heap.size+1+1+1,0,none⟩), .iface 185 (.pointer (some ⟨ha,0,none⟩))] 145))
  (h2:wx.ownsRow wp.heap.size 227 4 (.slice (some ⟨pr,0,none⟩) 1 pc) 1 [.pointer fp, .pointer none, .pointer none, .pointer none])
  (k1:wa.heap[wb]?=some (⟨Ab bl,Ab br,S,⟨y0,y1,y2,y3,y4⟩,none,0,0,out,leaf,some ⟨w.heap.size+1+1+1,0,none⟩,ha⟩:CW).obj) (k4:wa.heap[w.heap.size+1+1+1]?=some (.cells #[.slice (some ⟨w.heap.size+1+1,0,none⟩) 0 0] 420)) (k3:wa.heap[w.heap.size+1+1]?=some (.cells #[] 138)) (hlt:wb<w.heap.size):
  TcPrep ⟨Ab bl,Ab br,S,⟨y0,y1,y2,y3,y4⟩,none,0,0,out,leaf,none,ha⟩ wb cm2 fp z w (.returned (.pointer (some ⟨wa.heap.size,0,none⟩))) (((wx.setCell ⟨wa.heap.size,0,none⟩ .nilIface).setCell ⟨wa.heap.size,1,none⟩ .nilIface).setCell ⟨wa.heap.size,10,none⟩ (.pointer (some ⟨cm2,0,none⟩))):=by
 obtain⟨hpr,hpc1,c0,c1,c2,c3⟩:=row_cells h2
 have t1:Az wx (((wx.setCell ⟨wa.heap.size,0,none⟩ .nilIface).setCell ⟨wa.heap.size,1,none⟩ .nilIface).setCell ⟨wa.heap.size,10,none⟩ (.pointer (some ⟨cm2,0,none⟩))) wa.heap.size:=(((Az.refl wx _).set _ _).set _ _).set _ _
 have hfar:∀k,k<wp.heap.size→k≠wa.heap.size→(((wx.setCell ⟨wa.heap.size,0,none⟩ .nilIface).setCell ⟨wa.heap.size,1,none⟩ .nilIface).setCell ⟨wa.heap.size,10,none⟩ (.pointer (some ⟨cm2,0,none⟩))).heap[k]?=wp.heap[k]?:=fun k hk hx=>(t1.block k hx).trans (h3.block k hk hx)
 have hcell:∀i u,wx.cell? ⟨pr,i,none⟩=some u→(((wx.setCell ⟨wa.heap.size,0,none⟩ .nilIface).setCell ⟨wa.heap.size,1,none⟩ .nilIface).setCell ⟨wa.heap.size,10,none⟩ (.pointer (some ⟨cm2,0,none⟩))).cell? ⟨pr,i,none⟩=some u:=by
  intro i u hu
  rw [World.cell?_of_block (t1.block pr (by omega))];exact hu
 refine⟨⟨t1.os.trans (h3.os.trans (g1.os.trans k6.os)),t1.tape.trans (h3.tape.trans (g1.tape.trans k6.tape)),t1.output.trans (h3.output.trans (g1.output.trans k6.output)),by rw [t1.size];have:=h3.size;omega,fun k hk hx=>by
   rw [hfar k (by omega) (by omega),g1.block k (by omega)];exact k6.block k hk hx⟩,wa.heap.size,w.heap.size+1+1+1,pr,pc,w.heap.size+1+1,rfl,by omega,by omega,by omega,by omega,by omega,by omega,by omega,by omega,by omega, ?_, ?_, ?_, ?_,⟨hcell _ _ c0,hcell _ _ c1,hcell _ _ c2,hcell _ _ c3⟩,hpc1⟩
 ·rw [hfar wb (by omega) (by omega),g1.block wb (by omega)];exact k1
 ·rw [hfar _ (by omega) (by omega),g1.block _ (by omega)];exact k4
 ·rw [hfar _ (by omega) (by omega),g1.block _ (by omega)];exact k3
 ·have:=Ac (Ac (Ac h1 0 .nilIface) 1 .nilIface) 10 (.pointer (some ⟨cm2,0,none⟩))
  unfold CW.obj
  simpa using this
theorem tc_prep (m:CW)(wb bl br cm2:Nat)(fp:Option Addr)(y:Six)(w:World)(hL:m.L=Ab bl)(hR:m.R=Ab br)(hsp:m.spare=none)(hpa:m.pa=none)(hpn:m.pn=0)(hpc:m.pc=0)(hb:w.heap[wb]?=some m.obj):
  Calls Tryz.prog 230 #[.pointer (some ⟨wb,0,none⟩), .agg #[.pointer fp, .pointer none, .pointer none, .pointer none],F9 y, .pointer (some ⟨cm2,0,none⟩)] w (TcPrep m wb cm2 fp y w):=by
 rcases m with⟨L,R,S,⟨y0,y1,y2,y3,y4⟩,pa,pn,pc,out,leaf,spare,ha⟩
 rcases y with⟨z0,z1,z2,z3,z4⟩
 simp only at hsp hpa hpn hpc hL hR
 subst hsp hpa hpn hpc hL hR
 unfold CW.obj at hb
 simp only at hb
 have HB:=Lib.hid hb
 obtain⟨q,f⟩:=A1 HB.out
 have hlt:=A0 HB.out
 obtain⟨u0,u1,u2,u3,u4,u5,u6,u7,u8⟩:=ltx hlt
 have v1:wb<w.heap.size+1+1:=by omega
 have v2:wb<w.heap.size+1+1+1:=by omega
 have v3:wb<w.heap.size+1+1+1+1:=by omega
 have hbs:∀w,(Instr.buildSlice 420 0 #[]).run Tryz.prog w= .ok (.slice (some ⟨w.heap.size,0,none⟩) 0 0) (w.alloc (.cells #[] 138)):=fun _=>by kernel_rfl
 clear hb
 go_enter Tryz.func230,Tryz.ntmps230
 go_upto_region 3 with(fail)
 obtain⟨wa,hwa⟩:∃wa,wa=((((w.setCell ⟨wb,12,none⟩ (.pointer (some ⟨w.heap.size+1+1+1,0,none⟩))).alloc (.cells #[.pointer fp, .pointer none, .pointer none, .pointer none] 227)).alloc (.cells #[.pointer z0, .pointer z1, .pointer z2, .pointer z3, .pointer z4, .bool false] 83)).alloc (.cells #[] 138)).alloc (.cells #[.slice (some ⟨w.heap.size+1+1,0,none⟩) 0 0] 420):=⟨_,rfl⟩
 have HW:Hid (wa.heap[wb]?=some (⟨Ab bl,Ab br,S,⟨y0,y1,y2,y3,y4⟩,none,0,0,out,leaf,some ⟨w.heap.size+1+1+1,0,none⟩,ha⟩:CW).obj∧wa.heap[w.heap.size]?=some (.cells #[.pointer fp, .pointer none, .pointer none, .pointer none] 227)∧wa.heap[w.heap.size+1]?=some (.cells #[.pointer z0, .pointer z1, .pointer z2, .pointer z3, .pointer z4, .bool false] 83)∧
   wa.heap[w.heap.size+1+1+1]?=some (.cells #[.slice (some ⟨w.heap.size+1+1,0,none⟩) 0 0] 420)∧wa.heap.size=w.heap.size+1+1+1+1∧Fr (fun k=>k=wb) w.heap.size w wa∧wa.heap[w.heap.size+1+1]?=some (.cells #[] 138)):=by
  subst hwa
  have ht:Az w (w.setCell ⟨wb,12,none⟩ (.pointer (some ⟨w.heap.size+1+1+1,0,none⟩))) wb:=(Az.refl w wb).set _ _
  have hs:=ht.size
  refine⟨A3 (A3 (A3 (A3 ?_))),by simpa using b4_0 (w:=w.setCell ⟨wb,12,none⟩ (.pointer (some ⟨w.heap.size+1+1+1,0,none⟩))),by simpa using b4_1 (w:=w.setCell ⟨wb,12,none⟩ (.pointer (some ⟨w.heap.size+1+1+1,0,none⟩))),by simpa using b4_3 (w:=w.setCell ⟨wb,12,none⟩ (.pointer (some ⟨w.heap.size+1+1+1,0,none⟩))),by simp, ?_,by simpa using b4_2 (w:=w.setCell ⟨wb,12,none⟩ (.pointer (some ⟨w.heap.size+1+1+1,0,none⟩)))⟩
  ·have:=Ac HB.out 12 (.pointer (some ⟨w.heap.size+1+1+1,0,none⟩))
   unfold CW.obj
   simpa using this
  ·exact fr_turn ht (((A5.al _).al _).al _)
 rw [←hwa]
 clear hwa q f u0 u1 u2 u3 u4 u5 u6 u7 u8 v1 v2 v3
 obtain⟨q,f⟩:=A1 HW.out.1
 obtain⟨q0,f0⟩:=A1 HW.out.2.1
 obtain⟨q1,f1⟩:=A1 HW.out.2.2.1
 obtain⟨q3,f3⟩:=A1 HW.out.2.2.2.1
 have hsa:=HW.out.2.2.2.2.1
 have HSA:=Lib.hid hsa
 have hlta:=A0 HW.out.1
 have hlt3:=A0 HW.out.2.2.2.1
 have n1:¬wa.heap.size=wb:=by omega
 have n2:¬wb=wa.heap.size:=by omega
 have e1:w.heap.size<wa.heap.size:=by omega
 have e2:w.heap.size+1<wa.heap.size:=by omega
 clear hsa
 go_upto_region 10 with(fail)
 obtain⟨wp,hwc⟩:∃wp,wp=wa.alloc (.cells #[Ab bl,Ab br, .pointer S, .pointer z0, .pointer z1, .pointer z2, .pointer z3, .pointer z4, .bool false, .slice none 0 0, .pointer (some ⟨out,0,none⟩), .bool leaf, .pointer (some ⟨w.heap.size+1+1+1,0,none⟩), .iface 185 (.pointer (some ⟨ha,0,none⟩))] 145):=⟨_,rfl⟩
 have HC:Hid (Bw wa wp∧wp.heap[wa.heap.size]?=some (.cells #[Ab bl,Ab br, .pointer S, .pointer z0, .pointer z1, .pointer z2, .pointer z3, .pointer z4, .bool false, .slice none 0 0, .pointer (some ⟨out,0,none⟩), .bool leaf, .pointer (some ⟨w.heap.size+1+1+1,0,none⟩), .iface 185 (.pointer (some ⟨ha,0,none⟩))] 145)∧wp.heap.size=wa.heap.size+1):=by subst hwc;exact⟨A5,A4,by simp⟩
 rw [←hwc]
 clear hwc q f q0 f0 q1 f1 q3 f3
 obtain⟨q,f⟩:=A1 HC.out.2.1
 obtain⟨q0,f0⟩:=A1 (A2 HC.out.1 HW.out.2.1)
 have hl0:=A0 (A2 HC.out.1 HW.out.2.1)
 have hlc:=A0 HC.out.2.1
 have n3:¬wa.heap.size=wp.heap.size:=by omega
 have n4:¬w.heap.size=wp.heap.size:=by omega
 have n5:¬wp.heap.size=wa.heap.size:=by omega
 go_cut [] (fun wx=>∃(pr pc:Nat),wx.heap[wa.heap.size]?=some (.cells #[Ab bl,Ab br, .pointer S, .pointer z0, .pointer z1, .pointer z2, .pointer z3, .pointer z4, .bool false, .slice (some ⟨pr,0,none⟩) 1 pc, .pointer (some ⟨out,0,none⟩), .bool leaf, .pointer (some ⟨w.heap.size+1+1+1,0,none⟩), .iface 185 (.pointer (some ⟨ha,0,none⟩))] 145)∧wx.ownsRow wp.heap.size 227 4 (.slice (some ⟨pr,0,none⟩) 1 pc) 1 [.pointer fp, .pointer none, .pointer none, .pointer none]∧Fr (fun k=>k=wa.heap.size) wp.heap.size wp wx)
 case first=>
  go_region_law
   (first
    |(refine AH _ (by rfl) _ _ 140 (by rfl) wp.heap.size 227 _ 4 32 und_path info_pe (by rfl) (by decide) (by decide) (.slice none 0 0) 0 [] (by rfl) (World.ownsRow_nil _ _ _ _) wp.heap.size _ _ (by rfl) (by exact A4) (by rfl) (by simp [Value.oneCell']) (by unfold lim;omega) (by simp) ?_;intro v' w2 ho2 hg2 hwh2;obtain⟨av2,cv2,rfl⟩:=Aj ho2;have HG:=Lib.hid (And.intro ho2 hg2);clear hwh2;have hbz:=(hg2.block wa.heap.size (by simp;omega) (fun e=>by simp [Value.ownBlock]at e)).trans (A3 HC.out.2.1);obtain⟨q2z,f2z⟩:=A1 hbz;have hlz:=A0 hbz))
  all_goals
   go_wp2_with fail
   go_meet
   obtain⟨pr,h1,h2,h3,h4⟩:=prep_fin (i:=9) HC.out.2.1 (by first|exact(Bw.rfl.al _).dr|exact Bw.rfl.al _|exact Bw.rfl.dr.al _) HG.out.1 HG.out.2
   subst h1
   exact⟨pr,cv2,by simpa using h2,h3,h4⟩
 case rest=>
  obtain⟨pr,pc,hb2,hrow,hfr⟩:=hcut
  have HX:=Lib.hid (And.intro hb2 (And.intro hrow hfr))
  clear hb2 hrow hfr q f q0 f0
  obtain⟨q,f⟩:=A1 HX.out.1
  have hlx:=A0 HX.out.1
  go_wp2_with fail
  go_ret
  obtain⟨h1,h2,h3⟩:=HX.out
  obtain⟨g1,g2,g3⟩:=HC.out
  obtain⟨k1,_,_,k4,k5,k6,k3⟩:=HW.out
  exact tc_prep_end (z:=⟨z0,z1,z2,z3,z4⟩) k6 k5 g1 g3 h3 h1 h2 k1 k4 k3 hlt
end
section
open Go Go.RowKit Go.MapKept
theorem info_cwp:(Tryz.prog.info? 138).map (fun i=>(i.zero,i.size,i.bytes))=some (some (.pointer none),1,8):=by kernel_rfl
theorem und_cwps:Tryz.prog.underlying 420=some (.slice 138):=by kernel_rfl
def TcFin (m:CW)(wb sp eb:Nat)(w:World):Ending→World→Prop:=fun e w'=>e= .returned (.tuple #[])∧Fr (fun k=>k=wb∨k=sp∨k=eb) w.heap.size w w'∧∃pa pn pc,w'.heap[wb]?=some ({m with pa:=pa,pn:=pn,pc:=pc}:CW).obj
theorem tcfin_end {m:CW}{wb sp eb pr pc:Nat}{v:Value}{w wa w2 W:World}(h1:Az w wa wb)(h2:wa.heap[wb]?=some ({m with pa:=some ⟨pr,0,none⟩,pn:=0,pc:=pc}:CW).obj)(hW:Bw wa W)(hg:W.grownBy w2 (some eb))(n1:wb≠sp)(n2:wb≠eb)(hlt:wb<w.heap.size):
  TcFin m wb sp eb w (.returned (.tuple #[])) (w2.setCell ⟨sp,0,none⟩ v):=by
 have t2:Az w2 (w2.setCell ⟨sp,0,none⟩ v) sp:=(Az.refl w2 sp).set _ _
 have hs:=hW.size
 have hfar:∀k,k<wa.heap.size→k≠sp→k≠eb→(w2.setCell ⟨sp,0,none⟩ v).heap[k]?=wa.heap[k]?:=fun k hk a b=>by
  rw [t2.block k a,hg.block k (by omega) (fun e=>b (by cases e;rfl))];exact hW.block k hk
 refine⟨rfl,⟨t2.os.trans (hg.os.trans (hW.os.trans h1.os)),t2.tape.trans (hg.tape.trans (hW.tape.trans h1.tape)),t2.output.trans (hg.output.trans (hW.output.trans h1.output)),by rw [t2.size];have:=hg.size;have:=h1.size;omega,fun k hk hx=> ?_⟩,some ⟨pr,0,none⟩,0,pc, ?_⟩
 ·simp only [not_or]at hx
  rw [hfar k (by rw [h1.size];exact hk) hx.2.1 hx.2.2];exact h1.block k hx.1
 ·rw [hfar wb (by rw [h1.size];exact hlt) n1 n2];exact h2
theorem tc_fin (m m2:CW)(wb w2b sp eb pr pc bl br:Nat)(w:World)(hL:m.L=Ab bl)(hR:m.R=Ab br)(hsp:m.spare=some ⟨sp,0,none⟩)(hpa:m2.pa=some ⟨pr,0,none⟩)(hpn:m2.pn=1)(hpc:m2.pc=pc)(hpc1:1≤pc)(hb:w.heap[wb]?=some m.obj)(hb2:w.heap[w2b]?=some m2.obj)
  (hs:w.heap[sp]?=some (.cells #[.slice (some ⟨eb,0,none⟩) 0 0] 420)) (he:w.heap[eb]?=some (.cells #[] 138)) (n1:wb≠sp) (n2:wb≠eb) (n3:wb≠w2b) (n4:sp≠eb):
  Calls Tryz.prog 231 #[.pointer (some ⟨wb,0,none⟩), .pointer (some ⟨w2b,0,none⟩)] w (TcFin m wb sp eb w):=by
 rcases m with⟨L,R,S,⟨y0,y1,y2,y3,y4⟩,pa,pn,pc0,out,leaf,spare,ha⟩
 rcases m2 with⟨L2,R2,S2,⟨x0,x1,x2,x3,x4⟩,pa2,pn2,pc2,out2,leaf2,spare2,ha2⟩
 simp only at hL hR hsp hpa hpn hpc
 subst hL hR hsp hpa hpn hpc
 have HBO:=Lib.hid hb
 unfold CW.obj at hb hb2
 simp only at hb hb2
 have HB:=Lib.hid (And.intro hb (And.intro hb2 (And.intro hs he)))
 obtain⟨q,f⟩:=A1 hb
 obtain⟨q2,f2⟩:=A1 hb2
 obtain⟨q3,f3⟩:=A1 hs
 have hlt:=A0 hb
 have hlt2:=A0 hb2
 have hlt3:=A0 hs
 have k9:=q2 9
 have g9:=f 9
 have hb0:0<pc2:=by omega
 have hw0:IntKind.i64.wrap 0=0:=rfl
 have hc0:(0:Int)≤(pc2:Int):=by omega
 clear hb hb2 hs he
 go_enter Tryz.func231,Tryz.ntmps231
 go_wp2_with fail
 go_cut [] (fun wx=>∃pr' pc',Az w wx wb∧wx.heap[wb]?=some (⟨Ab bl,Ab br,S,⟨y0,y1,y2,y3,y4⟩,some ⟨pr',0,none⟩,0,pc',out,leaf,some ⟨sp,0,none⟩,ha⟩:CW).obj)
 case first=>
  go_region_law (fail)
  all_goals
   go_wp2_with fail
   go_meet
   have ht:Az w (w.setCell ⟨wb,9,none⟩ (.slice (some ⟨pr,0,none⟩) 0 pc2)) wb:=(Az.refl w wb).set _ _
   have hx:=Ac HB.out.1 9 (.slice (some ⟨pr,0,none⟩) 0 pc2)
   refine⟨pr,pc2,⟨ht.os,ht.tape,ht.output,ht.size,ht.block⟩, ?_⟩
   unfold CW.obj
   show(w.setCell ⟨wb,9,none⟩ (.slice (some ⟨pr,0,none⟩) 0 pc2)).heap[wb]?=_
   simpa using hx
 case rest=>
  obtain⟨pr',pc',ht,hx⟩:=hcut
  obtain⟨wa,hwa⟩:∃wa:World,wa=wc:=⟨_,rfl⟩
  subst hwa
  have HX:=Lib.hid (And.intro ht hx)
  have hsz:=ht.size
  have hs1:wa.heap[sp]?=some (.cells #[.slice (some ⟨eb,0,none⟩) 0 0] 420):=(ht.block sp (fun e=>n1 e.symm)).trans HB.out.2.2.1
  have he1:wa.heap[eb]?=some (.cells #[] 138):=(ht.block eb (fun e=>n2 e.symm)).trans HB.out.2.2.2
  have HE:=Lib.hid (And.intro hs1 he1)
  have hlta:sp<wa.heap.size:=A0 hs1
  have hlte:eb<wa.heap.size:=A0 he1
  have hltw:wb<wa.heap.size:=A0 hx
  unfold CW.obj at hx
  have HXU:=Lib.hid hx
  clear q f q2 f2 q3 f3 k9 g9 ht hsz
  obtain⟨q,f⟩:=A1 hx
  obtain⟨q3,f3⟩:=A1 hs1
  clear hx hs1 he1
  go_upto_region 1 with(fail)
  go_region_law
   (first
    |(refine AH _ (by rfl) _ _ 420 (by rfl) 0 138 _ 1 8 und_cwps info_cwp (by rfl) (by decide) (by decide) (.slice (some ⟨eb,0,none⟩) 0 0) 0 [] (by rfl) (own_empty (by exact A3 HE.out.2) (Nat.zero_le _)) wa.heap.size _ _ (by rfl) (by exact A4) (by rfl) (by simp [Value.oneCell']) (by unfold lim;omega) (by simp) ?_;intro v' w2 ho2 hg2 hwh2;obtain⟨av2,cv2,rfl⟩:=Aj ho2;have HG:=Lib.hid hg2;clear hwh2 ho2;have hbz:=(hg2.block sp (by simp;omega) (fun e=>n4 (by simp [Value.ownBlock]at e;exact e))).trans (A3 HE.out.1);obtain⟨q2z,f2z⟩:=A1 hbz;have hlz:=A0 hbz;have hby:=(hg2.block wb (by simp;omega) (fun e=>n2 (by simp [Value.ownBlock]at e;exact e))).trans (A3 HXU.out);obtain⟨q1z,f1z⟩:=A1 hby;have hly:=A0 hby))
  all_goals
   go_wp2_with fail
   go_end0
   exact tcfin_end HX.out.1 HX.out.2 (by first|exact(Bw.rfl.al _).dr|exact Bw.rfl.al _|exact Bw.rfl.dr.al _) HG.out n1 n2 hlt
end
section
open Go Go.RowKit Go.MapKept
def B4 (lo bM:Nat)(key:ByteArray)(same:Bool)(w':World):Prop:=if same=true then w'.heap[bM]?=some AK else ∃kb,lo≤kb∧OneP w' lo bM (some ⟨kb,0,none⟩) none none none∧w'.cell? ⟨kb,0,none⟩=some (.string key)∧¬kb=bM
def TcItem (m:CW)(wb bM:Nat)(key:ByteArray)(same:Bool)(w:World):Ending→World→Prop:=fun e w'=>e= .returned (.slice none 0 0)∧Fr (fun k=>k=wb∨k=bM) w.heap.size w w'∧
 (∃pa pn pc sp,w'.heap[wb]?=some ({m with pa:=pa,pn:=pn,pc:=pc,spare:=sp}:CW).obj)∧B4 w.heap.size bM key same w'
theorem OneP.bw {w w1:World}{lo bM:Nat}{p0 p1 p2 p3:Option Addr}(h:OneP w lo bM p0 p1 p2 p3)(hb:Bw w w1):OneP w1 lo bM p0 p1 p2 p3:=by
 obtain⟨b2,c,h0,h1,h2,h3,h4,h5,h6⟩:=h
 exact⟨b2,c,h0,A2 hb h1,cell_later hb h2,cell_later hb h3,cell_later hb h4,cell_later hb h5,h6⟩
theorem OneP.keep {w w3:World}{lo bM wb sp eb T T2:Nat}{a:Option Addr}{n c0:Nat}{m:CW}{s:Option Addr}{p0 p1 p2 p3:Option Addr}(h:OneP w lo bM p0 p1 p2 p3)(hL:∃b1,m.L=Ab b1)(hw:w.heap[wb]?=some ({m with spare:=s}:CW).obj)(hs:w.heap[sp]?=some (.cells #[.slice a n c0] T))(he:w.heap[eb]?=some (.cells #[] T2))
  (n1:¬(bM=wb)) (n2:¬(bM=sp∨bM=eb)) (hfr:Fr (fun k=>k=wb∨k=sp∨k=eb) w.heap.size w w3):OneP w3 lo bM p0 p1 p2 p3:=by
 obtain⟨b2,c,h0,h1,h2,h3,h4,h5,h6⟩:=h
 obtain⟨b1,hL⟩:=hL
 have hl:=Ah h2
 have x1:¬b2=wb:=by
  rintro rfl
  have:=(A1 (show w.heap[b2]?=some (.cells _ _) from hw)).1 0
  rw [h2]at this
  simp [hL]at this
 have x2:¬b2=sp:=by
  rintro rfl
  have:=(A1 hs).1 0
  rw [h2]at this
  simp at this
 have x3:¬b2=eb:=by
  rintro rfl
  have:=(A1 he).1 0
  rw [h2]at this
  simp at this
 have e:=hfr.block b2 hl (by simp only [not_or];exact⟨x1,x2,x3⟩)
 refine⟨b2,c,h0,(hfr.block bM (A0 h1) (by simp only [not_or]at n2⊢;exact⟨n1,n2.1,n2.2⟩)).trans h1,(Al e 0).trans h2,(Al e 1).trans h3,(Al e 2).trans h4,(Al e 3).trans h5,h6⟩
theorem item_kept {wa wp:World}{wb bp by_ n:Nat}{m:CW}{sp:Option Addr}{u0 u1 u2 u3 u4 u5 u6 u7 u8 u9:Value}(hfr:∀k,k<n→¬k=wb→wp.heap[k]?=wa.heap[k]?)(h1:bp<n)(h2:by_<n)(h3:¬bp=wb)(h4:¬by_=wb)(hw:wp.heap[wb]?=some ({m with spare:=sp}:CW).obj)
  (g:wa.cell? ⟨bp,0,none⟩=some u0∧wa.cell? ⟨bp,1,none⟩=some u1∧wa.cell? ⟨bp,2,none⟩=some u2∧wa.cell? ⟨bp,3,none⟩=some u3∧wa.cell? ⟨by_,0,none⟩=some u4∧wa.cell? ⟨by_,1,none⟩=some u5∧wa.cell? ⟨by_,2,none⟩=some u6∧wa.cell? ⟨by_,3,none⟩=some u7∧wa.cell? ⟨by_,4,none⟩=some u8∧wa.cell? ⟨by_,5,none⟩=some u9∧wa.cell? ⟨wb,10,none⟩=some (.pointer (some ⟨m.cmp,0,none⟩))):wp.cell? ⟨bp,0,none⟩=some u0∧wp.cell? ⟨bp,1,none⟩=some u1∧wp.cell? ⟨bp,2,none⟩=some u2∧wp.cell? ⟨bp,3,none⟩=some u3∧wp.cell? ⟨by_,0,none⟩=some u4∧wp.cell? ⟨by_,1,none⟩=some u5∧wp.cell? ⟨by_,2,none⟩=some u6∧wp.cell? ⟨by_,3,none⟩=some u7∧wp.cell? ⟨by_,4,none⟩=some u8∧wp.cell? ⟨by_,5,none⟩=some u9∧wp.cell? ⟨wb,10,none⟩=some (.pointer (some ⟨m.cmp,0,none⟩)):=by
 obtain⟨g0,g1,g2,g3,g4,g5,g6,g7,g8,g9,_⟩:=g
 have e1:=hfr bp h1 h3
 have e2:=hfr by_ h2 h4
 refine⟨(Al e1 _).trans g0,(Al e1 _).trans g1,(Al e1 _).trans g2,(Al e1 _).trans g3,(Al e2 _).trans g4,(Al e2 _).trans g5,(Al e2 _).trans g6,(Al e2 _).trans g7,(Al e2 _).trans g8,(Al e2 _).trans g9, ?_⟩
 have:=(A1 (show wp.heap[wb]?=some (.cells _ _) from hw)).1 10
 simpa using this
theorem tc_item (m:CW)(wb bt ob bl br b1 b2 bM:Nat)(key:ByteArray)(r:As)(same:Bool)(H:Hp)(w:World)(hL:m.L=Ab b1)(hR:m.R=Ab b2)(hsp:m.spare=none)(hpa:m.pa=none)(hpn:m.pn=0)(hpc:m.pc=0)(hi:Imm H w)(hHw:H wb=none)(hHM:H bM=none)(hwM:wb≠bM)(hks:key.size≤lim)
  (ht:OneF H bt key r) (hb:w.heap[wb]?=some m.obj) (hM0:w.heap[bM]?=some AK)
  (hM:∀(w1:World) (w2b bP:Nat) (p0:Option Addr) (m2:CW) (y:Six),Fr (fun k=>k=wb) w.heap.size w w1→w.heap.size≤w2b→w.heap.size≤bP→bP≠w2b→BM Ak H r y→Imm H w1→H w2b=none→m2.L=Ab bl→m2.R=Ab br→m2.S=m.S→m2.y=y→m2.leaf=m.leaf→m2.ha=m.ha→m2.cmp=m.cmp→m2.pa=some ⟨bP,0,none⟩→m2.pn=1→(w1.cell? ⟨bP,0,none⟩=some (.pointer p0)∧w1.cell? ⟨bP,1,none⟩=some (.pointer none)∧w1.cell? ⟨bP,2,none⟩=some (.pointer none)∧w1.cell? ⟨bP,3,none⟩=some (.pointer none))→w1.heap[w2b]?=some m2.obj→
   Calls Tryz.prog 62 #[.pointer (some ⟨w2b,0,none⟩), .nilFunc] w1 (fun e w'=>e= .returned (.slice none 0 0)∧∃wx wy,Bw w1 wx∧TcOut wx w2b bM {m2 with leaf:=true} same p0 none none none wy∧Bw wy w')):
  Calls Tryz.prog 222 #[.pointer (some ⟨wb,0,none⟩), .pointer (some ⟨bt,0,none⟩), .map (some ob), .string key,Ab bl,Ab br] w (TcItem m wb bM key same w):=by
 obtain⟨⟨xf,hxf,hsl⟩,⟨ye,hye⟩⟩:=ht
 have HF:=Lib.hid (fun w0 h0=>findField_c H [⟨key,r,[]⟩] key bt xf w0 h0 hxf hsl)
 have hlast:Dy [⟨key,r,[]⟩] key [(⟨key,r,[]⟩:Au)].length=some ⟨key,r,[]⟩:=by simp [Dy]
 rw [hlast]at HF
 have HI:=Lib.hid (And.intro hi (And.intro hb (And.intro hM0 hM)))
 have HN:=Lib.hid (And.intro hHw (And.intro hHM hwM))
 have hlt:=A0 hb
 have hltM:=A0 hM0
 have hltt:bt<w.heap.size:=Ah (hi.cell hxf)
 obtain⟨k0,k1,k2,k3,k4,k5⟩:=hye.look hi
 clear hi hb hM0 hM hlast hxf hsl hye
 go_enter Tryz.func222,Tryz.ntmps222
 go_wp2_with fail
 refine(HF.out _ (HI.out.1.below Am)).mono ?_
 rintro _ w1 ⟨hb1,y,xd,rfl,hq⟩
 obtain rfl:xd= .nilIface:=hq.2.2
 have HQ:=Lib.hid (And.intro hq.2.1 hb1)
 have hx0:=A2 hb1 Cs
 have hx1:=A2 hb1 BF
 have HX:=Lib.hid (And.intro hx0 hx1)
 have hl1:w.heap.size+1<w1.heap.size:=A0 hx1
 obtain⟨q0,f0⟩:=A1 hx0
 obtain⟨q1,f1⟩:=A1 hx1
 clear hb1 hq hx0 hx1 k0 k1 k2 k3 k4 k5
 go_upto_region 6 with(fail)
 obtain⟨ws,hws⟩:∃ws,ws=((((((w1.setCell ⟨w.heap.size+1,0,none⟩ (.pointer y.y0)).setCell ⟨w.heap.size+1,1,none⟩ (.pointer y.y1)).setCell ⟨w.heap.size+1,2,none⟩ (.pointer y.y2)).setCell ⟨w.heap.size+1,3,none⟩ (.pointer y.y3)).setCell ⟨w.heap.size+1,4,none⟩ (.pointer y.y4)).setCell ⟨w.heap.size+1,5,none⟩ (.bool false)):=⟨_,rfl⟩
 have HS:Hid (Az w1 ws (w.heap.size+1)∧ws.heap[w.heap.size+1]?=some (.cells #[.pointer y.y0, .pointer y.y1, .pointer y.y2, .pointer y.y3, .pointer y.y4, .bool false] 83)):=by
  subst hws
  refine⟨((((((Az.refl w1 _).set _ _).set _ _).set _ _).set _ _).set _ _).set _ _, ?_⟩
  simpa using Ac (Ac (Ac (Ac (Ac (Ac HX.out.2 0 (.pointer y.y0)) 1 (.pointer y.y1)) 2 (.pointer y.y2)) 3 (.pointer y.y3)) 4 (.pointer y.y4)) 5 (.bool false)
 rw [←hws]
 obtain⟨wa,hwa⟩:∃wa,wa=(ws.alloc (.cells #[.string key, .pointer y.y0, .pointer y.y1, .pointer y.y2, .pointer y.y3, .pointer y.y4, .bool false, .nilIface] 241)).alloc (.cells #[.pointer (some ⟨w.heap.size,0,none⟩), .pointer none, .pointer none, .pointer none] 227):=⟨_,rfl⟩
 have HA:Hid (Bw w wa∧wa.heap[w.heap.size]?=some (.cells #[.string key] 9)∧wa.heap[w.heap.size+1]?=some (.cells #[.pointer y.y0, .pointer y.y1, .pointer y.y2, .pointer y.y3, .pointer y.y4, .bool false] 83)∧wa.heap[w1.heap.size+1]?=some (.cells #[.pointer (some ⟨w.heap.size,0,none⟩), .pointer none, .pointer none, .pointer none] 227)∧wa.heap.size=w1.heap.size+2):=by
  have hsz:=HS.out.1.size
  subst hwa
  refine⟨(((Am.tr HQ.out.2).turn (by omega) HS.out.1).al _).al _,A3 (A3 ?_),A3 (A3 HS.out.2),by rw [←hsz];exact BF,by simp [hsz]⟩
  rw [HS.out.1.block _ (by omega)];exact HX.out.1
 rw [←hwa]
 clear hws hwa q0 f0 q1 f1
 obtain⟨q0,f0⟩:=A1 HA.out.2.2.2.1
 obtain⟨q1,f1⟩:=A1 HA.out.2.2.1
 have hl2:w1.heap.size+1<wa.heap.size:=A0 HA.out.2.2.2.1
 have hl3:w.heap.size+1<wa.heap.size:=A0 HA.out.2.2.1
 have hwbA:=A2 HA.out.1 HI.out.2.1
 have hqb:=(A1 (show wa.heap[wb]?=some (.cells _ _) from hwbA)).1
 have hlb:=A0 hwbA
 have hla1:=HA.out.1.size
 have hpd:¬w1.heap.size+1=wb:=by have:=HQ.out.2.size;simp at this;omega
 have hyd:¬w.heap.size+1=wb:=by omega
 have HPC:=Lib.hid (fun wq (h0:wq.heap=wa.heap)=>tc_prep m wb b1 b2 m.cmp (some ⟨w.heap.size,0,none⟩) y wq hL hR hsp hpa hpn hpc (by rw [h0];exact hwbA))
 have S0:wa.cell? ⟨w1.heap.size+1,0,none⟩=some (.pointer (some ⟨w.heap.size,0,none⟩))∧wa.cell? ⟨w1.heap.size+1,1,none⟩=some (.pointer none)∧wa.cell? ⟨w1.heap.size+1,2,none⟩=some (.pointer none)∧wa.cell? ⟨w1.heap.size+1,3,none⟩=some (.pointer none)∧wa.cell? ⟨w.heap.size+1,0,none⟩=some (.pointer y.y0)∧wa.cell? ⟨w.heap.size+1,1,none⟩=some (.pointer y.y1)∧wa.cell? ⟨w.heap.size+1,2,none⟩=some (.pointer y.y2)∧wa.cell? ⟨w.heap.size+1,3,none⟩=some (.pointer y.y3)∧wa.cell? ⟨w.heap.size+1,4,none⟩=some (.pointer y.y4)∧wa.cell? ⟨w.heap.size+1,5,none⟩=some (.bool false)∧wa.cell? ⟨wb,10,none⟩=some (.pointer (some ⟨m.cmp,0,none⟩)):=⟨q0 0,q0 1,q0 2,q0 3,q1 0,q1 1,q1 2,q1 3,q1 4,q1 5,by have:=hqb 10;simpa using this⟩
 have S1:wa.drew.cell? ⟨w1.heap.size+1,0,none⟩=some (.pointer (some ⟨w.heap.size,0,none⟩))∧wa.drew.cell? ⟨w1.heap.size+1,1,none⟩=some (.pointer none)∧wa.drew.cell? ⟨w1.heap.size+1,2,none⟩=some (.pointer none)∧wa.drew.cell? ⟨w1.heap.size+1,3,none⟩=some (.pointer none)∧wa.drew.cell? ⟨w.heap.size+1,0,none⟩=some (.pointer y.y0)∧wa.drew.cell? ⟨w.heap.size+1,1,none⟩=some (.pointer y.y1)∧wa.drew.cell? ⟨w.heap.size+1,2,none⟩=some (.pointer y.y2)∧wa.drew.cell? ⟨w.heap.size+1,3,none⟩=some (.pointer y.y3)∧wa.drew.cell? ⟨w.heap.size+1,4,none⟩=some (.pointer y.y4)∧wa.drew.cell? ⟨w.heap.size+1,5,none⟩=some (.bool false)∧wa.drew.cell? ⟨wb,10,none⟩=some (.pointer (some ⟨m.cmp,0,none⟩)):=S0
 clear q0 f0 q1 f1 hqb hwbA
 go_region_held3 (fun w'=>w'.cell? ⟨w1.heap.size+1,0,none⟩=some (.pointer (some ⟨w.heap.size,0,none⟩))∧w'.cell? ⟨w1.heap.size+1,1,none⟩=some (.pointer none)∧w'.cell? ⟨w1.heap.size+1,2,none⟩=some (.pointer none)∧w'.cell? ⟨w1.heap.size+1,3,none⟩=some (.pointer none)∧w'.cell? ⟨w.heap.size+1,0,none⟩=some (.pointer y.y0)∧w'.cell? ⟨w.heap.size+1,1,none⟩=some (.pointer y.y1)∧w'.cell? ⟨w.heap.size+1,2,none⟩=some (.pointer y.y2)∧w'.cell? ⟨w.heap.size+1,3,none⟩=some (.pointer y.y3)∧w'.cell? ⟨w.heap.size+1,4,none⟩=some (.pointer y.y4)∧w'.cell? ⟨w.heap.size+1,5,none⟩=some (.bool false)∧w'.cell? ⟨wb,10,none⟩=some (.pointer (some ⟨m.cmp,0,none⟩)))
  (first|(with_reducible exact S0)|(with_reducible exact S1)|(with_reducible exact S2)|go_keep)
  ((go_at_call 230;refine(HPC.out _ (by exact rfl)).mono ?_;rintro _ wp ⟨hfr,w2b,sp,pr,pc,eb,rfl,hp⟩;have HP:=Lib.hid (And.intro hfr hp);have S2:wp.cell? ⟨w1.heap.size+1,0,none⟩=some (.pointer (some ⟨w.heap.size,0,none⟩))∧wp.cell? ⟨w1.heap.size+1,1,none⟩=some (.pointer none)∧wp.cell? ⟨w1.heap.size+1,2,none⟩=some (.pointer none)∧wp.cell? ⟨w1.heap.size+1,3,none⟩=some (.pointer none)∧wp.cell? ⟨w.heap.size+1,0,none⟩=some (.pointer y.y0)∧wp.cell? ⟨w.heap.size+1,1,none⟩=some (.pointer y.y1)∧wp.cell? ⟨w.heap.size+1,2,none⟩=some (.pointer y.y2)∧wp.cell? ⟨w.heap.size+1,3,none⟩=some (.pointer y.y3)∧wp.cell? ⟨w.heap.size+1,4,none⟩=some (.pointer y.y4)∧wp.cell? ⟨w.heap.size+1,5,none⟩=some (.bool false)∧wp.cell? ⟨wb,10,none⟩=some (.pointer (some ⟨m.cmp,0,none⟩)):=item_kept hfr.block hl2 hl3 hpd hyd hp.2.2.2.2.2.2.2.2.2.1 S0;clear hfr hp))
 have HP2:Hid (Fr (fun k=>k=wb) wa.heap.size wa wp∧wa.heap.size≤w2b∧wa.heap.size≤sp∧wa.heap.size≤pr∧sp≠w2b∧pr≠w2b∧pr≠sp∧wa.heap.size≤eb∧eb≠w2b∧eb≠sp):=
  ⟨⟨HP.out.1.os,HP.out.1.tape,HP.out.1.output,HP.out.1.size,HP.out.1.block⟩,HP.out.2.1,HP.out.2.2.1,HP.out.2.2.2.1,HP.out.2.2.2.2.1,HP.out.2.2.2.2.2.1,HP.out.2.2.2.2.2.2.1,HP.out.2.2.2.2.2.2.2.1,HP.out.2.2.2.2.2.2.2.2.1,HP.out.2.2.2.2.2.2.2.2.2.1⟩
 have HP3:=Lib.hid HP.out.2.2.2.2.2.2.2.2.2.2
 have hbx:wp.heap[w2b]?=some ({m with L:= .nilIface,R:= .nilIface,y:=y,pa:=some ⟨pr,0,none⟩,pn:=1,pc:=pc,cmp:=m.cmp,spare:=some ⟨sp,0,none⟩}:CW).obj:=HP3.out.2.2.2.1
 unfold CW.obj at hbx
 simp only at hbx
 have HBX:=Lib.hid hbx
 clear S0 S1 S2
 obtain⟨q,f⟩:=A1 hbx
 have hlw:=A0 hbx
 clear hbx
 go_upto_region 9 with(fail)
 obtain⟨wm,hwm⟩:∃wm,wm=(wp.setCell ⟨w2b,0,none⟩ (Ab bl)).setCell ⟨w2b,1,none⟩ (Ab br):=⟨_,rfl⟩
 have HM:Hid (Az wp wm w2b∧wm.heap[w2b]?=some (⟨Ab bl,Ab br,m.S,y,some ⟨pr,0,none⟩,1,pc,m.cmp,m.leaf,some ⟨sp,0,none⟩,m.ha⟩:CW).obj):=by
  subst hwm
  refine⟨((Az.refl wp _).set _ _).set _ _, ?_⟩
  have:=Ac (Ac HBX.out 0 (Ab bl)) 1 (Ab br)
  unfold CW.obj
  simpa using this
 rw [←hwm]
 clear hwm q f
 have HFM:Hid (Fr (fun k=>k=wb) w.heap.size w wm):=by
  have a:=HA.out.1
  have b:=HP2.out.1
  have c:=HM.out.1
  have e1:=a.size
  have e2:=b.size
  have e3:=c.size
  have e4:=HP2.out.2.1
  exact⟨c.os.trans (b.os.trans a.os),c.tape.trans (b.tape.trans a.tape),c.output.trans (b.output.trans a.output),by omega,fun k hk hx=>by rw [c.block k (by omega),b.block k (by omega) hx];exact a.block k hk⟩
 have HIM:Hid (Imm H wm):=HFM.out.imm HI.out.1 (fun k hk=>by subst hk;exact HN.out.1)
 have hnw2:H w2b=none:=by
  cases hh:H w2b with
  |none=>rfl
  |some o=>have:=A0 (HI.out.1 _ _ hh);have:=HP2.out.2.1;have:=HA.out.1.size;omega
 have hcp:wm.cell? ⟨pr,0,none⟩=some (.pointer (some ⟨w.heap.size,0,none⟩))∧wm.cell? ⟨pr,1,none⟩=some (.pointer none)∧wm.cell? ⟨pr,2,none⟩=some (.pointer none)∧wm.cell? ⟨pr,3,none⟩=some (.pointer none):=Cb (HM.out.1.block pr HP2.out.2.2.2.2.2.1) HP3.out.2.2.2.2.1
 have HMC:=Lib.hid (HI.out.2.2.2 wm w2b pr (some ⟨w.heap.size,0,none⟩) ⟨Ab bl,Ab br,m.S,y,some ⟨pr,0,none⟩,1,pc,m.cmp,m.leaf,some ⟨sp,0,none⟩,m.ha⟩ y HFM.out (by have:=HP2.out.2.1;have:=HA.out.1.size;omega) (by have:=HP2.out.2.2.2.1;have:=HA.out.1.size;omega) HP2.out.2.2.2.2.2.1 HQ.out.1 HIM.out hnw2 rfl rfl rfl rfl rfl rfl rfl rfl rfl hcp HM.out.2)
 have hlm:=A0 HM.out.2
 clear hcp hnw2
 go_wp2_with fail
 refine HMC.out.mono ?_
 rintro _ wn ⟨rfl,wx,wy,hbx,⟨hfx,h2,h3⟩,hby⟩
 have HW:=Lib.hid (And.intro hbx (And.intro hfx (And.intro h2 (And.intro h3 hby))))
 clear hbx hfx h2 h3 hby HMC
 have HFAR:Hid (∀k,k<wp.heap.size→k≠w2b→k≠bM→wn.heap[k]?=wp.heap[k]?):=fun k hk hne hn2=>by
  have e1:=HM.out.1.size
  have e2:=HW.out.1.size
  have e3:=HW.out.2.1.size
  rw [HW.out.2.2.2.2.block k (by omega),HW.out.2.1.block k (by omega) (by omega),HW.out.1.block k (by omega),HM.out.1.block k hne]
 have hA1:=HA.out.1.size
 have hP1:=HP2.out.1.size
 obtain⟨_,g1,g2,g3,g4,g5,g6,g7,g8,g9⟩:=HP2.out
 obtain⟨j1,j2,j3,_,_,j6⟩:=HP3.out
 have c1:wn.heap[wb]?=some ({m with spare:=some ⟨sp,0,none⟩}:CW).obj:=(HFAR.out wb (by omega) (by omega) HN.out.2.2).trans j1
 have c2:wn.heap[w2b]?=some (⟨Ab bl,Ab br,m.S,y,some ⟨pr,0,none⟩,1,pc,m.cmp,true,some ⟨sp,0,none⟩,m.ha⟩:CW).obj:=A2 HW.out.2.2.2.2 HW.out.2.2.1
 have c3:wn.heap[sp]?=some (.cells #[.slice (some ⟨eb,0,none⟩) 0 0] 420):=(HFAR.out sp (A0 j2) g4 (by omega)).trans j2
 have c4:wn.heap[eb]?=some (.cells #[] 138):=(HFAR.out eb (A0 j3) g8 (by omega)).trans j3
 have HC:=Lib.hid (And.intro c1 (And.intro c3 c4))
 have HG:=Lib.hid (And.intro g1 (And.intro g2 g7))
 have HFN:=Lib.hid (tc_fin {m with spare:=some ⟨sp,0,none⟩} ⟨Ab bl,Ab br,m.S,y,some ⟨pr,0,none⟩,1,pc,m.cmp,true,some ⟨sp,0,none⟩,m.ha⟩ wb w2b sp eb pr pc b1 b2 wn hL hR rfl rfl rfl rfl j6 c1 c2 c3 c4 (by omega) (by omega) (by omega) (fun h=>g9 h.symm))
 clear g1 g2 g3 g4 g5 g6 g7 g8 g9 j1 j2 j3 j6 c1 c2 c3 c4
 go_wp2_with fail
 refine HFN.out.mono ?_
 rintro _ w3 ⟨rfl,hfr3,pa3,pn3,pc3,hb3⟩
 have H3:=Lib.hid (And.intro hfr3 hb3)
 clear hfr3 hb3 HFN
 go_wp2_with fail
 go_ret
 obtain⟨hfr3,hb3⟩:=H3.out
 obtain⟨g1,g2,g7⟩:=HG.out
 obtain⟨t1,t2,t3,t4,t5⟩:=HW.out
 have e1:=HM.out.1.size
 have e2:=t1.size
 have e3:=t2.size
 have e4:=t5.size
 have e5:=hfr3.size
 have hlM:bM<w.heap.size:=hltM
 refine⟨rfl,⟨?_, ?_, ?_, ?_,fun k hk hx=> ?_⟩,⟨pa3,pn3,pc3,_,hb3⟩, ?_⟩
 ·exact hfr3.os.trans (t5.os.trans (t2.os.trans (t1.os.trans HFM.out.os)))
 ·exact hfr3.tape.trans (t5.tape.trans (t2.tape.trans (t1.tape.trans HFM.out.tape)))
 ·exact hfr3.output.trans (t5.output.trans (t2.output.trans (t1.output.trans HFM.out.output)))
 ·have:=HFM.out.size;omega
 ·simp only [not_or]at hx
  rw [hfr3.block k (by omega) (by omega),HFAR.out k (by omega) (by omega) hx.2,HP2.out.1.block k (by omega) hx.1]
  exact HA.out.1.block k hk
 ·have hkey:w3.cell? ⟨w.heap.size,0,none⟩=some (.string key):=by
   have hb0:w3.heap[w.heap.size]?=some (.cells #[.string key] 9):=by
    have hl:=A0 HA.out.2.1
    rw [hfr3.block _ (by omega) (by omega),HFAR.out _ (by omega) (by omega) (by omega),HP2.out.1.block _ hl (by omega)];exact HA.out.2.1
   exact(A1 hb0).1 0
  unfold B4
  split
  ·rename_i hs
   rw [if_pos hs]at t4
   rw [hfr3.block bM (by omega) (by have:=HN.out.2.2;omega)]
   exact A2 t5 t4
  ·rename_i hs
   rw [if_neg hs]at t4
   exact⟨w.heap.size,Nat.le_refl _,((t4.weak (lo2:=w.heap.size) (by have:=HFM.out.size;omega)).bw t5).keep ⟨_,hL⟩ HC.out.1 HC.out.2.1 HC.out.2.2 (by have:=HN.out.2.2;omega) (by omega) hfr3,hkey,by omega⟩
end
section
open Go Go.RowKit Go.MapKept
theorem keepEc {w2:World}{be bw bT bo wb bt ob:Nat}(n1:¬bw=be)(n2:¬bT=be)(n3:¬bo=be)(he:w2.heap[be]?=some (.cells #[.slice none 0 0] 134))(h:w2.cell? ⟨be,0,none⟩=some (.slice none 0 0)∧w2.cell? ⟨bw,0,none⟩=some (.pointer (some ⟨wb,0,none⟩))∧w2.cell? ⟨bT,0,none⟩=some (.pointer (some ⟨bt,0,none⟩))∧w2.cell? ⟨bo,0,none⟩=some (.map (some ob))):
  ∀w',w'=w2.setCell ⟨be,0,none⟩ (.slice none 0 0)→w'.cell? ⟨be,0,none⟩=some (.slice none 0 0)∧w'.cell? ⟨bw,0,none⟩=some (.pointer (some ⟨wb,0,none⟩))∧w'.cell? ⟨bT,0,none⟩=some (.pointer (some ⟨bt,0,none⟩))∧w'.cell? ⟨bo,0,none⟩=some (.map (some ob)):=by
 rintro w' rfl
 have hx:=Ac he 0 (.slice none 0 0)
 refine⟨(A1 hx).1 0, ?_⟩
 simpa [World.cell?_setCell_other,n1,n2,n3]using h.2
structure FcBoxes (w:World) (be bw bT bo wb bt ob:Nat):Prop where
 e:w.heap[be]?=some (.cells #[.slice none 0 0] 134)
 w_:w.heap[bw]?=some (.cells #[.pointer (some ⟨wb,0,none⟩)] 138)
 t_:w.heap[bT]?=some (.cells #[.pointer (some ⟨bt,0,none⟩)] 78)
 o_:w.heap[bo]?=some (.cells #[.map (some ob)] 190)
theorem fcb_later {w w2:World}{be bw bT bo wb bt ob bM:Nat}(hx:FcBoxes w be bw bT bo wb bt ob)(hfr:Fr (fun k=>k=wb∨k=bM) w.heap.size w w2)(hw:∀k,(k=be∨k=bw∨k=bT∨k=bo)→¬k=wb∧¬k=bM):FcBoxes w2 be bw bT bo wb bt ob:=by
 have h:∀k o,(k=be∨k=bw∨k=bT∨k=bo)→w.heap[k]?=some o→w2.heap[k]?=some o:=fun k o hk ho=>by
  rw [hfr.block k (A0 ho) (by have:=hw k hk;simp [this.1,this.2])];exact ho
 exact⟨h _ _ (.inl rfl) hx.e,h _ _ (.inr (.inl rfl)) hx.w_,h _ _ (.inr (.inr (.inl rfl))) hx.t_,h _ _ (.inr (.inr (.inr rfl))) hx.o_⟩
theorem B4.turn {lo bM be T n c:Nat}{a:Option Addr}{key:ByteArray}{same:Bool}{w2 w3:World}(h:B4 lo bM key same w2)(t:Az w2 w3 be)(he:w2.heap[be]?=some (.cells #[.slice a n c] T))(hM:¬bM=be):B4 lo bM key same w3:=by
 have q:=(A1 he).1 0
 unfold B4 at h⊢
 split at h
 ·rename_i hs
  rw [if_pos hs];exact(t.block bM hM).trans h
 ·rename_i hs
  rw [if_neg hs]
  obtain⟨kb,hlk,⟨b2,c2,hl2,h1,h2,h3,h4,h5,h6⟩,hk,hkM⟩:=h
  have x1:¬b2=be:=by
   rintro rfl
   rw [h2]at q;simp at q
  have x2:¬kb=be:=by
   rintro rfl
   rw [hk]at q;simp at q
  have e:=t.block b2 x1
  exact⟨kb,hlk,⟨b2,c2,hl2,(t.block bM hM).trans h1,(Al e 0).trans h2,(Al e 1).trans h3,(Al e 2).trans h4,(Al e 3).trans h5,h6⟩,(Al (t.block kb x2) 0).trans hk,hkM⟩
theorem tc_itemFn (m:CW)(wb bt ob bl br be bw bT bo bM:Nat)(key:ByteArray)(same:Bool)(w:World)(hx:FcBoxes w be bw bT bo wb bt ob)(n1:¬bw=be)(n2:¬bT=be)(n3:¬bo=be)(hw:∀k,(k=be∨k=bw∨k=bT∨k=bo)→¬k=wb∧¬k=bM)
  (hC:∀w1,Bw w w1→Calls Tryz.prog 222 #[.pointer (some ⟨wb,0,none⟩), .pointer (some ⟨bt,0,none⟩), .map (some ob), .string key,Ab bl,Ab br] w1 (TcItem m wb bM key same w1)):
  Calls Tryz.prog 221 #[.string key,Ab bl,Ab br, .pointer (some ⟨be,0,none⟩), .pointer (some ⟨bw,0,none⟩), .pointer (some ⟨bT,0,none⟩), .pointer (some ⟨bo,0,none⟩)] w
   (fun e w'=>e= .returned (.bool true)∧Fr (fun k=>k=wb∨k=bM∨k=be) w.heap.size w w'∧FcBoxes w' be bw bT bo wb bt ob∧(∃pa pn pc sp,w'.heap[wb]?=some ({m with pa:=pa,pn:=pn,pc:=pc,spare:=sp}:CW).obj)∧B4 w.heap.size bM key same w'):=by
 obtain⟨q0,f0⟩:=A1 hx.e
 obtain⟨q1,f1⟩:=A1 hx.w_
 obtain⟨q2,f2⟩:=A1 hx.t_
 obtain⟨q3,f3⟩:=A1 hx.o_
 have hl0:=A0 hx.e
 have HX:=Lib.hid (And.intro hx hw)
 have HC:=Lib.hid hC
 have S0:w.cell? ⟨be,0,none⟩=some (.slice none 0 0)∧w.cell? ⟨bw,0,none⟩=some (.pointer (some ⟨wb,0,none⟩))∧w.cell? ⟨bT,0,none⟩=some (.pointer (some ⟨bt,0,none⟩))∧w.cell? ⟨bo,0,none⟩=some (.map (some ob)):=⟨q0 0,q1 0,q2 0,q3 0⟩
 have S1:w.drew.cell? ⟨be,0,none⟩=some (.slice none 0 0)∧w.drew.cell? ⟨bw,0,none⟩=some (.pointer (some ⟨wb,0,none⟩))∧w.drew.cell? ⟨bT,0,none⟩=some (.pointer (some ⟨bt,0,none⟩))∧w.drew.cell? ⟨bo,0,none⟩=some (.map (some ob)):=S0
 clear hx hC q0 q1 q2 q3 f0 f1 f2 f3 hw
 go_enter Tryz.func221,Tryz.ntmps221
 go_upto_region 1 with(fail)
 go_region_held3 (fun w'=>w'.cell? ⟨be,0,none⟩=some (.slice none 0 0)∧w'.cell? ⟨bw,0,none⟩=some (.pointer (some ⟨wb,0,none⟩))∧w'.cell? ⟨bT,0,none⟩=some (.pointer (some ⟨bt,0,none⟩))∧w'.cell? ⟨bo,0,none⟩=some (.map (some ob)))
  (first|(with_reducible exact S0)|(with_reducible exact S1)|(with_reducible exact S2)|((with_reducible refine keepEc n1 n2 n3 HB2.out.e ?_ _ rfl);assumption)|exact keepEc n1 n2 n3 HB2.out.e S2 _ rfl)
  ((go_at_call 222;refine(HC.out _ (by first|exact Bw.rfl.dr|exact Bw.rfl)).mono ?_;rintro _ w2 ⟨rfl,hfr,hmo⟩;have hfr0:Fr (fun k=>k=wb∨k=bM) w.heap.size w w2:=(by first|exact hfr|exact Fr.undrew hfr);have HO:=Lib.hid (And.intro hfr0 hmo);have HB2:=Lib.hid (fcb_later HX.out.1 hfr0 HX.out.2);clear hfr hfr0 hmo;have S2:w2.cell? ⟨be,0,none⟩=some (.slice none 0 0)∧w2.cell? ⟨bw,0,none⟩=some (.pointer (some ⟨wb,0,none⟩))∧w2.cell? ⟨bT,0,none⟩=some (.pointer (some ⟨bt,0,none⟩))∧w2.cell? ⟨bo,0,none⟩=some (.map (some ob)):=⟨(A1 HB2.out.e).1 0,(A1 HB2.out.w_).1 0,(A1 HB2.out.t_).1 0,(A1 HB2.out.o_).1 0⟩;obtain⟨qz,fz⟩:=A1 HB2.out.e;have hlz:=A0 HB2.out.e))
 go_wp2_with fail
 go_ret
 obtain⟨hfr,⟨pa,pn,pc,sp,hb⟩,ho⟩:=HO.out
 have ht:Az w2 (w2.setCell ⟨be,0,none⟩ (.slice none 0 0)) be:=(Az.refl w2 be).set _ _
 have hb2:=HB2.out
 have hww:=HX.out.2 be (.inl rfl)
 have hlw:=HX.out.1
 refine⟨rfl,⟨ht.os.trans hfr.os,ht.tape.trans hfr.tape,ht.output.trans hfr.output,by rw [ht.size];exact hfr.size,fun k hk hx=> ?_⟩,⟨by simpa using Ac hb2.e 0 (.slice none 0 0),(ht.block _ n1).trans hb2.w_,(ht.block _ n2).trans hb2.t_,(ht.block _ n3).trans hb2.o_⟩,⟨pa,pn,pc,sp,(ht.block _ (fun h=>hww.1 h.symm)).trans hb⟩,ho.turn ht hb2.e (fun h=>hww.2 h.symm)⟩
 simp only [not_or]at hx
 rw [ht.block k hx.2.2]
 exact hfr.block k hk (by simp [hx.1,hx.2.1])
end
end Go.Proofs.YtmghkmhgpmcoaaaGreat
