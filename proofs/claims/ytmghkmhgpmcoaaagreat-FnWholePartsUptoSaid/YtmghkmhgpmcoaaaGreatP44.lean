/- What the claim's theorem 'proved' rests on: FsLeaf, FsPrep, FsFin, FsDo, FsSet. -/
import Derived.Test.YtmghkmhgpmcoaaaGreatP22
set_option linter.unusedVariables false
set_option linter.unusedSimpArgs false
set_option maxRecDepth 100000
set_option maxHeartbeats 10000000
namespace Go.Proofs.YtmghkmhgpmcoaaaGreat
section
open Go Go.RowKit Go.MapKept
structure FW where
 L:Value
 S:Option Addr
 y:Six
 set:Nat
 pa:Option Addr
 pn:Nat
 pc:Nat
 spare:Option Addr
 ha:Nat
def FW.obj (m:FW):Obj:= .cells #[m.L, .pointer m.S, .pointer m.y.y0, .pointer m.y.y1, .pointer m.y.y2, .pointer m.y.y3, .pointer m.y.y4, .bool false, .pointer (some ⟨m.set,0,none⟩), .slice m.pa m.pn m.pc, .pointer m.spare, .iface 185 (.pointer (some ⟨m.ha,0,none⟩))] 161
def FsOut (w:World)(bM:Nat)(p0 p1 p2 p3:Option Addr)(w':World):Prop:=Fr (fun k=>k=bM) w.heap.size w w'∧OneP w' w.heap.size bM p0 p1 p2 p3
theorem fr_drew {X:Nat→Prop}{w1 w2:World}{n:Nat}(h:Fr X n w1.drew w2):Fr X n w1 w2:=⟨h.os,h.tape,h.output,h.size,h.block⟩
theorem fs_doScalar (m:FW)(bs wb bM bP:Nat)(p0 p1 p2 p3:Option Addr)(hset:m.set=bM)(hpa:m.pa=some ⟨bP,0,none⟩)(hpn:m.pn=1)(w:World)(hb:w.heap[wb]?=some m.obj)(hM:w.heap[bM]?=some AK)
  (hP:w.cell? ⟨bP,0,none⟩=some (.pointer p0)∧w.cell? ⟨bP,1,none⟩=some (.pointer p1)∧w.cell? ⟨bP,2,none⟩=some (.pointer p2)∧w.cell? ⟨bP,3,none⟩=some (.pointer p3)) (hnM:¬bM=wb):
  Calls Tryz.prog 242 #[.pointer (some ⟨wb,0,none⟩), .pointer (some ⟨bs,0,none⟩)] w (fun e w'=>e= .returned (.slice none 0 0)∧FsOut w bM p0 p1 p2 p3 w'):=by
 rcases m with⟨L,S,⟨y0,y1,y2,y3,y4⟩,set,pa,pn,pc,spare,ha⟩
 simp only at hset hpa hpn
 subst hset
 subst hpa
 subst hpn
 obtain⟨bM,hbM⟩:∃b,b=set:=⟨_,rfl⟩
 subst hbM
 unfold FW.obj at hb
 simp only at hb
 have HB:=Lib.hid (And.intro hM hP)
 obtain⟨q,f⟩:=A1 hb
 have hltx:=A0 hb
 have S0:w.cell? ⟨wb,8,none⟩=some (.pointer (some ⟨bM,0,none⟩))∧w.cell? ⟨wb,9,none⟩=some (.slice (some ⟨bP,0,none⟩) 1 pc):=⟨q 8,q 9⟩
 clear hb hM hP q f
 go_enter Tryz.func242,Tryz.ntmps242
 go_upto_region 1 with(fail)
 have HS:=Lib.hid (fun w0 (h0:w0.heap=w.heap)=>setIns_c bM bP pc p0 p1 p2 p3 w0 (by rw [h0];exact HB.out.1) (Cb (w:=w) (by rw [h0]) HB.out.2))
 have S1:w.drew.cell? ⟨wb,8,none⟩=some (.pointer (some ⟨bM,0,none⟩))∧w.drew.cell? ⟨wb,9,none⟩=some (.slice (some ⟨bP,0,none⟩) 1 pc):=S0
 have hnM2:¬wb=bM:=fun h=>hnM h.symm
 go_region_held3 (fun w'=>w'.cell? ⟨wb,8,none⟩=some (.pointer (some ⟨bM,0,none⟩))∧w'.cell? ⟨wb,9,none⟩=some (.slice (some ⟨bP,0,none⟩) 1 pc))
  (first|(with_reducible exact S0)|(with_reducible exact S1)|(with_reducible exact S2)|go_keep)
  ((go_at_call 93;refine(HS.out _ (by exact rfl)).mono ?_;rintro _ w2 ⟨rfl,hfr,hone⟩;have HO:=Lib.hid (And.intro hfr hone);have S2:w2.cell? ⟨wb,8,none⟩=some (.pointer (some ⟨bM,0,none⟩))∧w2.cell? ⟨wb,9,none⟩=some (.slice (some ⟨bP,0,none⟩) 1 pc):=⟨(Al (hfr.block wb (by exact hltx) hnM2) 8).trans S0.1,(Al (hfr.block wb (by exact hltx) hnM2) 9).trans S0.2⟩))
 all_goals
  go_wp2_with fail
  go_ret
  exact⟨rfl,by first|exact HO.out.1|exact fr_drew HO.out.1,HO.out.2⟩
end
section
open Go Go.RowKit Go.MapKept
@[go_sem] theorem ptrF_nil_nil (w:World):(binOp .eql 159 (.pointer none) (.pointer none)).run Tryz.prog w= .ok (.bool true) w:=by kernel_rfl
def FsPrep (m:FW)(wb:Nat)(fp:Option Addr)(y:Six)(w:World):Ending→World→Prop:=fun e w'=>Fr (fun k=>k=wb) w.heap.size w w'∧
 ∃(w2b sp pr pc eb:Nat),e= .returned (.pointer (some ⟨w2b,0,none⟩))∧w.heap.size≤w2b∧w.heap.size≤sp∧w.heap.size≤pr∧sp≠w2b∧pr≠w2b∧pr≠sp∧w.heap.size≤eb∧eb≠w2b∧eb≠sp∧w'.heap[wb]?=some ({m with spare:=some ⟨sp,0,none⟩}:FW).obj∧
  w'.heap[sp]?=some (.cells #[.slice (some ⟨eb,0,none⟩) 0 0] 432)∧w'.heap[eb]?=some (.cells #[] 154)∧w'.heap[w2b]?=some ({m with y:=y,pa:=some ⟨pr,0,none⟩,pn:=1,pc:=pc,spare:=some ⟨sp,0,none⟩}:FW).obj∧
  (w'.cell? ⟨pr,0,none⟩=some (.pointer fp)∧w'.cell? ⟨pr,1,none⟩=some (.pointer none)∧w'.cell? ⟨pr,2,none⟩=some (.pointer none)∧w'.cell? ⟨pr,3,none⟩=some (.pointer none))∧1≤pc
theorem fs_prep_end {L:Value}{ha wb pr pc:Nat}{S fp:Option Addr}{out:Nat}{y0 y1 y2 y3 y4:Option Addr}{z:Six}{w wa wp wx:World}(k6:Fr (fun k=>k=wb) w.heap.size w wa)(k5:wa.heap.size=w.heap.size+1+1+1+1)(g1:Bw wa wp)(g3:wp.heap.size=wa.heap.size+1)(h3:Fr (fun k=>k=wa.heap.size) wp.heap.size wp wx)
  (h1:wx.heap[wa.heap.size]?=some (.cells #[L, .pointer S, .pointer z.y0, .pointer z.y1, .pointer z.y2, .pointer z.y3, .pointer z.y4, .bool false, .pointer (some ⟨out,0,none⟩), .slice (some ⟨pr,0,none⟩) 1 pc, .pointer (some ⟨w.heap.size+1+1+1,0,none⟩), .iface 185 (.pointer (some ⟨ha,0,none⟩))] 161))
  (h2:wx.ownsRow wp.heap.size 227 4 (.slice (some ⟨pr,0,none⟩) 1 pc) 1 [.pointer fp, .pointer none, .pointer none, .pointer none])
  (k1:wa.heap[wb]?=some (⟨L,S,⟨y0,y1,y2,y3,y4⟩,out,none,0,0,some ⟨w.heap.size+1+1+1,0,none⟩,ha⟩:FW).obj) (k4:wa.heap[w.heap.size+1+1+1]?=some (.cells #[.slice (some ⟨w.heap.size+1+1,0,none⟩) 0 0] 432)) (k3:wa.heap[w.heap.size+1+1]?=some (.cells #[] 154)) (hlt:wb<w.heap.size):
  FsPrep ⟨L,S,⟨y0,y1,y2,y3,y4⟩,out,none,0,0,none,ha⟩ wb fp z w (.returned (.pointer (some ⟨wa.heap.size,0,none⟩))) wx:=by
 obtain⟨hpr,hpc1,c0,c1,c2,c3⟩:=row_cells h2
 have t1:Az wx wx wa.heap.size:=Az.refl wx _
 have hfar:∀k,k<wp.heap.size→k≠wa.heap.size→wx.heap[k]?=wp.heap[k]?:=fun k hk hx=>(t1.block k hx).trans (h3.block k hk hx)
 have hcell:∀i u,wx.cell? ⟨pr,i,none⟩=some u→wx.cell? ⟨pr,i,none⟩=some u:=by
  intro i u hu
  rw [World.cell?_of_block (t1.block pr (by omega))];exact hu
 refine⟨⟨t1.os.trans (h3.os.trans (g1.os.trans k6.os)),t1.tape.trans (h3.tape.trans (g1.tape.trans k6.tape)),t1.output.trans (h3.output.trans (g1.output.trans k6.output)),by rw [t1.size];have:=h3.size;omega,fun k hk hx=>by
   rw [hfar k (by omega) (by omega),g1.block k (by omega)];exact k6.block k hk hx⟩,wa.heap.size,w.heap.size+1+1+1,pr,pc,w.heap.size+1+1,rfl,by omega,by omega,by omega,by omega,by omega,by omega,by omega,by omega,by omega, ?_, ?_, ?_, ?_,⟨hcell _ _ c0,hcell _ _ c1,hcell _ _ c2,hcell _ _ c3⟩,hpc1⟩
 ·rw [hfar wb (by omega) (by omega),g1.block wb (by omega)];exact k1
 ·rw [hfar _ (by omega) (by omega),g1.block _ (by omega)];exact k4
 ·rw [hfar _ (by omega) (by omega),g1.block _ (by omega)];exact k3
 ·unfold FW.obj
  exact h1
theorem fs_prep (m:FW)(wb bl:Nat)(fp:Option Addr)(y:Six)(w:World)(hL:m.L=Ab bl)(hsp:m.spare=none)(hpa:m.pa=none)(hpn:m.pn=0)(hpc:m.pc=0)(hb:w.heap[wb]?=some m.obj):
  Calls Tryz.prog 250 #[.pointer (some ⟨wb,0,none⟩), .agg #[.pointer fp, .pointer none, .pointer none, .pointer none],F9 y] w (FsPrep m wb fp y w):=by
 rcases m with⟨L,S,⟨y0,y1,y2,y3,y4⟩,out,pa,pn,pc,spare,ha⟩
 rcases y with⟨z0,z1,z2,z3,z4⟩
 simp only at hsp hpa hpn hpc hL
 subst hsp hpa hpn hpc
 obtain rfl:Ab bl=L:=hL.symm
 unfold FW.obj at hb
 simp only at hb
 have HB:=Lib.hid hb
 obtain⟨q,f⟩:=A1 HB.out
 have hlt:=A0 HB.out
 obtain⟨u0,u1,u2,u3,u4,u5,u6,u7,u8⟩:=ltx hlt
 have v1:wb<w.heap.size+1+1:=by omega
 have v2:wb<w.heap.size+1+1+1:=by omega
 have v3:wb<w.heap.size+1+1+1+1:=by omega
 have hbs:∀w,(Instr.buildSlice 432 0 #[]).run Tryz.prog w= .ok (.slice (some ⟨w.heap.size,0,none⟩) 0 0) (w.alloc (.cells #[] 154)):=fun _=>by kernel_rfl
 clear hb
 go_enter Tryz.func250,Tryz.ntmps250
 go_upto_region 3 with(fail)
 obtain⟨wa,hwa⟩:∃wa,wa=((((w.setCell ⟨wb,10,none⟩ (.pointer (some ⟨w.heap.size+1+1+1,0,none⟩))).alloc (.cells #[.pointer fp, .pointer none, .pointer none, .pointer none] 227)).alloc (.cells #[.pointer z0, .pointer z1, .pointer z2, .pointer z3, .pointer z4, .bool false] 83)).alloc (.cells #[] 154)).alloc (.cells #[.slice (some ⟨w.heap.size+1+1,0,none⟩) 0 0] 432):=⟨_,rfl⟩
 have HW:Hid (wa.heap[wb]?=some (⟨Ab bl,S,⟨y0,y1,y2,y3,y4⟩,out,none,0,0,some ⟨w.heap.size+1+1+1,0,none⟩,ha⟩:FW).obj∧wa.heap[w.heap.size]?=some (.cells #[.pointer fp, .pointer none, .pointer none, .pointer none] 227)∧wa.heap[w.heap.size+1]?=some (.cells #[.pointer z0, .pointer z1, .pointer z2, .pointer z3, .pointer z4, .bool false] 83)∧
   wa.heap[w.heap.size+1+1+1]?=some (.cells #[.slice (some ⟨w.heap.size+1+1,0,none⟩) 0 0] 432)∧wa.heap.size=w.heap.size+1+1+1+1∧Fr (fun k=>k=wb) w.heap.size w wa∧wa.heap[w.heap.size+1+1]?=some (.cells #[] 154)):=by
  subst hwa
  have ht:Az w (w.setCell ⟨wb,10,none⟩ (.pointer (some ⟨w.heap.size+1+1+1,0,none⟩))) wb:=(Az.refl w wb).set _ _
  have hs:=ht.size
  refine⟨A3 (A3 (A3 (A3 ?_))),by simpa using b4_0 (w:=w.setCell ⟨wb,10,none⟩ (.pointer (some ⟨w.heap.size+1+1+1,0,none⟩))),by simpa using b4_1 (w:=w.setCell ⟨wb,10,none⟩ (.pointer (some ⟨w.heap.size+1+1+1,0,none⟩))),by simpa using b4_3 (w:=w.setCell ⟨wb,10,none⟩ (.pointer (some ⟨w.heap.size+1+1+1,0,none⟩))),by simp, ?_,by simpa using b4_2 (w:=w.setCell ⟨wb,10,none⟩ (.pointer (some ⟨w.heap.size+1+1+1,0,none⟩)))⟩
  ·have:=Ac HB.out 10 (.pointer (some ⟨w.heap.size+1+1+1,0,none⟩))
   unfold FW.obj
   simpa using this
  ·exact fr_turn ht (((A5.al _).al _).al _)
 rw [←hwa]
 clear hwa q f u0 u1 u2 u3 u4 u5 u6 u7 u8 v1 v2 v3
 obtain⟨q,f⟩:=A1 HW.out.1
 obtain⟨q0,f0⟩:=A1 HW.out.2.1
 obtain⟨q1,f1⟩:=A1 HW.out.2.2.1
 obtain⟨q3,f3⟩:=A1 HW.out.2.2.2.1
 have hsa:=HW.out.2.2.2.2.1
 have HSA:=Lib.hid hsa
 have hlta:=A0 HW.out.1
 have hlt3:=A0 HW.out.2.2.2.1
 have n1:¬wa.heap.size=wb:=by omega
 have n2:¬wb=wa.heap.size:=by omega
 have e1:w.heap.size<wa.heap.size:=by omega
 have e2:w.heap.size+1<wa.heap.size:=by omega
 clear hsa
 go_upto_region 10 with(fail)
 obtain⟨wp,hwc⟩:∃wp,wp=wa.alloc (.cells #[Ab bl, .pointer S, .pointer z0, .pointer z1, .pointer z2, .pointer z3, .pointer z4, .bool false, .pointer (some ⟨out,0,none⟩), .slice none 0 0, .pointer (some ⟨w.heap.size+1+1+1,0,none⟩), .iface 185 (.pointer (some ⟨ha,0,none⟩))] 161):=⟨_,rfl⟩
 have HC:Hid (Bw wa wp∧wp.heap[wa.heap.size]?=some (.cells #[Ab bl, .pointer S, .pointer z0, .pointer z1, .pointer z2, .pointer z3, .pointer z4, .bool false, .pointer (some ⟨out,0,none⟩), .slice none 0 0, .pointer (some ⟨w.heap.size+1+1+1,0,none⟩), .iface 185 (.pointer (some ⟨ha,0,none⟩))] 161)∧wp.heap.size=wa.heap.size+1):=by subst hwc;exact⟨A5,A4,by simp⟩
 rw [←hwc]
 clear hwc q f q0 f0 q1 f1 q3 f3
 obtain⟨q,f⟩:=A1 HC.out.2.1
 obtain⟨q0,f0⟩:=A1 (A2 HC.out.1 HW.out.2.1)
 have hl0:=A0 (A2 HC.out.1 HW.out.2.1)
 have hlc:=A0 HC.out.2.1
 have n3:¬wa.heap.size=wp.heap.size:=by omega
 have n4:¬w.heap.size=wp.heap.size:=by omega
 have n5:¬wp.heap.size=wa.heap.size:=by omega
 go_cut [] (fun wx=>∃(pr pc:Nat),wx.heap[wa.heap.size]?=some (.cells #[Ab bl, .pointer S, .pointer z0, .pointer z1, .pointer z2, .pointer z3, .pointer z4, .bool false, .pointer (some ⟨out,0,none⟩), .slice (some ⟨pr,0,none⟩) 1 pc, .pointer (some ⟨w.heap.size+1+1+1,0,none⟩), .iface 185 (.pointer (some ⟨ha,0,none⟩))] 161)∧wx.ownsRow wp.heap.size 227 4 (.slice (some ⟨pr,0,none⟩) 1 pc) 1 [.pointer fp, .pointer none, .pointer none, .pointer none]∧Fr (fun k=>k=wa.heap.size) wp.heap.size wp wx)
 case first=>
  go_region_law
   (first
    |(refine AH _ (by rfl) _ _ 140 (by rfl) wp.heap.size 227 _ 4 32 und_path info_pe (by rfl) (by decide) (by decide) (.slice none 0 0) 0 [] (by rfl) (World.ownsRow_nil _ _ _ _) wp.heap.size _ _ (by rfl) (by exact A4) (by rfl) (by simp [Value.oneCell']) (by unfold lim;omega) (by simp) ?_;intro v' w2 ho2 hg2 hwh2;obtain⟨av2,cv2,rfl⟩:=Aj ho2;have HG:=Lib.hid (And.intro ho2 hg2);clear hwh2;have hbz:=(hg2.block wa.heap.size (by simp;omega) (fun e=>by simp [Value.ownBlock]at e)).trans (A3 HC.out.2.1);obtain⟨q2z,f2z⟩:=A1 hbz;have hlz:=A0 hbz))
  all_goals
   go_wp2_with fail
   go_meet
   obtain⟨pr,h1,h2,h3,h4⟩:=prep_fin (i:=9) HC.out.2.1 (by first|exact(Bw.rfl.al _).dr|exact Bw.rfl.al _|exact Bw.rfl.dr.al _) HG.out.1 HG.out.2
   subst h1
   exact⟨pr,cv2,by simpa using h2,h3,h4⟩
 case rest=>
  obtain⟨pr,pc,hb2,hrow,hfr⟩:=hcut
  have HX:=Lib.hid (And.intro hb2 (And.intro hrow hfr))
  clear hb2 hrow hfr q f q0 f0
  obtain⟨q,f⟩:=A1 HX.out.1
  have hlx:=A0 HX.out.1
  go_wp2_with fail
  go_ret
  obtain⟨h1,h2,h3⟩:=HX.out
  obtain⟨g1,g2,g3⟩:=HC.out
  obtain⟨k1,_,_,k4,k5,k6,k3⟩:=HW.out
  exact fs_prep_end (z:=⟨z0,z1,z2,z3,z4⟩) k6 k5 g1 g3 h3 h1 h2 k1 k4 k3 hlt
end
section
open Go Go.RowKit Go.MapKept
theorem info_fwp:(Tryz.prog.info? 154).map (fun i=>(i.zero,i.size,i.bytes))=some (some (.pointer none),1,8):=by kernel_rfl
theorem und_fwps:Tryz.prog.underlying 432=some (.slice 154):=by kernel_rfl
def FsFin (m:FW)(wb sp eb:Nat)(w:World):Ending→World→Prop:=fun e w'=>e= .returned (.tuple #[])∧Fr (fun k=>k=wb∨k=sp∨k=eb) w.heap.size w w'∧∃pa pn pc,w'.heap[wb]?=some ({m with pa:=pa,pn:=pn,pc:=pc}:FW).obj
theorem fsfin_end {m:FW}{wb sp eb pr pc:Nat}{v:Value}{w wa w2 W:World}(h1:Az w wa wb)(h2:wa.heap[wb]?=some ({m with pa:=some ⟨pr,0,none⟩,pn:=0,pc:=pc}:FW).obj)(hW:Bw wa W)(hg:W.grownBy w2 (some eb))(n1:wb≠sp)(n2:wb≠eb)(hlt:wb<w.heap.size):
  FsFin m wb sp eb w (.returned (.tuple #[])) (w2.setCell ⟨sp,0,none⟩ v):=by
 have t2:Az w2 (w2.setCell ⟨sp,0,none⟩ v) sp:=(Az.refl w2 sp).set _ _
 have hs:=hW.size
 have hfar:∀k,k<wa.heap.size→k≠sp→k≠eb→(w2.setCell ⟨sp,0,none⟩ v).heap[k]?=wa.heap[k]?:=fun k hk a b=>by
  rw [t2.block k a,hg.block k (by omega) (fun e=>b (by cases e;rfl))];exact hW.block k hk
 refine⟨rfl,⟨t2.os.trans (hg.os.trans (hW.os.trans h1.os)),t2.tape.trans (hg.tape.trans (hW.tape.trans h1.tape)),t2.output.trans (hg.output.trans (hW.output.trans h1.output)),by rw [t2.size];have:=hg.size;have:=h1.size;omega,fun k hk hx=> ?_⟩,some ⟨pr,0,none⟩,0,pc, ?_⟩
 ·simp only [not_or]at hx
  rw [hfar k (by rw [h1.size];exact hk) hx.2.1 hx.2.2];exact h1.block k hx.1
 ·rw [hfar wb (by rw [h1.size];exact hlt) n1 n2];exact h2
theorem fs_fin (m m2:FW)(wb w2b sp eb pr pc bl:Nat)(w:World)(hL:m.L=Ab bl)(hsp:m.spare=some ⟨sp,0,none⟩)(hpa:m2.pa=some ⟨pr,0,none⟩)(hpn:m2.pn=1)(hpc:m2.pc=pc)(hpc1:1≤pc)(hb:w.heap[wb]?=some m.obj)(hb2:w.heap[w2b]?=some m2.obj)
  (hs:w.heap[sp]?=some (.cells #[.slice (some ⟨eb,0,none⟩) 0 0] 432)) (he:w.heap[eb]?=some (.cells #[] 154)) (n1:wb≠sp) (n2:wb≠eb) (n3:wb≠w2b) (n4:sp≠eb):
  Calls Tryz.prog 251 #[.pointer (some ⟨wb,0,none⟩), .pointer (some ⟨w2b,0,none⟩)] w (FsFin m wb sp eb w):=by
 rcases m with⟨L,S,⟨y0,y1,y2,y3,y4⟩,out,pa,pn,pc0,spare,ha⟩
 rcases m2 with⟨L2,S2,⟨x0,x1,x2,x3,x4⟩,out2,pa2,pn2,pc2,spare2,ha2⟩
 simp only at hL hsp hpa hpn hpc
 subst hL hsp hpa hpn hpc
 have HBO:=Lib.hid hb
 unfold FW.obj at hb hb2
 simp only at hb hb2
 have HB:=Lib.hid (And.intro hb (And.intro hb2 (And.intro hs he)))
 obtain⟨q,f⟩:=A1 hb
 obtain⟨q2,f2⟩:=A1 hb2
 obtain⟨q3,f3⟩:=A1 hs
 have hlt:=A0 hb
 have hlt2:=A0 hb2
 have hlt3:=A0 hs
 have k9:=q2 9
 have g9:=f 9
 have hb0:0<pc2:=by omega
 have hw0:IntKind.i64.wrap 0=0:=rfl
 have hc0:(0:Int)≤(pc2:Int):=by omega
 clear hb hb2 hs he
 go_enter Tryz.func251,Tryz.ntmps251
 go_wp2_with fail
 go_cut [] (fun wx=>∃pr' pc',Az w wx wb∧wx.heap[wb]?=some (⟨Ab bl,S,⟨y0,y1,y2,y3,y4⟩,out,some ⟨pr',0,none⟩,0,pc',some ⟨sp,0,none⟩,ha⟩:FW).obj)
 case first=>
  go_region_law (fail)
  all_goals
   go_wp2_with fail
   go_meet
   have ht:Az w (w.setCell ⟨wb,9,none⟩ (.slice (some ⟨pr,0,none⟩) 0 pc2)) wb:=(Az.refl w wb).set _ _
   have hx:=Ac HB.out.1 9 (.slice (some ⟨pr,0,none⟩) 0 pc2)
   refine⟨pr,pc2,⟨ht.os,ht.tape,ht.output,ht.size,ht.block⟩, ?_⟩
   unfold FW.obj
   show(w.setCell ⟨wb,9,none⟩ (.slice (some ⟨pr,0,none⟩) 0 pc2)).heap[wb]?=_
   simpa using hx
 case rest=>
  obtain⟨pr',pc',ht,hx⟩:=hcut
  obtain⟨wa,hwa⟩:∃wa:World,wa=wc:=⟨_,rfl⟩
  subst hwa
  have HX:=Lib.hid (And.intro ht hx)
  have hsz:=ht.size
  have hs1:wa.heap[sp]?=some (.cells #[.slice (some ⟨eb,0,none⟩) 0 0] 432):=(ht.block sp (fun e=>n1 e.symm)).trans HB.out.2.2.1
  have he1:wa.heap[eb]?=some (.cells #[] 154):=(ht.block eb (fun e=>n2 e.symm)).trans HB.out.2.2.2
  have HE:=Lib.hid (And.intro hs1 he1)
  have hlta:sp<wa.heap.size:=A0 hs1
  have hlte:eb<wa.heap.size:=A0 he1
  have hltw:wb<wa.heap.size:=A0 hx
  unfold FW.obj at hx
  have HXU:=Lib.hid hx
  clear q f q2 f2 q3 f3 k9 g9 ht hsz
  obtain⟨q,f⟩:=A1 hx
  obtain⟨q3,f3⟩:=A1 hs1
  clear hx hs1 he1
  go_upto_region 1 with(fail)
  go_region_law
   (first
    |(refine AH _ (by rfl) _ _ 432 (by rfl) 0 154 _ 1 8 und_fwps info_fwp (by rfl) (by decide) (by decide) (.slice (some ⟨eb,0,none⟩) 0 0) 0 [] (by rfl) (own_empty (by exact A3 HE.out.2) (Nat.zero_le _)) wa.heap.size _ _ (by rfl) (by exact A4) (by rfl) (by simp [Value.oneCell']) (by unfold lim;omega) (by simp) ?_;intro v' w2 ho2 hg2 hwh2;obtain⟨av2,cv2,rfl⟩:=Aj ho2;have HG:=Lib.hid hg2;clear hwh2 ho2;have hbz:=(hg2.block sp (by simp;omega) (fun e=>n4 (by simp [Value.ownBlock]at e;exact e))).trans (A3 HE.out.1);obtain⟨q2z,f2z⟩:=A1 hbz;have hlz:=A0 hbz;have hby:=(hg2.block wb (by simp;omega) (fun e=>n2 (by simp [Value.ownBlock]at e;exact e))).trans (A3 HXU.out);obtain⟨q1z,f1z⟩:=A1 hby;have hly:=A0 hby))
  all_goals
   go_wp2_with fail
   go_end0
   exact fsfin_end HX.out.1 HX.out.2 (by first|exact(Bw.rfl.al _).dr|exact Bw.rfl.al _|exact Bw.rfl.dr.al _) HG.out n1 n2 hlt
end
section
open Go Go.RowKit Go.MapKept
theorem fs_doListA (m:FW)(l:List JT)(H:Hp)(bl wb bt bM bP:Nat)(a:Option Addr)(c:Nat)(p0 p1 p2 p3:Option Addr)(rel:ByteArray)(hrel:(rel.toList==An)=true)(w:World)(hL:m.L=Ab bl)(hset:m.set=bM)(hpa:m.pa=some ⟨bP,0,none⟩)(hpn:m.pn=1)(hi:Imm H w)
  (cx:A8 H bl 0=some (.iface 189 (.slice a l.length c))) (hx:RJ H (.list l) (.iface 189 (.slice a l.length c))) (hct:A8 H bt 6=some (.string rel))
  (hb:w.heap[wb]?=some m.obj) (hM:w.heap[bM]?=some AK)
  (hP:w.cell? ⟨bP,0,none⟩=some (.pointer p0)∧w.cell? ⟨bP,1,none⟩=some (.pointer p1)∧w.cell? ⟨bP,2,none⟩=some (.pointer p2)∧w.cell? ⟨bP,3,none⟩=some (.pointer p3)) (hnM:¬bM=wb):
  Calls Tryz.prog 240 #[.pointer (some ⟨wb,0,none⟩), .pointer (some ⟨bt,0,none⟩)] w (fun e w'=>e= .returned (.slice none 0 0)∧∃w1,Bw w w1∧FsOut w1 bM p0 p1 p2 p3 w'):=by
 rcases m with⟨L,S,⟨y0,y1,y2,y3,y4⟩,set,pa,pn,pc,spare,ha⟩
 simp only at hset hpa hpn hL
 subst hset hpa hpn hL
 obtain⟨bM,hbM⟩:∃b,b=set:=⟨_,rfl⟩
 subst hbM
 unfold FW.obj at hb
 simp only at hb
 have CA:=fun d os=>Calls.regrown_of (EV l H bl a c (.iface 185 (.pointer (some ⟨ha,0,none⟩))) (Go.Sort.grow (redrawn w d) os) (hi.below (below_regrown w d os)) cx hx)
 clear cx hx
 have HI:=Lib.hid (And.intro hi (And.intro hb (And.intro hM (And.intro hP hct))))
 obtain⟨q,f⟩:=A1 hb
 have hltx0:=A0 hb
 have m7:=fun a w=>Bq a w
 have g0:=cell_regrown (q 0)
 have g11:=cell_regrown (q 11)
 unfold An at hrel
 clear hi hb hM hP hct q f
 go_enter_defers Tryz.func240,Tryz.ntmps240
 go_wp2_with fail
 refine wp_region_quiet_below (by kernel_rfl) (by kernel_rfl) ?_
 repeat (go_big_quiet_step (exact CA _ _))
 refine wpQuiet_nil ?_
 intro _ hw'
 obtain⟨⟨dq,osq⟩,hw''⟩:=hw'
 subst hw''
 obtain⟨wa,hwa,hw'⟩:∃x,Bw w x∧x=Go.Sort.grow (redrawn w dq) osq:=⟨_,below_regrown _ _ _,rfl⟩
 rw [←hw']
 clear hw'
 have HX:Hid (Bw w wa∧wa.heap[wb]?=_):=⟨hwa,A2 hwa HI.out.2.1⟩
 have hltx:=A0 HX.out.2
 have kt:=(HI.out.1.below hwa).cell HI.out.2.2.2.2
 obtain⟨q,f⟩:=A1 HX.out.2
 clear hwa g0 g11 CA
 go_upto_region 5 with(fail)
 have S0:wa.cell? ⟨wb,8,none⟩=some (.pointer (some ⟨bM,0,none⟩))∧wa.cell? ⟨wb,9,none⟩=some (.slice (some ⟨bP,0,none⟩) 1 pc):=⟨q 8,q 9⟩
 clear q f kt
 have HS:=Lib.hid (fun w0 (h0:w0.heap=wa.heap)=>setIns_c bM bP pc p0 p1 p2 p3 w0 (by rw [h0];exact(A2 HX.out.1 HI.out.2.2.1)) (Cb (w:=wa) (by rw [h0]) (BJ HX.out.1 HI.out.2.2.2.1)))
 have S1:wa.drew.cell? ⟨wb,8,none⟩=some (.pointer (some ⟨bM,0,none⟩))∧wa.drew.cell? ⟨wb,9,none⟩=some (.slice (some ⟨bP,0,none⟩) 1 pc):=S0
 have hnM2:¬wb=bM:=fun h=>hnM h.symm
 go_region_held3 (fun w'=>w'.cell? ⟨wb,8,none⟩=some (.pointer (some ⟨bM,0,none⟩))∧w'.cell? ⟨wb,9,none⟩=some (.slice (some ⟨bP,0,none⟩) 1 pc))
  (first|(with_reducible exact S0)|(with_reducible exact S1)|(with_reducible exact S2)|go_keep)
  ((go_at_call 93;refine(HS.out _ (by exact rfl)).mono ?_;rintro _ w2 ⟨rfl,hfr,hone⟩;have HO:=Lib.hid (And.intro hfr hone);have S2:w2.cell? ⟨wb,8,none⟩=some (.pointer (some ⟨bM,0,none⟩))∧w2.cell? ⟨wb,9,none⟩=some (.slice (some ⟨bP,0,none⟩) 1 pc):=⟨(Al (hfr.block wb (by exact hltx) hnM2) 8).trans S0.1,(Al (hfr.block wb (by exact hltx) hnM2) 9).trans S0.2⟩))
 all_goals
  go_wp2_with fail
  refine leaves_cons (f:=274) (args:= #[.pointer (some ⟨ha,0,none⟩), .iface 445 (.slice a l.length c)]) (by simp) (by simp [go_sem,m7]) ?_
  refine(Bn _ _ _ _).mono ?_
  rintro _ _ _ ⟨rfl,rfl,rfl⟩
  exact⟨.slice none 0 0,(by simp [results,Tryz.results240,go_sem]),rfl,wa,HX.out.1,by first|exact HO.out.1|exact fr_drew HO.out.1,HO.out.2⟩
theorem fs_doMapA (m:FW)(ks:List ByteArray)(vs:List JT)(H:Hp)(bl wb bt bM bP r:Nat)(p0 p1 p2 p3:Option Addr)(rel:ByteArray)(hrel:(rel.toList==An)=true)(w:World)(hL:m.L=Ab bl)(hset:m.set=bM)(hpa:m.pa=some ⟨bP,0,none⟩)(hpn:m.pn=1)(hi:Imm H w)
  (cx:A8 H bl 0=some (.iface 190 (.map (some r)))) (hx:RJ H (.map ks vs) (.iface 190 (.map (some r)))) (hct:A8 H bt 8=some (.string rel))
  (hb:w.heap[wb]?=some m.obj) (hM:w.heap[bM]?=some AK)
  (hP:w.cell? ⟨bP,0,none⟩=some (.pointer p0)∧w.cell? ⟨bP,1,none⟩=some (.pointer p1)∧w.cell? ⟨bP,2,none⟩=some (.pointer p2)∧w.cell? ⟨bP,3,none⟩=some (.pointer p3)) (hnM:¬bM=wb):
  Calls Tryz.prog 241 #[.pointer (some ⟨wb,0,none⟩), .pointer (some ⟨bt,0,none⟩)] w (fun e w'=>e= .returned (.slice none 0 0)∧∃w1,Bw w w1∧FsOut w1 bM p0 p1 p2 p3 w'):=by
 rcases m with⟨L,S,⟨y0,y1,y2,y3,y4⟩,set,pa,pn,pc,spare,ha⟩
 simp only at hset hpa hpn hL
 subst hset hpa hpn hL
 obtain⟨bM,hbM⟩:∃b,b=set:=⟨_,rfl⟩
 subst hbM
 unfold FW.obj at hb
 simp only at hb
 have CA:=fun d os=>Calls.regrown_of (Dm ks vs H bl r (.iface 185 (.pointer (some ⟨ha,0,none⟩))) (Go.Sort.grow (redrawn w d) os) (hi.below (below_regrown w d os)) cx hx)
 clear cx hx
 have HI:=Lib.hid (And.intro hi (And.intro hb (And.intro hM (And.intro hP hct))))
 obtain⟨q,f⟩:=A1 hb
 have hltx0:=A0 hb
 have m7:=fun a w=>Bq a w
 have g0:=cell_regrown (q 0)
 have g11:=cell_regrown (q 11)
 unfold An at hrel
 clear hi hb hM hP hct q f
 go_enter_defers Tryz.func241,Tryz.ntmps241
 go_wp2_with fail
 refine wp_region_quiet_below (by kernel_rfl) (by kernel_rfl) ?_
 repeat (go_big_quiet_step (exact CA _ _))
 refine wpQuiet_nil ?_
 intro _ hw'
 obtain⟨⟨dq,osq⟩,hw''⟩:=hw'
 subst hw''
 obtain⟨wa,hwa,hw'⟩:∃x,Bw w x∧x=Go.Sort.grow (redrawn w dq) osq:=⟨_,below_regrown _ _ _,rfl⟩
 rw [←hw']
 clear hw'
 have HX:Hid (Bw w wa∧wa.heap[wb]?=_):=⟨hwa,A2 hwa HI.out.2.1⟩
 have hltx:=A0 HX.out.2
 have kt:=(HI.out.1.below hwa).cell HI.out.2.2.2.2
 obtain⟨q,f⟩:=A1 HX.out.2
 clear hwa g0 g11 CA
 go_upto_region 5 with(fail)
 have S0:wa.cell? ⟨wb,8,none⟩=some (.pointer (some ⟨bM,0,none⟩))∧wa.cell? ⟨wb,9,none⟩=some (.slice (some ⟨bP,0,none⟩) 1 pc):=⟨q 8,q 9⟩
 clear q f kt
 have HS:=Lib.hid (fun w0 (h0:w0.heap=wa.heap)=>setIns_c bM bP pc p0 p1 p2 p3 w0 (by rw [h0];exact(A2 HX.out.1 HI.out.2.2.1)) (Cb (w:=wa) (by rw [h0]) (BJ HX.out.1 HI.out.2.2.2.1)))
 have S1:wa.drew.cell? ⟨wb,8,none⟩=some (.pointer (some ⟨bM,0,none⟩))∧wa.drew.cell? ⟨wb,9,none⟩=some (.slice (some ⟨bP,0,none⟩) 1 pc):=S0
 have hnM2:¬wb=bM:=fun h=>hnM h.symm
 go_region_held3 (fun w'=>w'.cell? ⟨wb,8,none⟩=some (.pointer (some ⟨bM,0,none⟩))∧w'.cell? ⟨wb,9,none⟩=some (.slice (some ⟨bP,0,none⟩) 1 pc))
  (first|(with_reducible exact S0)|(with_reducible exact S1)|(with_reducible exact S2)|go_keep)
  ((go_at_call 93;refine(HS.out _ (by exact rfl)).mono ?_;rintro _ w2 ⟨rfl,hfr,hone⟩;have HO:=Lib.hid (And.intro hfr hone);have S2:w2.cell? ⟨wb,8,none⟩=some (.pointer (some ⟨bM,0,none⟩))∧w2.cell? ⟨wb,9,none⟩=some (.slice (some ⟨bP,0,none⟩) 1 pc):=⟨(Al (hfr.block wb (by exact hltx) hnM2) 8).trans S0.1,(Al (hfr.block wb (by exact hltx) hnM2) 9).trans S0.2⟩))
 all_goals
  go_wp2_with fail
  refine leaves_cons (f:=274) (args:= #[.pointer (some ⟨ha,0,none⟩), .iface 446 (.map (some r))]) (by simp) (by simp [go_sem,m7]) ?_
  refine(Bn _ _ _ _).mono ?_
  rintro _ _ _ ⟨rfl,rfl,rfl⟩
  exact⟨.slice none 0 0,(by simp [results,Tryz.results241,go_sem]),rfl,wa,HX.out.1,by first|exact HO.out.1|exact fr_drew HO.out.1,HO.out.2⟩
theorem fs_doMapR (m:FW)(ks:List ByteArray)(vs:List JT)(H:Hp)(bl wb bt r:Nat)(rel:ByteArray)(hrel:(rel.toList==An)=false)(w:World)(Q:World→World→Prop)(hL:m.L=Ab bl)(hi:Imm H w)
  (cx:A8 H bl 0=some (.iface 190 (.map (some r)))) (hx:RJ H (.map ks vs) (.iface 190 (.map (some r)))) (hct:A8 H bt 8=some (.string rel))
  (hb:w.heap[wb]?=some m.obj)
  (hD:∀w1,Bw w w1→Calls Tryz.prog 246 #[.pointer (some ⟨wb,0,none⟩), .pointer (some ⟨bt,0,none⟩), .iface 446 (.map (some r))] w1 (fun e w2=>e= .returned (.slice none 0 0)∧Q w1 w2)):
  Calls Tryz.prog 241 #[.pointer (some ⟨wb,0,none⟩), .pointer (some ⟨bt,0,none⟩)] w (fun e w'=>e= .returned (.slice none 0 0)∧∃w1,Bw w w1∧Q w1 w'):=by
 rcases m with⟨L,S,⟨y0,y1,y2,y3,y4⟩,set,pa,pn,pc,spare,ha⟩
 simp only at hL
 subst hL
 unfold FW.obj at hb
 simp only at hb
 have hM:=hb
 have hP:=hb
 have HD:=Lib.hid hD
 have CA:=fun d os=>Calls.regrown_of (Dm ks vs H bl r (.iface 185 (.pointer (some ⟨ha,0,none⟩))) (Go.Sort.grow (redrawn w d) os) (hi.below (below_regrown w d os)) cx hx)
 clear cx hx hD
 have HI:=Lib.hid (And.intro hi (And.intro hb (And.intro hM (And.intro hP hct))))
 obtain⟨q,f⟩:=A1 hb
 have hltx0:=A0 hb
 have m7:=fun a w=>Bq a w
 have g0:=cell_regrown (q 0)
 have g11:=cell_regrown (q 11)
 unfold An at hrel
 clear hi hb hM hP hct q f
 go_enter_defers Tryz.func241,Tryz.ntmps241
 go_wp2_with fail
 refine wp_region_quiet_below (by kernel_rfl) (by kernel_rfl) ?_
 repeat (go_big_quiet_step (exact CA _ _))
 refine wpQuiet_nil ?_
 intro _ hw'
 obtain⟨⟨dq,osq⟩,hw''⟩:=hw'
 subst hw''
 obtain⟨wa,hwa,hw'⟩:∃x,Bw w x∧x=Go.Sort.grow (redrawn w dq) osq:=⟨_,below_regrown _ _ _,rfl⟩
 rw [←hw']
 clear hw'
 have HX:Hid (Bw w wa∧wa.heap[wb]?=_):=⟨hwa,A2 hwa HI.out.2.1⟩
 have hltx:=A0 HX.out.2
 have kt:=(HI.out.1.below hwa).cell HI.out.2.2.2.2
 obtain⟨q,f⟩:=A1 HX.out.2
 clear hwa g0 g11 CA
 go_wp2_with fail
 refine(HD.out wa HX.out.1).mono ?_
 rintro _ we ⟨rfl,hq⟩
 have HQ:=Lib.hid hq
 clear hq kt q f
 go_wp2_with fail
 refine leaves_cons (f:=274) (args:= #[.pointer (some ⟨ha,0,none⟩), .iface 446 (.map (some r))]) (by simp) (by simp [go_sem,m7]) ?_
 refine(Bn _ _ _ _).mono ?_
 rintro _ _ _ ⟨rfl,rfl,rfl⟩
 exact⟨.slice none 0 0,(by simp [results,Tryz.results241,go_sem]),rfl,wa,HX.out.1,HQ.out⟩
end
section
open Go Go.RowKit Go.MapKept
theorem fs_resolve (s:List Ax)(r:As)(a:Ap)(bl:Nat)(av:Value)(S:Option Addr)(y:Six)(hres:Av s r=some a)(H:Hp)(w:World)(hi:Imm H w)(hS:AO Ak H s (.pointer S))(hr:BM Ak H r y)
  (hd:∀K w1 p1 p2 p3,Imm K w1→Hle H K→AI Ak K a p1 p2 p3→Calls Tryz.prog 125 #[.agg #[.pointer p1, .pointer p2, .pointer p3],Ab bl] w1 (Pur w1 (.agg #[.pointer p1, .pointer p2, .pointer p3])))
  (Q:World→World→Prop)
  (hh:∀K w1 p1 p2 p3,Bw w w1→Imm K w1→Hle H K→(∀k,k<w.heap.size→K k=H k)→AI Ak K a p1 p2 p3→Calls Tryz.prog 126 #[.agg #[.pointer p1, .pointer p2, .pointer p3],F9 y,av] w1 (fun e w2=>e= .returned (.slice none 0 0)∧Q w1 w2)):
  Calls Tryz.prog 100 #[.pointer S,F9 y,Ab bl,av] w (fun e w2=>e= .returned (.slice none 0 0)∧∃w1,Bw w w1∧Q w1 w2):=by
 have HR:=Lib.hid (fun wq h0=>Fi hS hr hres wq h0)
 have HH:=Lib.hid (And.intro hd hh)
 have HI:=Lib.hid hi
 rcases y with⟨y0,y1,y2,y3,y4⟩
 clear hd hh hS hr hres hi
 go_enter Tryz.func100,Tryz.ntmps100
 go_wp2_with fail
 refine(HR.out _ (HI.out.below A5)).mono ?_
 rintro _ w1 ⟨hb1,p1,p2,p3,rfl,hqa⟩
 have h1:Hid (Bw w w1∧w.heap.size+1≤w1.heap.size∧(∃K,Hle H K∧(∀k,k<w.heap.size→K k=H k)∧Imm K w1∧AI Ak K a p1 p2 p3)∧w1.heap[w.heap.size]?=some (.cells #[.pointer y0, .pointer y1, .pointer y2, .pointer y3, .pointer y4, .bool false] 83)):=
  ⟨A5.tr hb1,by have:=hb1.size;simpa using this,⟨_,AY (HI.out.below A5),fun k hk=>by unfold A6;exact if_pos (by simp;omega),Imm.grow (HI.out.below A5) hb1,hqa⟩,A2 hb1 A4⟩
 clear hb1 hqa
 obtain⟨q0,f0⟩:=A1 h1.out.2.2.2
 have hl0:=A0 h1.out.2.2.2
 go_upto_region 4 with(fail)
 obtain⟨wa,hwa⟩:∃wa,wa=w1.alloc (.cells #[.pointer p1, .pointer p2, .pointer p3] 80):=⟨_,rfl⟩
 have HA:Hid (Bw w1 wa∧wa.heap[w1.heap.size]?=some (.cells #[.pointer p1, .pointer p2, .pointer p3] 80)):=by subst hwa;exact⟨A5,A4⟩
 rw [←hwa]
 clear hwa q0 f0
 obtain⟨q1,f1⟩:=A1 HA.out.2
 have hl1:=A0 HA.out.2
 obtain⟨K,hK1,hK2,hK3,hK4⟩:=h1.out.2.2.1
 have hKn:K w1.heap.size=none:=by
  cases hh:K w1.heap.size with
  |none=>rfl
  |some o=>have:=A0 (hK3 _ _ hh);omega
 have HKN:=Lib.hid hKn
 clear hKn
 have HK:=Lib.hid (And.intro hK1 (And.intro hK2 (And.intro (hK3.below HA.out.1) hK4)))
 clear hK1 hK2 hK3 hK4
 go_wp2_with fail
 refine(HH.out.1 K wa p1 p2 p3 HK.out.2.2.1 HK.out.1 HK.out.2.2.2).mono ?_
 rintro _ wb ⟨rfl,hbb⟩
 have HB:=Lib.hid hbb
 have hq2:=A2 hbb HA.out.2
 have hq0:=A2 hbb (A2 HA.out.1 h1.out.2.2.2)
 clear q1 f1 hbb
 obtain⟨q1,f1⟩:=A1 hq2
 obtain⟨q0,f0⟩:=A1 hq0
 have hl2:=A0 hq2
 have hl3:=A0 hq0
 have hne:¬w.heap.size=w1.heap.size:=by have:=h1.out.2.1;omega
 have hne2:¬w1.heap.size=w.heap.size:=fun e=>hne e.symm
 clear hq2 hq0
 go_upto_region 5 with(fail)
 obtain⟨wd,hwd⟩:∃wd,wd=((wb.setCell ⟨w1.heap.size,0,none⟩ (.pointer p1)).setCell ⟨w1.heap.size,1,none⟩ (.pointer p2)).setCell ⟨w1.heap.size,2,none⟩ (.pointer p3):=⟨_,rfl⟩
 have HD:Hid (Az wb wd w1.heap.size∧wd.heap[w1.heap.size]?=some (.cells #[.pointer p1, .pointer p2, .pointer p3] 80)):=by
  subst hwd
  refine⟨(((Az.refl wb _).set _ _).set _ _).set _ _, ?_⟩
  simpa using Ac (Ac (Ac (A2 HB.out HA.out.2) 0 (.pointer p1)) 1 (.pointer p2)) 2 (.pointer p3)
 rw [←hwd]
 clear hwd q0 f0 q1 f1
 obtain⟨q1,f1⟩:=A1 HD.out.2
 have hq0:=(HD.out.1.block _ hne).trans (A2 HB.out (A2 HA.out.1 h1.out.2.2.2))
 obtain⟨q0,f0⟩:=A1 hq0
 have hl4:=A0 hq0
 have hl5:=A0 HD.out.2
 clear hq0
 have hbd:Bw w wd:=((h1.out.1.tr HA.out.1).tr HB.out).turn (by have:=h1.out.2.1;omega) HD.out.1
 have him:Imm K wd:=fun k o e=>by
  show wd.heap[k]?=some o
  rw [HD.out.1.block k (fun h=>by subst h;rw [HKN.out]at e;cases e)];exact(HK.out.2.2.1.below HB.out) k o e
 have HC:=Lib.hid (HH.out.2 K wd p1 p2 p3 hbd him HK.out.1 HK.out.2.1 HK.out.2.2.2)
 have HBD:=Lib.hid hbd
 clear him hbd
 go_wp2_with fail
 refine HC.out.mono ?_
 rintro _ we ⟨rfl,hq⟩
 have HQ:=Lib.hid hq
 clear hq q0 f0 q1 f1
 go_wp2_with fail
 go_ret
 exact⟨rfl,wd,HBD.out,HQ.out⟩
theorem fs_toSet (m:FW)(s:List Ax)(r:As)(a:Ap)(bl wb:Nat)(hL:m.L=Ab bl)(hres:Av s r=some a)(H:Hp)(w:World)(hi:Imm H w)(hS:AO Ak H s (.pointer m.S))(hr:BM Ak H r m.y)(hb:w.heap[wb]?=some m.obj)
  (hd:∀K w1 p1 p2 p3,Imm K w1→Hle H K→AI Ak K a p1 p2 p3→Calls Tryz.prog 125 #[.agg #[.pointer p1, .pointer p2, .pointer p3],Ab bl] w1 (Pur w1 (.agg #[.pointer p1, .pointer p2, .pointer p3])))
  (Q:World→World→Prop)
  (hh:∀K w1 p1 p2 p3,Bw w w1→Imm K w1→Hle H K→(∀k,k<w.heap.size→K k=H k)→AI Ak K a p1 p2 p3→Calls Tryz.prog 126 #[.agg #[.pointer p1, .pointer p2, .pointer p3],F9 m.y, .iface 154 (.pointer (some ⟨wb,0,none⟩))] w1 (fun e w2=>e= .returned (.slice none 0 0)∧Q w1 w2)):
  Calls Tryz.prog 68 #[.pointer (some ⟨wb,0,none⟩)] w (fun e w2=>e= .returned (.slice none 0 0)∧∃w1,Bw w w1∧Q w1 w2):=by
 have HC:=Lib.hid (fun w0 (hb0:Bw w w0) (hs0:w0.heap.size=w.heap.size)=>fs_resolve s r a bl (.iface 154 (.pointer (some ⟨wb,0,none⟩))) m.S m.y hres H w0 (hi.below hb0) hS hr hd Q (fun K w1 p1 p2 p3 g1 g2 g3 g4 g5=>hh K w1 p1 p2 p3 (hb0.tr g1) g2 g3 (fun k hk=>g4 k (by omega)) g5))
 rcases m with⟨L,S,⟨y0,y1,y2,y3,y4⟩,set,pa,pn,pc,spare,ha⟩
 simp only at hL
 subst hL
 unfold FW.obj at hb
 simp only at hb HC
 obtain⟨q,f⟩:=A1 hb
 have hlt:=A0 hb
 clear hb hS hr hh hd hres hi
 go_enter Tryz.func68,Tryz.ntmps68
 go_upto_region 1 with(fail)
 go_region_law
  (first
   |(go_simp;refine(HC.out _ (by first|exact Bw.rfl|exact Bw.rfl.dr) (by exact rfl)).mono ?_;rintro _ w1 ⟨rfl,hq⟩;have HQ:=Lib.hid hq;clear hq))
 all_goals
  go_wp2_with fail
  go_ret
  obtain⟨wz,hz1,hz2⟩:=HQ.out
  exact⟨rfl,wz,(by first|exact hz1|exact Bw.rfl.dr.tr hz1),hz2⟩
end
end Go.Proofs.YtmghkmhgpmcoaaaGreat
