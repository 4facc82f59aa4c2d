/- What the claim's theorem 'proved' rests on: FromSetB. -/
import Derived.Test.YtmghkmhgpmcoaaaGreatP26
set_option linter.unusedVariables false
set_option linter.unusedSimpArgs false
set_option maxRecDepth 100000
set_option maxHeartbeats 10000000
namespace Go.Proofs.YtmghkmhgpmcoaaaGreat
section
open Go Go.RowKit Go.MapKept
theorem peIter0_c (bS:Nat)(fv:Value)(w:World)(hb:w.cell? ⟨bS,0,none⟩=some (.slice none 0 0)):
  Calls Tryz.prog 121 #[.pointer (some ⟨bS,0,none⟩),fv] w (fun e w'=>e= .returned (.tuple #[])∧w'=w):=by
 have hl:=Ah hb
 go_enter Tryz.func121,Tryz.ntmps121
 go_wp2_with fail
 go_loopw [11] (fun i wr=>i= .int .i64 0∧wr=w) (fun _ _=>0)
 case atStart=>exact⟨rfl,rfl⟩
 case round=>
  rename_i wr
  obtain⟨rfl,rfl⟩:=hrel
  go_wp2_with fail
  go_end0
  exact⟨rfl,rfl⟩
theorem peIter1_c (bS b2 cM fid:Nat)(cap:Array Value)(eg:∀args w,(callFunc fid args).run Tryz.prog w= .ok (.enter fid args) w)(p0 p1 p2 p3:Option Addr)(w:World)(hb:w.cell? ⟨bS,0,none⟩=some (.slice (some ⟨b2,0,none⟩) 1 cM))
  (hp:w.cell? ⟨b2,0,none⟩=some (.pointer p0)∧w.cell? ⟨b2,1,none⟩=some (.pointer p1)∧w.cell? ⟨b2,2,none⟩=some (.pointer p2)∧w.cell? ⟨b2,3,none⟩=some (.pointer p3)) (Q:World→World→Prop)
  (hC:∀w1,Bw w w1→Calls Tryz.prog fid (#[.agg #[.pointer p0, .pointer p1, .pointer p2, .pointer p3]]++cap) w1 (fun e w2=>e= .returned (.tuple #[])∧Q w1 w2)):
  Calls Tryz.prog 121 #[.pointer (some ⟨bS,0,none⟩), .func (.func fid) #[] cap] w (fun e w'=>e= .returned (.tuple #[])∧∃w1,Bw w w1∧Q w1 w'):=by
 obtain⟨h0,h1,h2,h3⟩:=hp
 have hl:=Ah hb
 have hl2:=Ah h0
 have HC:=Lib.hid (hC (w.alloc (.cells #[.pointer p0, .pointer p1, .pointer p2, .pointer p3] 227)) A5)
 clear hC
 go_enter Tryz.func121,Tryz.ntmps121
 go_wp2_with fail
 go_loopw [11] (fun i wr=>(i= .int .i64 0∧wr=w)∨(i= .int .i64 1∧∃w1,Bw w w1∧Q w1 wr)) (fun i _=>1 - (intOf i).toNat)
 case atStart=>exact .inl ⟨rfl,rfl⟩
 case round=>
  rename_i wr
  rcases hrel with⟨rfl,rfl⟩|⟨rfl,hq⟩
  ·go_wp2_with (go_at_fn fid;refine HC.out.mono ?_;rintro _ w2 ⟨rfl,hq2⟩)
   go_roundw
   case rel=>exact .inr ⟨by go_num,_,A5,hq2⟩
   case measure=>simp [intOf]
  ·have HQ:=Lib.hid hq
   clear hq
   go_wp2_with fail
   go_end0
   exact⟨rfl,HQ.out⟩
theorem snIter0_c (bS:Nat)(pv fv:Value)(w:World)(hb:w.cell? ⟨bS,1,none⟩=some (.slice none 0 0)):
  Calls Tryz.prog 123 #[.pointer (some ⟨bS,1,none⟩),pv,fv] w (fun e w'=>e= .returned (.tuple #[])∧w'=w):=by
 have hl:=Ah hb
 go_enter Tryz.func123,Tryz.ntmps123
 go_wp2_with fail
 go_loopw [14] (fun i wr=>i= .int .i64 0∧wr=w) (fun _ _=>0)
 case atStart=>exact⟨rfl,rfl⟩
 case round=>
  rename_i wr
  obtain⟨rfl,rfl⟩:=hrel
  go_wp2_with fail
  go_end0
  exact⟨rfl,rfl⟩
theorem itPre0_c (bM:Nat)(pv:Value)(ob:Nat)(w:World)(hb:w.heap[bM]?=some AK)(hpv:∃a n c,pv= .slice a n c):
  Calls Tryz.prog 98 #[.pointer (some ⟨bM,0,none⟩),pv, .func (.func 64) #[] #[.pointer (some ⟨ob,0,none⟩)]] w (fun e w'=>e= .returned (.tuple #[])∧Bw w w'):=by
 obtain⟨a,n,c,rfl⟩:=hpv
 have hmf:∀(fn:Fn) (first cap:Array Value) (w:World),(Instr.makeFunc fn first cap).run Tryz.prog w= .ok (.func fn first cap) w:=fun _ _ _ _=>rfl
 have HB:=Lib.hid hb
 have hl:=A0 hb
 clear hb
 go_enter Tryz.func98,Tryz.ntmps98
 go_upto_region 1 with(fail)
 obtain⟨wa,hwa⟩:∃wa,wa=(w.alloc (.cells #[.slice a n c] 140)).alloc (.cells #[.func (.func 64) #[] #[.pointer (some ⟨ob,0,none⟩)]] 151):=⟨_,rfl⟩
 have HA:Hid (Bw w wa∧wa.heap[w.heap.size]?=some (.cells #[.slice a n c] 140)∧wa.heap[w.heap.size+1]?=some (.cells #[.func (.func 64) #[] #[.pointer (some ⟨ob,0,none⟩)]] 151)):=by subst hwa;exact⟨Am,Cs,BF⟩
 rw [←hwa]
 clear hwa
 obtain⟨q0,f0⟩:=A1 HA.out.2.1
 obtain⟨q1,f1⟩:=A1 HA.out.2.2
 have hl0:=A0 HA.out.2.1
 have hl1:=A0 HA.out.2.2
 have hbM:=A2 HA.out.1 HB.out
 have HM1:Hid (wa.cell? ⟨bM,1,none⟩=some (.slice none 0 0)):=(A1 (show wa.heap[bM]?=some (.cells _ _) from hbM)).1 1
 have hq:=(A1 (show wa.heap[bM]?=some (.cells _ _) from hbM)).1
 have hl2:=A0 hbM
 clear hbM
 go_wp2_with fail
 refine(peIter0_c bM _ wa (hq 0)).mono ?_
 rintro _ w2 ⟨rfl,hw2⟩
 replace hw2:=hw2.symm
 subst hw2
 clear hq
 go_upto_region 2 with(fail)
 go_region_law
  (first
   |(go_simp;refine(snIter0_c bM _ _ _ (by exact HM1.out)).mono ?_;rintro _ w3 ⟨rfl,hw3⟩;have H3:Hid (Bw _ w3):=(by subst hw3;first|exact(Bw.rfl:Bw wa _)|exact(Bw.rfl.dr:Bw wa _));clear hw3))
 all_goals
  go_wp2_with fail
  go_end0
  exact⟨rfl,HA.out.1.tr H3.out⟩
theorem itPre1_c (bM lo kb ob e0:Nat)(key:ByteArray)(w:World)(hone:OneP w lo bM (some ⟨kb,0,none⟩) none none none)(hk:w.cell? ⟨kb,0,none⟩=some (.string key))(he:w.heap[e0]?=some (.cells #[] 227))(hb:w.heap[ob]?=some (.cells #[.slice none 0 0] 53)):
  Calls Tryz.prog 98 #[.pointer (some ⟨bM,0,none⟩), .slice (some ⟨e0,0,none⟩) 0 0, .func (.func 64) #[] #[.pointer (some ⟨ob,0,none⟩)]] w (fun e w'=>e= .returned (.tuple #[])∧Fr (fun k=>k=ob∨k=e0) w.heap.size w w'∧∃v,w'.heap[ob]?=some (.cells #[v] 53)∧Dw w' w.heap.size v key):=by
 obtain⟨b2,c,hlo,hM,c0,c1,c2,c3,hne⟩:=hone
 have hmf:∀(fn:Fn) (first cap:Array Value) (w:World),(Instr.makeFunc fn first cap).run Tryz.prog w= .ok (.func fn first cap) w:=fun _ _ _ _=>rfl
 have HB:=Lib.hid (And.intro hM (And.intro hk (And.intro he hb)))
 have HP:=Lib.hid (And.intro c0 (And.intro c1 (And.intro c2 c3)))
 have hl:=A0 hM
 have hlo:=A0 hb
 have hle:=A0 he
 have n1:¬bM=ob:=by rintro rfl;rw [hM]at hb;cases hb
 have n2:¬bM=e0:=by rintro rfl;rw [hM]at he;cases he
 clear hM hk he hb c0 c1 c2 c3
 go_enter Tryz.func98,Tryz.ntmps98
 go_upto_region 1 with(fail)
 obtain⟨wa,hwa⟩:∃wa,wa=(w.alloc (.cells #[.slice (some ⟨e0,0,none⟩) 0 0] 140)).alloc (.cells #[.func (.func 64) #[] #[.pointer (some ⟨ob,0,none⟩)]] 151):=⟨_,rfl⟩
 have HA:Hid (Bw w wa∧wa.heap[w.heap.size]?=some (.cells #[.slice (some ⟨e0,0,none⟩) 0 0] 140)∧wa.heap[w.heap.size+1]?=some (.cells #[.func (.func 64) #[] #[.pointer (some ⟨ob,0,none⟩)]] 151)):=by subst hwa;exact⟨Am,Cs,BF⟩
 rw [←hwa]
 clear hwa
 have HC:=Lib.hid (peIter1_c bM b2 c 122 #[.pointer (some ⟨w.heap.size+1,0,none⟩), .pointer (some ⟨w.heap.size,0,none⟩)] (enters_of Tryz.func122 (by kernel_rfl) rfl) (some ⟨kb,0,none⟩) none none none wa (by simpa using(A1 (A2 HA.out.1 HB.out.1)).1 0) (BJ HA.out.1 HP.out)
  (fun w1 w2=>Fr (fun k=>k=ob∨k=e0) w1.heap.size w1 w2∧∃v,w2.heap[ob]?=some (.cells #[v] 53)∧Dw w2 w1.heap.size v key)
  (fun w1 hb1=>itFn_c kb ob (w.heap.size+1) w.heap.size key w1 e0 (A2 hb1 HA.out.2.1) (A2 hb1 (A2 HA.out.1 HB.out.2.2.1)) (A2 hb1 HA.out.2.2) (cell_later (HA.out.1.tr hb1) HB.out.2.1) (A2 hb1 (A2 HA.out.1 HB.out.2.2.2))))
 have hla:=A0 (A2 HA.out.1 HB.out.1)
 go_wp2_with fail
 refine HC.out.mono ?_
 rintro _ w2 ⟨rfl,w1,hb1,hfr,v,hv,hp⟩
 have H2:=Lib.hid (And.intro hb1 (And.intro hfr (And.intro hv hp)))
 have hb1s:=hb1.size
 have hkeep:∀k o,wa.heap[k]?=some o→¬k=ob→¬k=e0→w2.heap[k]?=some o:=fun k o ho h1 h2=>by
  have hlk:=A0 ho
  rw [hfr.block k (by omega) (by simp only [not_or];exact⟨h1,h2⟩)];exact A2 hb1 ho
 have hq0:=hkeep _ _ HA.out.2.1 (by omega) (by omega)
 have hq1:=hkeep _ _ HA.out.2.2 (by omega) (by omega)
 have hM:=hkeep _ _ (A2 HA.out.1 HB.out.1) n1 n2
 have HM1:Hid (w2.cell? ⟨bM,1,none⟩=some (.slice none 0 0)):=(A1 hM).1 1
 obtain⟨q0,f0⟩:=A1 hq0
 obtain⟨q1,f1⟩:=A1 hq1
 have hl0:=A0 hq0
 have hl1:=A0 hq1
 have hl2:=A0 hM
 clear hb1 hfr hv hp hkeep hq0 hq1 hM hb1s HC
 go_upto_region 2 with(fail)
 go_region_law
  (first
   |(go_simp;refine(snIter0_c bM _ _ _ (by exact HM1.out)).mono ?_;rintro _ w3 ⟨rfl,hw3⟩;have H3:Hid (w3.heap=w2.heap∧w3.os=w2.os∧w3.tape=w2.tape∧w3.output=w2.output):=(by subst hw3;exact⟨rfl,rfl,rfl,rfl⟩);clear hw3))
 all_goals
  go_wp2_with fail
  go_end0
  obtain⟨hb1,hfr,hv,hp⟩:=H2.out
  obtain⟨t1,t2,t3,t4⟩:=H3.out
  have hb0:=HA.out.1
  have s0:=hb0.size
  have s1:=hb1.size
  have s2:=hfr.size
  refine⟨rfl,⟨t2.trans (hfr.os.trans (hb1.os.trans hb0.os)),t3.trans (hfr.tape.trans (hb1.tape.trans hb0.tape)),t4.trans (hfr.output.trans (hb1.output.trans hb0.output)),by rw [t1];omega,fun k hk hx=> ?_⟩,v,by rw [t1];exact hv, ?_⟩
  ·rw [t1,hfr.block k (by omega) hx,hb1.block k (by omega)];exact hb0.block k hk
  ·obtain⟨u,g1,g2⟩:=hp.weak (lo2:=w.heap.size) (by omega)
   exact⟨u,own_eq g1 fun g _=>by rw [t1],own_eq g2 fun g _=>by rw [t1]⟩
theorem fromSet0_c (bM:Nat)(w:World)(hb:w.heap[bM]?=some AK):Calls Tryz.prog 38 #[.pointer (some ⟨bM,0,none⟩)] w (Pur w (.slice none 0 0)):=by
 have hmf:∀(fn:Fn) (first cap:Array Value) (w:World),(Instr.makeFunc fn first cap).run Tryz.prog w= .ok (.func fn first cap) w:=fun _ _ _ _=>rfl
 have hbs:∀w,(Instr.buildSlice 140 0 #[]).run Tryz.prog w= .ok (.slice (some ⟨w.heap.size,0,none⟩) 0 0) (w.alloc (.cells #[] 227)):=fun _=>by kernel_rfl
 have hI:∀w1:World,Bw w w1→Calls Tryz.prog 63 #[.pointer (some ⟨bM,0,none⟩), .func (.func 64) #[] #[.pointer (some ⟨w.heap.size,0,none⟩)]] w1 (fun e w'=>e= .returned (.tuple #[])∧Bw w1 w'):=by
  intro w1 hb1
  have HC:=Lib.hid (itPre0_c bM (.slice (some ⟨w1.heap.size,0,none⟩) 0 0) w.heap.size (w1.alloc (.cells #[] 227)) (A3 (A2 hb1 hb)) ⟨_,_,_,rfl⟩)
  clear hb hb1
  go_enter Tryz.func63,Tryz.ntmps63
  go_wp2_with fail
  refine HC.out.mono ?_
  rintro _ w2 ⟨rfl,h2⟩
  have H2:=Lib.hid h2
  clear h2
  go_wp2_with fail
  go_end0
  exact⟨rfl,A5.tr H2.out⟩
 have HI:=Lib.hid (hI (w.alloc (.cells #[.slice none 0 0] 53)) A5)
 clear hI hb
 go_enter Tryz.func38,Tryz.ntmps38
 go_wp2_with fail
 refine HI.out.mono ?_
 rintro _ w2 ⟨rfl,h2⟩
 have H2:=Lib.hid h2
 have hx:=A2 h2 A4
 obtain⟨q,f⟩:=A1 hx
 have hl:=A0 hx
 clear h2 hx
 go_wp2_with fail
 go_ret
 exact⟨rfl,A5.tr H2.out⟩
theorem fromSet1_c (bM lo kb:Nat)(key:ByteArray)(w:World)(hone:OneP w lo bM (some ⟨kb,0,none⟩) none none none)(hk:w.cell? ⟨kb,0,none⟩=some (.string key)):Calls Tryz.prog 38 #[.pointer (some ⟨bM,0,none⟩)] w (fun e w'=>Bw w w'∧∃v,e= .returned v∧Dw w' w.heap.size v key):=by
 have hmf:∀(fn:Fn) (first cap:Array Value) (w:World),(Instr.makeFunc fn first cap).run Tryz.prog w= .ok (.func fn first cap) w:=fun _ _ _ _=>rfl
 have hbs:∀w,(Instr.buildSlice 140 0 #[]).run Tryz.prog w= .ok (.slice (some ⟨w.heap.size,0,none⟩) 0 0) (w.alloc (.cells #[] 227)):=fun _=>by kernel_rfl
 have hI:∀w1:World,Bw w w1→w1.heap[w.heap.size]?=some (.cells #[.slice none 0 0] 53)→Calls Tryz.prog 63 #[.pointer (some ⟨bM,0,none⟩), .func (.func 64) #[] #[.pointer (some ⟨w.heap.size,0,none⟩)]] w1 (fun e w'=>e= .returned (.tuple #[])∧Fr (fun k=>k=w.heap.size) w1.heap.size w1 w'∧∃v,w'.heap[w.heap.size]?=some (.cells #[v] 53)∧Dw w' w1.heap.size v key):=by
  intro w1 hb1 ho
  have hlo:=A0 ho
  have HC:=Lib.hid (itPre1_c bM lo kb w.heap.size w1.heap.size key (w1.alloc (.cells #[] 227)) ((hone.bw hb1).bw A5) (cell_later (hb1.tr A5) hk) A4 (A3 ho))
  clear hone hb1 ho hk
  go_enter Tryz.func63,Tryz.ntmps63
  go_wp2_with fail
  refine HC.out.mono ?_
  rintro _ w2 ⟨rfl,hfr,v,hv,hp⟩
  have H2:=Lib.hid (And.intro hfr (And.intro hv hp))
  clear hfr hv hp
  go_wp2_with fail
  go_end0
  obtain⟨hfr,hv,hp⟩:=H2.out
  have hs:=hfr.size
  simp at hs
  refine⟨rfl,⟨hfr.os,hfr.tape,hfr.output,by omega,fun k hk hx=> ?_⟩,v,hv,hp.weak (by simp)⟩
  rw [hfr.block k (by simp;omega) (by omega),Ad,if_neg (by omega)]
 have HI:=Lib.hid (hI (w.alloc (.cells #[.slice none 0 0] 53)) A5 A4)
 clear hI hone hk
 go_enter Tryz.func38,Tryz.ntmps38
 go_wp2_with fail
 refine HI.out.mono ?_
 rintro _ w2 ⟨rfl,hfr,v,hv,hp⟩
 have H2:=Lib.hid (And.intro hfr (And.intro hv hp))
 obtain⟨u,g1,_⟩:=hp
 obtain⟨av,cv,rfl⟩:=Aj g1
 obtain⟨q,f⟩:=A1 hv
 have hl:=A0 hv
 clear hfr hv g1
 go_wp2_with fail
 go_ret
 obtain⟨hfr,hv,hp⟩:=H2.out
 have hs:=hfr.size
 simp at hs
 refine⟨⟨hfr.os,hfr.tape,hfr.output,by omega,fun k hk=> ?_⟩,_,rfl,hp.weak (by simp)⟩
 rw [hfr.block k (by simp;omega) (by omega),Ad,if_neg (by omega)]
end
end Go.Proofs.YtmghkmhgpmcoaaaGreat
