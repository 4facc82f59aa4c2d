/- What the claim's theorem 'proved' rests on: ResolveB. -/
import Derived.Test.YtmghkmhgpmcoaaaGreatP11
set_option linter.unusedVariables false
set_option linter.unusedSimpArgs false
set_option maxRecDepth 100000
set_option maxHeartbeats 10000000
namespace Go.Proofs.YtmghkmhgpmcoaaaGreat
section
open Go.RowKit
def Eb (H:Hp)(w:World)(o:Option Ap):Ending→World→Prop:=fun e w'=>Bw w w'∧match o with
 |some a=>∃p1 p2 p3,e= .returned (.tuple #[.agg #[.pointer p1, .pointer p2, .pointer p3], .bool true])∧AI Ak (A6 H w w') a p1 p2 p3
 |none=>e= .returned (.tuple #[.agg #[.pointer none, .pointer none, .pointer none], .bool false])
theorem Eb.yes {H:Hp}{w w1:World}{o:Option Ap}{a:Ap}{p1 p2 p3:Option Addr}(ho:o=some a)(hb:Bw w w1)(hv:AI Ak (A6 H w w1) a p1 p2 p3):
  Eb H w o (.returned (.tuple #[.agg #[.pointer p1, .pointer p2, .pointer p3], .bool true])) w1:=by
 unfold Eb;rw [ho];exact⟨hb,_,_,_,rfl,hv⟩
theorem Eb.no {H:Hp}{w w1:World}{o:Option Ap}(ho:o=none)(hb:Bw w w1):
  Eb H w o (.returned (.tuple #[.agg #[.pointer none, .pointer none, .pointer none], .bool false])) w1:=by
 unfold Eb;rw [ho];exact⟨hb,rfl⟩
def Av (s:List Ax)(r:As):Option Ap:=match baseS s r with
 |none=>none
 |some a=>if r.rel.toList.isEmpty then some a else BG a r.rel
theorem resolve_plain (H:Hp)(s:List Ax)(r:As)(X:Value)(y:Six)(w:World)(hi:Imm H w)(hs:AO Ak H s X)(hr:BM Ak H r y)(hrel:r.rel.toList.isEmpty=true):
  Calls Tryz.prog 94 #[X,F9 y] w (Eb H w (Av s r)):=by
 have HF:=Lib.hid (fun w0 h0=>resolveNo_c H s r X y w0 h0 hs hr)
 obtain⟨_,h4⟩:=EB.1 hr
 unfold Bk at h4
 rw [if_pos hrel]at h4
 obtain⟨bs,xs,rfl,_⟩:=hs
 rcases y with⟨y0,y1,y2,y3,y4⟩
 simp only at h4
 subst h4
 have HR:=Lib.hid hrel
 clear hrel hr
 go_enter Tryz.func94,Tryz.ntmps94
 go_wp2_with fail
 refine(HF.out _ (hi.below Am)).mono ?_
 rintro e w1 ⟨hb1,h⟩
 obtain⟨q1,f1⟩:=A1 (A2 hb1 BF)
 have hsz:=A0 (A2 hb1 BF)
 have HB:=Lib.hid (Am.tr hb1)
 clear hb1 HF
 cases hl:baseS s r with
 |none=>
  rw [hl]at h;simp only at h;subst h
  have HL:=Lib.hid hl;clear hl
  go_wp2_with fail
  refine bodyPost_ret (v:= .tuple #[.agg #[.pointer none, .pointer none, .pointer none], .bool false]) (by simp [results,Tryz.results94,go_sem,q1]) rfl ?_
  exact Eb.no (by simp [Av,HL.out]) (by repeat with_reducible (first|exact HB.out|refine Bw.set ?_ (by omega) _ _))
 |some a=>
  rw [hl]at h;simp only at h
  obtain⟨p1,p2,p3,rfl,hq⟩:=h
  have HL:=Lib.hid (And.intro hl hq);clear hl hq
  go_wp2_with fail
  refine bodyPost_ret (v:= .tuple #[.agg #[.pointer p1, .pointer p2, .pointer p3], .bool true]) (by simp [results,Tryz.results94,go_sem,q1]) rfl ?_
  exact Eb.yes (by simp [Av,HL.out.1,HR.out]) (by repeat with_reducible (first|exact HB.out|refine Bw.set ?_ (by omega) _ _)) (HL.out.2.mono (AY hi))
theorem resolve_over (H:Hp)(s:List Ax)(r:As)(X:Value)(y:Six)(w:World)(hi:Imm H w)(hs:AO Ak H s X)(hr:BM Ak H r y)(hrel:r.rel.toList.isEmpty=false):
  Calls Tryz.prog 94 #[X,F9 y] w (Eb H w (Av s r)):=by
 have HF:=Lib.hid (fun w0 h0=>resolveNo_c H s r X y w0 h0 hs hr)
 obtain⟨_,h4⟩:=EB.1 hr
 unfold Bk at h4
 rw [if_neg (by rw [hrel];decide)]at h4
 obtain⟨br,h4,hcr,hrs⟩:=h4
 obtain⟨bs,xs,rfl,_⟩:=hs
 rcases y with⟨y0,y1,y2,y3,y4⟩
 simp only at h4
 subst h4
 rcases r with⟨named,name,atom,rel⟩
 simp only at hcr hrs hrel
 have HR:=Lib.hid (And.intro hrel hrs)
 have HCR:=Lib.hid hcr
 clear hrel hr hcr hrs
 go_enter Tryz.func94,Tryz.ntmps94
 go_wp2_with fail
 refine(HF.out _ (hi.below Co)).mono ?_
 rintro e w1 ⟨hb1,h⟩
 obtain⟨q0,f0⟩:=A1 (A2 hb1 b3_0)
 obtain⟨q1,f1⟩:=A1 (A2 hb1 b3_1)
 obtain⟨q2,f2⟩:=A1 (A2 hb1 ET)
 have HQ:=Lib.hid (And.intro (A2 hb1 b3_0) (And.intro (A2 hb1 b3_1) (A2 hb1 ET)))
 have hsz:=A0 (A2 hb1 ET)
 have HB:=Lib.hid (Co.tr hb1)
 clear hb1 HF
 cases hl:baseS s ⟨named,name,atom,rel⟩with
 |none=>
  rw [hl]at h;simp only at h;subst h
  have HL:=Lib.hid hl;clear hl
  go_upto_region 19 with(fail)
  obtain⟨wv,hwv⟩:∃wv,wv=((w1.setCell ⟨w.heap.size+1+1,0,none⟩ (.pointer none)).setCell ⟨w.heap.size+1+1,1,none⟩ (.pointer none)).setCell ⟨w.heap.size+1+1,2,none⟩ (.pointer none):=⟨_,rfl⟩
  have HV:Hid (wv.heap[w.heap.size+1]?=w1.heap[w.heap.size+1]?∧Bw w wv∧wv.heap.size=w1.heap.size):=by
   subst hwv
   exact⟨by simp only [Ag _ _ _ _ _ (show ¬w.heap.size+1=w.heap.size+1+1 by omega)],Bw.set (Bw.set (Bw.set HB.out (by omega) _ _) (by omega) _ _) (by omega) _ _,by simp⟩
  rw [←hwv]
  clear hwv q0 f0 q1 f1 q2 f2
  obtain⟨q1,f1⟩:=A1 (HV.out.1.trans HQ.out.2.1)
  have hsz2:w.heap.size+1+1<wv.heap.size:=by rw [HV.out.2.2];exact hsz
  go_wp2_with fail
  refine bodyPost_ret (v:= .tuple #[.agg #[.pointer none, .pointer none, .pointer none], .bool false]) (by simp [results,Tryz.results94,go_sem,q1]) rfl ?_
  exact Eb.no (by simp [Av,HL.out]) (by repeat with_reducible (first|exact HV.out.2.1|refine Bw.set ?_ (by omega) _ _))
 |some a=>
  rw [hl]at h;simp only at h
  obtain⟨p1,p2,p3,rfl,hq⟩:=h
  rcases a with⟨sc,li,ma⟩
  obtain⟨hqs,hql,hqm⟩:=Ej.1 hq
  simp only at hqs hql hqm
  have HL:=Lib.hid hl;clear hl hq
  go_upto_region 8 with(fail)
  obtain⟨wv,hwv⟩:∃wv,wv=((w1.setCell ⟨w.heap.size+1+1,0,none⟩ (.pointer p1)).setCell ⟨w.heap.size+1+1,1,none⟩ (.pointer p2)).setCell ⟨w.heap.size+1+1,2,none⟩ (.pointer p3):=⟨_,rfl⟩
  have HV:Hid (wv.heap[w.heap.size]?=w1.heap[w.heap.size]?∧wv.heap[w.heap.size+1]?=w1.heap[w.heap.size+1]?∧wv.heap[w.heap.size+1+1]?=some (.cells #[.pointer p1, .pointer p2, .pointer p3] 80)∧Bw w wv∧wv.heap.size=w1.heap.size):=by
   subst hwv
   refine⟨by simp only [Ag _ _ _ _ _ (show ¬w.heap.size=w.heap.size+1+1 by omega)],by simp only [Ag _ _ _ _ _ (show ¬w.heap.size+1=w.heap.size+1+1 by omega)], ?_,Bw.set (Bw.set (Bw.set HB.out (by omega) _ _) (by omega) _ _) (by omega) _ _,by simp⟩
   simpa using Ae (Ae (Ae HQ.out.2.2 0 (.pointer p1)) 1 (.pointer p2)) 2 (.pointer p3)
  rw [←hwv]
  clear hwv q0 f0 q1 f1 q2 f2
  have hiv:=hi.below HV.out.2.2.2.1
  obtain⟨q0,f0⟩:=A1 (HV.out.1.trans HQ.out.1)
  obtain⟨q1,f1⟩:=A1 (HV.out.2.1.trans HQ.out.2.1)
  obtain⟨q2,f2⟩:=A1 HV.out.2.2.1
  have hsz2:w.heap.size+1+1<wv.heap.size:=by rw [HV.out.2.2.2.2];exact hsz
  have kr:=hiv.cell HCR.out
  have hbr:=Ah (hi.cell HCR.out)
  simp only at hbr
  have n1:¬br=wv.heap.size:=by omega
  have n2:¬br=w.heap.size+1+1:=by omega
  have n3:¬br=w.heap.size+1:=by omega
  have HS:=Lib.hid (And.intro hqs hql)
  rcases ma with _|⟨m,mr⟩
  ·simp only [QMa]at hqm
   subst hqm
   rcases li with _|⟨l,lr⟩
   ·simp only [QLi]at hql
    subst hql
    have hp:p1=none∨∃ad,p1=some ad:=by cases p1 with|none=>exact .inl rfl|some ad=>exact .inr ⟨ad,rfl⟩
    rcases hp with rfl|⟨ad,rfl⟩
    all_goals
     go_wp2_with fail
     refine bodyPost_ret (v:= .tuple #[.agg #[.pointer none, .pointer none, .pointer none], .bool false]) (by simp [results,Tryz.results94,go_sem,q1]) rfl ?_
     exact Eb.no (by simp [Av,HL.out,HR.out.1,BG]) (by repeat with_reducible (first|exact HV.out.2.2.2.1|refine Bw.set ?_ (by omega) _ _))
   ·rcases l with⟨elem,lrel,keys⟩
    simp only [QLi]at hql
    obtain⟨bm,ym,xk,rfl,m0,m6,m7,hms,hkk,hqe⟩:=hql
    obtain⟨ak,ck,rfl⟩:=hkk.open
    have HM:=Lib.hid (And.intro hkk hqe)
    have hbm:=Ah (hi.cell m6)
    simp only at hbm
    obtain⟨i0,i1,i2,i3,i4,i5⟩:=m0.look hiv
    have i6:=hiv.cell m6;have i7:=hiv.cell m7
    clear m0 m6 m7 hms hqe hkk
    have n8:¬bm=wv.heap.size:=by omega
    have n9:¬bm=w.heap.size+1+1:=by omega
    go_upto_region 15 with(fail)
    obtain⟨w2,hw2⟩:∃w2,w2=wv.alloc (.cells #[.pointer ym.y0, .pointer ym.y1, .pointer ym.y2, .pointer ym.y3, .pointer ym.y4, .bool false, .string lrel, .slice ak keys.length ck] 177):=⟨_,rfl⟩
    have h20:w2.heap[w.heap.size]?=some _:=(by rw [hw2];exact A3 (HV.out.1.trans HQ.out.1))
    have h21:w2.heap[w.heap.size+1]?=some _:=(by rw [hw2];exact A3 (HV.out.2.1.trans HQ.out.2.1))
    have h22:w2.heap[w.heap.size+1+1]?=some _:=(by rw [hw2];exact A3 HV.out.2.2.1)
    have hs2:w2.heap.size=wv.heap.size+1:=by rw [hw2];simp
    have hbw2:Bw w w2:=by rw [hw2];exact HV.out.2.2.2.1.al _
    have hd2:=A4 (w:=wv) (o:= .cells #[.pointer ym.y0, .pointer ym.y1, .pointer ym.y2, .pointer ym.y3, .pointer ym.y4, .bool false, .string lrel, .slice ak keys.length ck] 177)
    rw [←hw2]at hd2⊢
    have H2:=Lib.hid (And.intro h20 (And.intro h21 (And.intro h22 (And.intro hs2 (And.intro hbw2 hd2)))))
    have hl2:wv.heap.size<w2.heap.size:=by omega
    have kr2:=(hi.below hbw2).cell HCR.out
    clear q0 f0 q1 f1 q2 f2 kr hs2 hw2 i0 i1 i2 i3 i4 i5 i6 i7
    obtain⟨q0,f0⟩:=A1 h20
    obtain⟨q1,f1⟩:=A1 h21
    obtain⟨q2,f2⟩:=A1 h22
    obtain⟨q3,f3⟩:=A1 hd2
    have n4:¬wv.heap.size=w.heap.size:=by omega
    have n5:¬wv.heap.size=w.heap.size+1:=by omega
    have n6:¬wv.heap.size=w.heap.size+1+1:=by omega
    have n7:¬w.heap.size+1+1=wv.heap.size:=by omega
    clear h20 h21 h22 hd2
    go_upto_region 20 with(fail)
    obtain⟨w3,hw3⟩:∃w3,w3=(w2.setCell ⟨wv.heap.size,6,none⟩ (.string rel)).setCell ⟨w.heap.size+1+1,1,none⟩ (.pointer (some ⟨wv.heap.size,0,none⟩)):=⟨_,rfl⟩
    have H3:Hid (w3.heap[w.heap.size+1]?=w2.heap[w.heap.size+1]?∧w3.heap[w.heap.size+1+1]?=some (.cells #[.pointer p1, .pointer (some ⟨wv.heap.size,0,none⟩), .pointer none] 80)∧w3.heap[wv.heap.size]?=some (.cells #[.pointer ym.y0, .pointer ym.y1, .pointer ym.y2, .pointer ym.y3, .pointer ym.y4, .bool false, .string rel, .slice ak keys.length ck] 177)∧Bw w w3∧w3.heap.size=w2.heap.size):=by
     subst hw3
     refine⟨?_, ?_, ?_,Bw.set (Bw.set hbw2 (by omega) _ _) (by omega) _ _,by simp⟩
     ·rw [Ag _ _ _ _ _ (show ¬w.heap.size+1=w.heap.size+1+1 by omega),Ag _ _ _ _ _ (show ¬w.heap.size+1=wv.heap.size by omega)]
     ·have:=Ae (i:=1) (v:= .pointer (some ⟨wv.heap.size,0,none⟩)) ((Ag w2 wv.heap.size 6 (.string rel) _ n7).trans H2.out.2.2.1)
      simpa using this
     ·rw [Ag _ _ _ _ _ n6]
      simpa using Ae H2.out.2.2.2.2.2 6 (.string rel)
    rw [←hw3]
    clear hw3 q0 f0 q1 f1 q2 f2 q3 f3 kr2
    obtain⟨q1,f1⟩:=A1 (H3.out.1.trans H2.out.2.1)
    obtain⟨q2,f2⟩:=A1 H3.out.2.1
    have hsz3:w.heap.size+1+1<w3.heap.size:=by rw [H3.out.2.2.2.2];omega
    go_wp2_with fail
    refine bodyPost_ret (v:= .tuple #[.agg #[.pointer p1, .pointer (some ⟨wv.heap.size,0,none⟩), .pointer none], .bool true]) (by simp [results,Tryz.results94,go_sem,q1]) rfl ?_
    have hg:∀w4:World,Hle H (A6 H w w4):=fun w4=>AY hi
    have hblk:(((w3.setCell ⟨w.heap.size+1,0,none⟩ (.pointer p1)).setCell ⟨w.heap.size+1,1,none⟩ (.pointer (some ⟨wv.heap.size,0,none⟩))).setCell ⟨w.heap.size+1,2,none⟩ (.pointer none)).heap[wv.heap.size]?=some (.cells #[.pointer ym.y0, .pointer ym.y1, .pointer ym.y2, .pointer ym.y3, .pointer ym.y4, .bool false, .string rel, .slice ak keys.length ck] 177):=by
     rw [Ag _ _ _ _ _ n5,Ag _ _ _ _ _ n5,Ag _ _ _ _ _ n5];exact H3.out.2.2.1
    refine Eb.yes (a:=⟨sc,[⟨elem,rel,keys⟩],[]⟩) (by simp [Av,HL.out,HR.out.1,BG]) (by repeat with_reducible (first|exact H3.out.2.2.2.1|refine Bw.set ?_ (by omega) _ _)) (Ej.2 ⟨HS.out.1.mono (hg _), ?_,by simp only [QMa]⟩)
    simp only [QLi]
    have hcell:∀i,A8 (A6 H w (((w3.setCell ⟨w.heap.size+1,0,none⟩ (.pointer p1)).setCell ⟨w.heap.size+1,1,none⟩ (.pointer (some ⟨wv.heap.size,0,none⟩))).setCell ⟨w.heap.size+1,2,none⟩ (.pointer none))) wv.heap.size i=(#[.pointer ym.y0, .pointer ym.y1, .pointer ym.y2, .pointer ym.y3, .pointer ym.y4, .bool false, .string rel, .slice ak keys.length ck]:Array Value)[i]?:=by
     intro i
     rw [Bh (by omega)]
     exact(A1 hblk).1 i
    exact⟨_,ym,_,rfl,⟨hcell 0,hcell 1,hcell 2,hcell 3,hcell 4,hcell 5⟩,hcell 6,hcell 7,HR.out.2,HM.out.1.mono (hg _),HM.out.2.mono (hg _)⟩
  ·rcases m with⟨fields,elem,mrel⟩
   simp only [QMa]at hqm
   obtain⟨bm,xf,ym,rfl,m0,m1,m2,m8,hms,hsl,hqe⟩:=hqm
   obtain⟨af,cf,rfl,hnf,hlf,hcf,hatf⟩:=hsl
   have HM:=Lib.hid (And.intro hms (And.intro (⟨af,cf,rfl,hnf,hlf,hcf,hatf⟩:Sl (fun a=>AW Ak H a 0 fields) fields.length (.slice af fields.length cf)) hqe))
   have hbm:=Ah (hi.cell m0)
   simp only at hbm
   have hiz:=hi.below (HV.out.2.2.2.1.al (.cells #[.slice none 0 0, .slice none 0 0, .pointer none, .pointer none, .pointer none, .pointer none, .pointer none, .bool false, .string {data:= #[]}] 182))
   have HC:=Lib.hid (copyInto_c af fields.length cf bm wv.heap.size ym mrel _ (hiz.cell m0) (hiz.cell m1) (m2.look hiz).1 (m2.look hiz).2.1 (m2.look hiz).2.2.1 (m2.look hiz).2.2.2.1 (m2.look hiz).2.2.2.2.1 (m2.look hiz).2.2.2.2.2 (hiz.cell m8) (by have:=hsz2;omega) A4)
   clear m0 m1 m2 m8 hms hqe hatf hiz
   go_wp2_with fail
   refine(HC.out).mono ?_
   rintro e w2 ⟨rfl,hd2,ht⟩
   have h20:w2.heap[w.heap.size]?=some _:=(ht.block _ (by omega)).trans (A3 (HV.out.1.trans HQ.out.1))
   have h21:w2.heap[w.heap.size+1]?=some _:=(ht.block _ (by omega)).trans (A3 (HV.out.2.1.trans HQ.out.2.1))
   have h22:w2.heap[w.heap.size+1+1]?=some _:=(ht.block _ (by omega)).trans (A3 HV.out.2.2.1)
   have hs2:w2.heap.size=wv.heap.size+1:=by rw [ht.size];simp
   have hbw2:Bw w w2:=(HV.out.2.2.2.1.al _).turn (by omega) ht
   have H2:=Lib.hid (And.intro h20 (And.intro h21 (And.intro h22 (And.intro hs2 (And.intro hbw2 hd2)))))
   have hl2:wv.heap.size<w2.heap.size:=by omega
   have kr2:=(hi.below hbw2).cell HCR.out
   clear q0 f0 q1 f1 q2 f2 kr HC ht hs2
   obtain⟨q0,f0⟩:=A1 h20
   obtain⟨q1,f1⟩:=A1 h21
   obtain⟨q2,f2⟩:=A1 h22
   obtain⟨q3,f3⟩:=A1 hd2
   have n4:¬wv.heap.size=w.heap.size:=by omega
   have n5:¬wv.heap.size=w.heap.size+1:=by omega
   have n6:¬wv.heap.size=w.heap.size+1+1:=by omega
   have n7:¬w.heap.size+1+1=wv.heap.size:=by omega
   clear h20 h21 h22 hd2
   go_upto_region 20 with(fail)
   obtain⟨w3,hw3⟩:∃w3,w3=(w2.setCell ⟨wv.heap.size,8,none⟩ (.string rel)).setCell ⟨w.heap.size+1+1,2,none⟩ (.pointer (some ⟨wv.heap.size,0,none⟩)):=⟨_,rfl⟩
   have H3:Hid (w3.heap[w.heap.size+1]?=w2.heap[w.heap.size+1]?∧w3.heap[w.heap.size+1+1]?=some (.cells #[.pointer p1, .pointer p2, .pointer (some ⟨wv.heap.size,0,none⟩)] 80)∧w3.heap[wv.heap.size]?=some (.cells #[.slice af fields.length cf, .slice none 0 0, .pointer ym.y0, .pointer ym.y1, .pointer ym.y2, .pointer ym.y3, .pointer ym.y4, .bool false, .string rel] 182)∧Bw w w3∧w3.heap.size=w2.heap.size):=by
    subst hw3
    refine⟨?_, ?_, ?_,Bw.set (Bw.set hbw2 (by omega) _ _) (by omega) _ _,by simp⟩
    ·rw [Ag _ _ _ _ _ (show ¬w.heap.size+1=w.heap.size+1+1 by omega),Ag _ _ _ _ _ (show ¬w.heap.size+1=wv.heap.size by omega)]
    ·have:=Ae (i:=2) (v:= .pointer (some ⟨wv.heap.size,0,none⟩)) ((Ag w2 wv.heap.size 8 (.string rel) _ n7).trans H2.out.2.2.1)
     simpa using this
    ·rw [Ag _ _ _ _ _ n6]
     simpa using Ae H2.out.2.2.2.2.2 8 (.string rel)
   rw [←hw3]
   clear hw3 q0 f0 q1 f1 q2 f2 q3 f3 kr2
   obtain⟨q1,f1⟩:=A1 (H3.out.1.trans H2.out.2.1)
   obtain⟨q2,f2⟩:=A1 H3.out.2.1
   have hsz3:w.heap.size+1+1<w3.heap.size:=by rw [H3.out.2.2.2.2];omega
   go_wp2_with fail
   refine bodyPost_ret (v:= .tuple #[.agg #[.pointer p1, .pointer p2, .pointer (some ⟨wv.heap.size,0,none⟩)], .bool true]) (by simp [results,Tryz.results94,go_sem,q1]) rfl ?_
   have hg:∀w4:World,Hle H (A6 H w w4):=fun w4=>AY hi
   have hblk:(((w3.setCell ⟨w.heap.size+1,0,none⟩ (.pointer p1)).setCell ⟨w.heap.size+1,1,none⟩ (.pointer p2)).setCell ⟨w.heap.size+1,2,none⟩ (.pointer (some ⟨wv.heap.size,0,none⟩))).heap[wv.heap.size]?=some (.cells #[.slice af fields.length cf, .slice none 0 0, .pointer ym.y0, .pointer ym.y1, .pointer ym.y2, .pointer ym.y3, .pointer ym.y4, .bool false, .string rel] 182):=by
    rw [Ag _ _ _ _ _ n5,Ag _ _ _ _ _ n5,Ag _ _ _ _ _ n5];exact H3.out.2.2.1
   refine Eb.yes (a:=⟨sc,li,[⟨fields,elem,rel⟩]⟩) (by simp [Av,HL.out,HR.out.1,BG]) (by repeat with_reducible (first|exact H3.out.2.2.2.1|refine Bw.set ?_ (by omega) _ _)) (Ej.2 ⟨HS.out.1.mono (hg _),HS.out.2.mono (hg _), ?_⟩)
   simp only [QMa]
   have hcell:∀i,A8 (A6 H w (((w3.setCell ⟨w.heap.size+1,0,none⟩ (.pointer p1)).setCell ⟨w.heap.size+1,1,none⟩ (.pointer p2)).setCell ⟨w.heap.size+1,2,none⟩ (.pointer (some ⟨wv.heap.size,0,none⟩)))) wv.heap.size i=(#[.slice af fields.length cf, .slice none 0 0, .pointer ym.y0, .pointer ym.y1, .pointer ym.y2, .pointer ym.y3, .pointer ym.y4, .bool false, .string rel]:Array Value)[i]?:=by
    intro i
    rw [Bh (by omega)]
    exact(A1 hblk).1 i
   exact⟨_,_,ym,rfl,hcell 0,hcell 1,⟨hcell 2,hcell 3,hcell 4,hcell 5,hcell 6,hcell 7⟩,hcell 8,HR.out.2,Sl.mono HM.out.2.1 (fun _ g=>AW.mono (hg _) g),HM.out.2.2.mono (hg _)⟩
theorem resolveQ_c (H:Hp)(s:List Ax)(r:As)(X:Value)(y:Six)(w:World)(hi:Imm H w)(hs:AO Ak H s X)(hr:BM Ak H r y):
  Calls Tryz.prog 94 #[X,F9 y] w (Eb H w (Av s r)):=by
 cases h:r.rel.toList.isEmpty
 ·exact resolve_over H s r X y w hi hs hr h
 ·exact resolve_plain H s r X y w hi hs hr h
end
end Go.Proofs.YtmghkmhgpmcoaaaGreat
