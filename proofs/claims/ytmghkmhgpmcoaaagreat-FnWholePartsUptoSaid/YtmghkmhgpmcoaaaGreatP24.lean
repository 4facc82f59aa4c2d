/- What the claim's theorem 'proved' rests on: TcCmp. -/
import Derived.Test.YtmghkmhgpmcoaaaGreatP22
set_option linter.unusedVariables false
set_option linter.unusedSimpArgs false
set_option maxRecDepth 100000
set_option maxHeartbeats 10000000
namespace Go.Proofs.YtmghkmhgpmcoaaaGreat
section
open Go Go.RowKit Go.MapKept
theorem tcS9 {w1 w2:World}{wb b8:Nat}{y0 y1 y2 y3 y4 p1 p2 p3:Option Addr}(h:∃m':CW,w2.heap[wb]?=some m'.obj∧m'.y=⟨y0,y1,y2,y3,y4⟩)(h8:w2.heap[b8]?=w1.heap[b8]?)(hb:w1.heap[b8]?=some (.cells #[.pointer p1, .pointer p2, .pointer p3] 80)):
  w2.cell? ⟨b8,0,none⟩=some (.pointer p1)∧w2.cell? ⟨b8,1,none⟩=some (.pointer p2)∧w2.cell? ⟨b8,2,none⟩=some (.pointer p3)∧w2.cell? ⟨wb,3,none⟩=some (.pointer y0)∧w2.cell? ⟨wb,4,none⟩=some (.pointer y1)∧w2.cell? ⟨wb,5,none⟩=some (.pointer y2)∧w2.cell? ⟨wb,6,none⟩=some (.pointer y3)∧w2.cell? ⟨wb,7,none⟩=some (.pointer y4)∧w2.cell? ⟨wb,8,none⟩=some (.bool false):=by
 obtain⟨m',h1,h2⟩:=h
 unfold CW.obj at h1
 rw [h2]at h1
 obtain⟨q,_⟩:=A1 h1
 obtain⟨q8,_⟩:=A1 (h8.trans hb)
 exact⟨q8 0,q8 1,q8 2,q 3,q 4,q 5,q 6,q 7,q 8⟩
theorem tc_merge (m:CW)(s:List Ax)(r:As)(a:Ap)(bl br wb:Nat)(hL:m.L=Ab bl)(hR:m.R=Ab br)(hres:Av s r=some a)(hnn:Bf a=true)(H:Hp)(w:World)(hi:Imm H w)
  (hS:AO Ak H s (.pointer m.S)) (hr:BM Ak H r m.y) (hb:w.heap[wb]?=some m.obj)
  (hd1:∀K w1 p1 p2 p3,Imm K w1→Hle H K→AI Ak K a p1 p2 p3→Calls Tryz.prog 95 #[.agg #[.pointer p1, .pointer p2, .pointer p3],Ab bl] w1 (Pur w1 (.agg #[.pointer p1, .pointer p2, .pointer p3])))
  (hd2:∀K w1 p1 p2 p3,Imm K w1→Hle H K→AI Ak K a p1 p2 p3→Calls Tryz.prog 95 #[.agg #[.pointer p1, .pointer p2, .pointer p3],Ab br] w1 (Pur w1 (.agg #[.pointer p1, .pointer p2, .pointer p3])))
  (Q:World→World→Prop)
  (hh:∀K w1 p1 p2 p3,Bw w w1→Imm K w1→Hle H K→(∀k,k<w.heap.size→K k=H k)→AI Ak K a p1 p2 p3→Calls Tryz.prog 96 #[.agg #[.pointer p1, .pointer p2, .pointer p3],F9 m.y, .iface 138 (.pointer (some ⟨wb,0,none⟩))] w1 (fun e w2=>e= .returned (.slice none 0 0)∧Q w1 w2))
  (hq:∀w1 w2,Bw w w1→Q w1 w2→(∃m':CW,w2.heap[wb]?=some m'.obj∧m'.y=m.y∧m'.L=m.L∧m'.R=m.R)∧∀k,w.heap.size≤k→k<w1.heap.size→w2.heap[k]?=w1.heap[k]?):
  Calls Tryz.prog 62 #[.pointer (some ⟨wb,0,none⟩), .nilFunc] w (fun e w'=>e= .returned (.slice none 0 0)∧∃w1 w2,Bw w w1∧Q w1 w2∧Bw w2 w'):=by
 have HR:=Lib.hid (fun wq h0=>Fi hS hr hres wq h0)
 have HH:=Lib.hid (And.intro hd1 (And.intro hd2 (And.intro hh hq)))
 have HB:=Lib.hid hb
 have HI:=Lib.hid hi
 clear hd1 hd2 hh hq hS hr hres
 rcases m with⟨L,R,S,⟨y0,y1,y2,y3,y4⟩,pa,pn,pc,cmp,leaf,spare,ha⟩
 simp only at hL hR HR HH
 subst hL
 subst hR
 unfold CW.obj at HB
 simp only at HB
 obtain⟨q,f⟩:=A1 HB.out
 have hlt:=A0 HB.out
 clear hb hi
 go_enter Tryz.func62,Tryz.ntmps62
 go_upto_region 3 with(fail)
 have S0:w.cell? ⟨wb,2,none⟩=some (.pointer S)∧w.cell? ⟨wb,3,none⟩=some (.pointer y0)∧w.cell? ⟨wb,4,none⟩=some (.pointer y1)∧w.cell? ⟨wb,5,none⟩=some (.pointer y2)∧w.cell? ⟨wb,6,none⟩=some (.pointer y3)∧w.cell? ⟨wb,7,none⟩=some (.pointer y4)∧w.cell? ⟨wb,8,none⟩=some (.bool false):=⟨q 2,q 3,q 4,q 5,q 6,q 7,q 8⟩
 have S1:w.drew.cell? ⟨wb,2,none⟩=some (.pointer S)∧w.drew.cell? ⟨wb,3,none⟩=some (.pointer y0)∧w.drew.cell? ⟨wb,4,none⟩=some (.pointer y1)∧w.drew.cell? ⟨wb,5,none⟩=some (.pointer y2)∧w.drew.cell? ⟨wb,6,none⟩=some (.pointer y3)∧w.drew.cell? ⟨wb,7,none⟩=some (.pointer y4)∧w.drew.cell? ⟨wb,8,none⟩=some (.bool false):=S0
 have hne:¬wb=w.heap.size:=by omega
 have hne2:¬w.heap.size=wb:=by omega
 clear q f
 go_cut [5,6] (fun s5 s6 wx=>∃(b5:Nat) (p1 p2 p3:Option Addr),s5= .pointer (some ⟨b5,0,none⟩)∧s6= .bool true∧MgA H a w wx b5 p1 p2 p3)
 case first=>
  go_region_held3 (fun w'=>w'.cell? ⟨wb,2,none⟩=some (.pointer S)∧w'.cell? ⟨wb,3,none⟩=some (.pointer y0)∧w'.cell? ⟨wb,4,none⟩=some (.pointer y1)∧w'.cell? ⟨wb,5,none⟩=some (.pointer y2)∧w'.cell? ⟨wb,6,none⟩=some (.pointer y3)∧w'.cell? ⟨wb,7,none⟩=some (.pointer y4)∧w'.cell? ⟨wb,8,none⟩=some (.bool false))
   (first|(with_reducible exact S0)|(with_reducible exact S1)|((with_reducible refine EQ (by assumption) ?_);assumption)|((with_reducible refine EQ A5 ?_);assumption)|((with_reducible refine EQ A5.dr ?_);assumption)|((with_reducible refine keepP7 (by assumption) ?_ _ rfl);assumption)|exact EQ (Bw.al (Bw.tr Bw.rfl.dr hb1) _) S0|go_keep)
   ((go_at_call 94;refine(HR.out _ (HI.out.below (by first|exact Bw.rfl.dr|exact(Bw.rfl.al _).dr|exact Bw.rfl))).mono ?_;rintro _ w1 ⟨hb1,p1,p2,p3,rfl,hqa⟩;try(obtain⟨qn,fn⟩:=A1 (A2 hb1 (show((w.alloc _).drew).heap[w.heap.size]?=some _ from A4));have hltn:w.heap.size<w1.heap.size:=A0 (A2 hb1 (show((w.alloc _).drew).heap[w.heap.size]?=some _ from A4)))))
  ·go_wp2_with fail
   go_meet
   exact⟨_,p1,p2,p3,rfl,rfl,MgA.one HI.out hb1 hqa⟩
  ·go_wp2_with fail
   go_meet
   exact⟨_,p1,p2,p3,rfl,rfl,MgA.two (wa:=(w.alloc (.cells #[.pointer none, .pointer none, .pointer none] 80)).drew) rfl (Bw.rfl.al _).dr HI.out hb1 hqa⟩
 case rest=>
  obtain⟨b5,p1,p2,p3,rfl,rfl,hA⟩:=hcut
  obtain⟨wA,hwA⟩:∃wA:World,wA=wc:=⟨_,rfl⟩
  subst hwA
  have HA:=Lib.hid hA
  have HM:=Lib.hid (A2 hA.1 HB.out)
  clear hA
  obtain⟨q,f⟩:=A1 HM.out
  obtain⟨q5,f5⟩:=A1 HA.out.2.2.1
  have hltA:=A0 HM.out
  have hlt5:=A0 HA.out.2.2.1
  go_upto_region 6 with(fail)
  have S0:wA.cell? ⟨b5,0,none⟩=some (.pointer p1)∧wA.cell? ⟨b5,1,none⟩=some (.pointer p2)∧wA.cell? ⟨b5,2,none⟩=some (.pointer p3)∧wA.cell? ⟨wb,0,none⟩=some (Ab bl):=⟨q5 0,q5 1,q5 2,q 0⟩
  have S1:wA.drew.cell? ⟨b5,0,none⟩=some (.pointer p1)∧wA.drew.cell? ⟨b5,1,none⟩=some (.pointer p2)∧wA.drew.cell? ⟨b5,2,none⟩=some (.pointer p3)∧wA.drew.cell? ⟨wb,0,none⟩=some (Ab bl):=S0
  have hn1:¬b5=wA.heap.size:=by omega
  have hn2:¬wb=wA.heap.size:=by omega
  have hn3:¬wA.heap.size=b5:=by omega
  have hn4:¬wA.heap.size=wb:=by omega
  have HCD:Hid (∀wq,Bw wA wq→Calls Tryz.prog 95 #[.agg #[.pointer p1, .pointer p2, .pointer p3],Ab bl] wq (Pur wq (.agg #[.pointer p1, .pointer p2, .pointer p3]))):=by
   intro wq hwq
   obtain⟨K,h1,h2,h3⟩:=HA.out.2.2.2
   exact HH.out.1 K wq p1 p2 p3 (h2.below (Bw.tr Bw.rfl hwq)) h1.1 h3
  go_cut [7] (fun s7 wx=>∃b7:Nat,s7= .pointer (some ⟨b7,0,none⟩)∧DgA wA wx b7 p1 p2 p3)
  case first=>
   go_region_held3 (fun w'=>w'.cell? ⟨b5,0,none⟩=some (.pointer p1)∧w'.cell? ⟨b5,1,none⟩=some (.pointer p2)∧w'.cell? ⟨b5,2,none⟩=some (.pointer p3)∧w'.cell? ⟨wb,0,none⟩=some (Ab bl))
    (first|(with_reducible exact S0)|(with_reducible exact S1)|((with_reducible refine BJ (by assumption) ?_);assumption)|((with_reducible refine BJ A5 ?_);assumption)|((with_reducible refine BJ A5.dr ?_);assumption)|((with_reducible refine keepP31 (by assumption) (by assumption) ?_ _ rfl);assumption)|exact BJ (Bw.al (Bw.tr Bw.rfl.dr hb1) _) S0|go_keep)
    ((go_at_call 95;refine(HCD.out _ (by first|exact Bw.rfl.dr|exact(Bw.rfl.al _).dr|exact Bw.rfl)).mono ?_;rintro _ w1 ⟨rfl,hb1⟩;try(obtain⟨qn,fn⟩:=A1 (A2 hb1 (show((wA.alloc _).drew).heap[wA.heap.size]?=some _ from A4));have hltn:wA.heap.size<w1.heap.size:=A0 (A2 hb1 (show((wA.alloc _).drew).heap[wA.heap.size]?=some _ from A4)))))
   ·go_wp2_with fail
    go_meet
    exact⟨_,rfl,DgA.one hb1⟩
   ·go_wp2_with fail
    go_meet
    exact⟨_,rfl,DgA.two (wa:=(wA.alloc (.cells #[.pointer none, .pointer none, .pointer none] 80)).drew) rfl (Bw.rfl.al _).dr hb1⟩
  case rest=>
   obtain⟨b7,rfl,h7⟩:=hcut
   obtain⟨wD,hwD⟩:∃wD:World,wD=wc:=⟨_,rfl⟩
   subst hwD
   have H7:=Lib.hid h7
   have HM7:=Lib.hid (A2 h7.1 HM.out)
   have H57:=Lib.hid (A2 h7.1 HA.out.2.2.1)
   clear h7 q f q5 f5
   obtain⟨q,f⟩:=A1 HM7.out
   obtain⟨q5,f5⟩:=A1 H57.out
   have hltA:=A0 HM7.out
   have hlt5:=A0 H57.out
   go_upto_region 7 with(fail)
   have S0:wD.cell? ⟨b5,0,none⟩=some (.pointer p1)∧wD.cell? ⟨b5,1,none⟩=some (.pointer p2)∧wD.cell? ⟨b5,2,none⟩=some (.pointer p3)∧wD.cell? ⟨wb,1,none⟩=some (Ab br):=⟨q5 0,q5 1,q5 2,q 1⟩
   have S1:wD.drew.cell? ⟨b5,0,none⟩=some (.pointer p1)∧wD.drew.cell? ⟨b5,1,none⟩=some (.pointer p2)∧wD.drew.cell? ⟨b5,2,none⟩=some (.pointer p3)∧wD.drew.cell? ⟨wb,1,none⟩=some (Ab br):=S0
   have hn1:¬b5=wD.heap.size:=by omega
   have hn2:¬wb=wD.heap.size:=by omega
   have hn3:¬wD.heap.size=b5:=by omega
   have hn4:¬wD.heap.size=wb:=by omega
   have HCD:Hid (∀wq,Bw wD wq→Calls Tryz.prog 95 #[.agg #[.pointer p1, .pointer p2, .pointer p3],Ab br] wq (Pur wq (.agg #[.pointer p1, .pointer p2, .pointer p3]))):=by
    intro wq hwq
    obtain⟨K,h1,h2,h3⟩:=HA.out.2.2.2
    exact HH.out.2.1 K wq p1 p2 p3 (h2.below (Bw.tr H7.out.1 hwq)) h1.1 h3
   go_cut [8] (fun s7 wx=>∃b7:Nat,s7= .pointer (some ⟨b7,0,none⟩)∧DgA wD wx b7 p1 p2 p3)
   case first=>
    go_region_held3 (fun w'=>w'.cell? ⟨b5,0,none⟩=some (.pointer p1)∧w'.cell? ⟨b5,1,none⟩=some (.pointer p2)∧w'.cell? ⟨b5,2,none⟩=some (.pointer p3)∧w'.cell? ⟨wb,1,none⟩=some (Ab br))
     (first|(with_reducible exact S0)|(with_reducible exact S1)|((with_reducible refine BJ (by assumption) ?_);assumption)|((with_reducible refine BJ A5 ?_);assumption)|((with_reducible refine BJ A5.dr ?_);assumption)|((with_reducible refine keepP31 (by assumption) (by assumption) ?_ _ rfl);assumption)|exact BJ (Bw.al (Bw.tr Bw.rfl.dr hb1) _) S0|go_keep)
     ((go_at_call 95;refine(HCD.out _ (by first|exact Bw.rfl.dr|exact(Bw.rfl.al _).dr|exact Bw.rfl)).mono ?_;rintro _ w1 ⟨rfl,hb1⟩;try(obtain⟨qn,fn⟩:=A1 (A2 hb1 (show((wD.alloc _).drew).heap[wD.heap.size]?=some _ from A4));have hltn:wD.heap.size<w1.heap.size:=A0 (A2 hb1 (show((wD.alloc _).drew).heap[wD.heap.size]?=some _ from A4)))))
    ·go_wp2_with fail
     go_meet
     exact⟨_,rfl,DgA.one hb1⟩
    ·go_wp2_with fail
     go_meet
     exact⟨_,rfl,DgA.two (wa:=(wD.alloc (.cells #[.pointer none, .pointer none, .pointer none] 80)).drew) rfl (Bw.rfl.al _).dr hb1⟩
   case rest=>
    obtain⟨b8,rfl,h8⟩:=hcut
    obtain⟨wE,hwE⟩:∃wE:World,wE=wc:=⟨_,rfl⟩
    subst hwE
    have H8:=Lib.hid h8
    have HM8:=Lib.hid (A2 h8.1 HM7.out)
    have H78:=Lib.hid (A2 h8.1 H7.out.2.2)
    have HBE:=Lib.hid ((HA.out.1.tr H7.out.1).tr h8.1)
    clear h8 q f q5 f5
    obtain⟨q,f⟩:=A1 HM8.out
    have hltE:=A0 HM8.out
    have hlt8:=A0 H8.out.2.2
    have CE:=Lib.hid ((eq_c a.sz).1 a (Nat.le_refl _) (At wE) p1 p2 p3 b7 0 b8 0 wE (Imm.self wE) (by
      obtain⟨K,h1,h2,h3⟩:=HA.out.2.2.2
      exact h3.mono ((h2.below H7.out.1).below H8.out.1))
     ⟨by rw [Ai];exact(A1 H78.out).1 0,by rw [Ai];exact(A1 H78.out).1 1,by rw [Ai];exact(A1 H78.out).1 2⟩
     ⟨by rw [Ai];exact(A1 H8.out.2.2).1 0,by rw [Ai];exact(A1 H8.out.2.2).1 1,by rw [Ai];exact(A1 H8.out.2.2).1 2⟩ hnn)
    go_wp2_with fail
    refine CE.out.mono ?_
    rintro _ wF ⟨rfl,hF⟩
    have HBF:=Lib.hid (HBE.out.tr hF)
    have HAF:=Lib.hid ((H7.out.1.tr H8.out.1).tr hF)
    have HMF:=Lib.hid (A2 hF HM8.out)
    have H8F:=Lib.hid (A2 hF H8.out.2.2)
    clear hF q f
    obtain⟨q,f⟩:=A1 HMF.out
    obtain⟨q8,f8⟩:=A1 H8F.out
    have hltE:=A0 HMF.out
    have hlt8:=A0 H8F.out
    go_upto_region 11 with(fail)
    have S0:wF.cell? ⟨b8,0,none⟩=some (.pointer p1)∧wF.cell? ⟨b8,1,none⟩=some (.pointer p2)∧wF.cell? ⟨b8,2,none⟩=some (.pointer p3)∧wF.cell? ⟨wb,3,none⟩=some (.pointer y0)∧wF.cell? ⟨wb,4,none⟩=some (.pointer y1)∧wF.cell? ⟨wb,5,none⟩=some (.pointer y2)∧wF.cell? ⟨wb,6,none⟩=some (.pointer y3)∧wF.cell? ⟨wb,7,none⟩=some (.pointer y4)∧wF.cell? ⟨wb,8,none⟩=some (.bool false):=⟨q8 0,q8 1,q8 2,q 3,q 4,q 5,q 6,q 7,q 8⟩
    have S1:wF.drew.cell? ⟨b8,0,none⟩=some (.pointer p1)∧wF.drew.cell? ⟨b8,1,none⟩=some (.pointer p2)∧wF.drew.cell? ⟨b8,2,none⟩=some (.pointer p3)∧wF.drew.cell? ⟨wb,3,none⟩=some (.pointer y0)∧wF.drew.cell? ⟨wb,4,none⟩=some (.pointer y1)∧wF.drew.cell? ⟨wb,5,none⟩=some (.pointer y2)∧wF.drew.cell? ⟨wb,6,none⟩=some (.pointer y3)∧wF.drew.cell? ⟨wb,7,none⟩=some (.pointer y4)∧wF.drew.cell? ⟨wb,8,none⟩=some (.bool false):=S0
    have HHC:Hid (∀wq,Bw w wq→wq.heap=wF.heap→Calls Tryz.prog 96 #[.agg #[.pointer p1, .pointer p2, .pointer p3], .agg #[.pointer y0, .pointer y1, .pointer y2, .pointer y3, .pointer y4, .bool false], .iface 138 (.pointer (some ⟨wb,0,none⟩))] wq (fun e w2=>e= .returned (.slice none 0 0)∧Q wq w2)):=by
     intro wq hwq hqe
     obtain⟨K,h1,h2,h3⟩:=HA.out.2.2.2
     refine HH.out.2.2.1 K wq p1 p2 p3 hwq ?_ h1.1 h1.2 h3
     intro k o e
     show wq.heap[k]?=some o
     rw [hqe];exact(h2.below HAF.out) k o e
    clear q f q8 f8
    go_region_held3 (fun w'=>w'.cell? ⟨b8,0,none⟩=some (.pointer p1)∧w'.cell? ⟨b8,1,none⟩=some (.pointer p2)∧w'.cell? ⟨b8,2,none⟩=some (.pointer p3)∧w'.cell? ⟨wb,3,none⟩=some (.pointer y0)∧w'.cell? ⟨wb,4,none⟩=some (.pointer y1)∧w'.cell? ⟨wb,5,none⟩=some (.pointer y2)∧w'.cell? ⟨wb,6,none⟩=some (.pointer y3)∧w'.cell? ⟨wb,7,none⟩=some (.pointer y4)∧w'.cell? ⟨wb,8,none⟩=some (.bool false))
     (first|(with_reducible exact S0)|(with_reducible exact S1)|(with_reducible exact S2)|go_keep)
     ((go_at_call 96;refine(HHC.out _ (by first|exact HBF.out.dr|exact HBF.out) (by exact rfl)).mono ?_;rintro _ w2 ⟨rfl,hQ⟩;have HQ2:=Lib.hid (And.intro hQ (HH.out.2.2.2 _ w2 (by first|exact HBF.out.dr|exact HBF.out) hQ));clear hQ;have S2:w2.cell? ⟨b8,0,none⟩=some (.pointer p1)∧w2.cell? ⟨b8,1,none⟩=some (.pointer p2)∧w2.cell? ⟨b8,2,none⟩=some (.pointer p3)∧w2.cell? ⟨wb,3,none⟩=some (.pointer y0)∧w2.cell? ⟨wb,4,none⟩=some (.pointer y1)∧w2.cell? ⟨wb,5,none⟩=some (.pointer y2)∧w2.cell? ⟨wb,6,none⟩=some (.pointer y3)∧w2.cell? ⟨wb,7,none⟩=some (.pointer y4)∧w2.cell? ⟨wb,8,none⟩=some (.bool false):=tcS9 (by obtain⟨m',g1,g2,_⟩:=HQ2.out.2.1;exact⟨m',g1,g2⟩) (HQ2.out.2.2 b8 (by have:=H8.out.2.1;have:=HBE.out.size;have:=(HA.out.1.tr H7.out.1).size;omega) (by exact hlt8)) H8F.out))
    obtain⟨⟨m',hm',hy',hL',hR'⟩,hfar⟩:=HQ2.out.2
    unfold CW.obj at hm'
    rw [hL',hR']at hm'
    have HM2:=Lib.hid hm'
    obtain⟨q,f⟩:=A1 hm'
    have hlt2:=A0 hm'
    have k11:=q 11
    have k0:=q 0
    have k1:=q 1
    clear q hm' hy' hL' hR' hfar S2 S0 S1
    cases hl:m'.leaf
    all_goals
     rw [hl]at k11
     simp at k11 k0 k1
     go_wp2_with fail
     refine(typedcompare_lazy w2).mono ?_
     rintro _ w3 ⟨rfl,rfl⟩
     go_wp2_with fail
     go_ret
     exact⟨rfl,_,_,by first|exact HBF.out.dr|exact HBF.out,HQ2.out.1,Bw.rfl⟩
end
end Go.Proofs.YtmghkmhgpmcoaaaGreat
