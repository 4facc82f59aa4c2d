/- What the claim's theorem 'proved' rests on: AsIsC, SetsB, SetsC, LawsA, Join. -/
import Derived.Laws.IdiomCopy
import Derived.Test.YtmghkmhgpmcoaaaGreatP35
import Derived.Test.YtmghkmhgpmcoaaaGreatP36
set_option linter.unusedVariables false
set_option linter.unusedSimpArgs false
set_option maxRecDepth 100000
set_option maxHeartbeats 10000000
namespace Go.Proofs.YtmghkmhgpmcoaaaGreat
section
open Go Go.RowKit Go.MapKept
def dbox:Obj:= .cells #[.slice none 0 0, .slice none 0 0, .slice none 0 0] 55
theorem keepB3 {w w1:World}(hb:Bw w w1){p0 p1 p2:Addr}{u0 u1 u2:Value}(h:w.cell? p0=some u0∧w.cell? p1=some u1∧w.cell? p2=some u2):w1.cell? p0=some u0∧w1.cell? p1=some u1∧w1.cell? p2=some u2:=by
 obtain⟨h0,h1,h2⟩:=h
 exact⟨cell_later hb h0,cell_later hb h1,cell_later hb h2⟩
theorem keepO3 {w:World}{P b o0 o1 o2:Nat}{u0 u1 u2 x0 x1 x2:Value}(h_b:¬b=P)
  (h:w.cell? ⟨b,o0,none⟩=some u0∧w.cell? ⟨b,o1,none⟩=some u1∧w.cell? ⟨b,o2,none⟩=some u2):∀w',w'=(((w.setCell ⟨P,0,none⟩ x0).setCell ⟨P,1,none⟩ x1).setCell ⟨P,2,none⟩ x2)→w'.cell? ⟨b,o0,none⟩=some u0∧w'.cell? ⟨b,o1,none⟩=some u1∧w'.cell? ⟨b,o2,none⟩=some u2:=by
 rintro w' rfl
 simpa [World.cell?_setCell_other,h_b]using h
theorem cellH_fresh {w0 w:World}{g i:Nat}(h:w0.heap.size≤g):A8 (A6 E0 w0 w) g i=w.cell? ⟨g,i,none⟩:=by
 rw [←Ai];unfold A8;rw [show A6 E0 w0 w g=At w g by unfold A6 At;rw [if_neg (by omega)]]
theorem paths1 {w0 w:World}{v:Value}{key:ByteArray}(h:Dw w w0.heap.size v key)(hk:key.size≤lim):Bz (A6 E0 w0 w) [[Bs key]] v:=by
 obtain⟨u,h1,h2⟩:=h
 rcases h1.2 with⟨_,h⟩|⟨g,c,cur,rfl,hgl,hg,hc1,_,hcs,htk⟩
 ·cases h
 rcases h2.2 with⟨_,h⟩|⟨g2,c2,cur2,rfl,hgl2,hg2,hc2,_,hcs2,htk2⟩
 ·cases h
 have q:=(A1 hg).1
 have q2:=(A1 hg2).1
 have hu:w.cell? ⟨g,0,none⟩=some (.slice (some ⟨g2,0,none⟩) 1 c2):=by
  rw [q 0]
  have:cur.toList.take (1 * 1)=[.slice (some ⟨g2,0,none⟩) 1 c2]:=htk
  have h3:=congrArg (·[0]?) this
  simpa using h3
 have he:∀i v,(Br key)[i]?=some v→w.cell? ⟨g2,i,none⟩=some v:=fun i v hv=>by
  rw [q2 i]
  have hi:i<11:=by have:=(List.getElem?_eq_some_iff.1 hv).1;simpa [Br]using this
  rw [←htk2,List.getElem?_take,if_pos (by omega)]at hv
  simpa using hv
 refine⟨_,_,rfl,by simp,by simp [lim],hc1, ?_⟩
 simp only [BI,and_true]
 refine⟨g,0,_,rfl,by rw [cellH_fresh hgl];exact hu, ?_⟩
 refine⟨_,_,rfl,by simp,by simp [lim],hc2, ?_⟩
 simp only [Fv,and_true]
 refine⟨g2,0, .slice none 0 0, .slice none 0 0, .slice none 0 0, .slice none 0 0,rfl, ?_, ?_⟩
 ·have hh:∀i v,(Br key)[i]?=some v→A8 (A6 E0 w0 w) g2 i=some v:=fun i v hv=>by rw [cellH_fresh hgl2];exact he i v hv
  exact⟨hh 0 _ rfl,hh 1 _ rfl,hh 2 _ rfl,hh 3 _ rfl,⟨hh 4 _ rfl,hh 5 _ rfl,hh 6 _ rfl,hh 7 _ rfl,hh 8 _ rfl,hh 9 _ rfl⟩,hh 10 _ rfl⟩
 ·exact⟨AR (by simp [Bs]) (by simp [Bs]),AR (by simp [Bs]) (by simp [Bs]),hk,Cv.nil,RVs.nil,RV.mk0 (AR (by simp [Bs,Ay]) (by simp [Bs,Ay])) (AR (by simp [Bs,Ay]) (by simp [Bs,Ay])) (by simp [Bs,Ay]) (Nat.zero_le _) rfl rfl⟩
theorem Bz.nil {H:Hp}:Bz H [] (.slice none 0 0):=⟨none,0,rfl,by simp,Nat.zero_le _,Nat.le_refl _,by simp only [BI]⟩
def modP (key:ByteArray)(same:Bool):List (List GE):=if same=true then []else [[Bs key]]
theorem fromSetM_c (lo bM:Nat)(key:ByteArray)(same:Bool)(w:World)(hk:key.size≤lim)(h:B4 lo bM key same w):
  Calls Tryz.prog 38 #[.pointer (some ⟨bM,0,none⟩)] w (fun e w'=>Bw w w'∧∃v,e= .returned v∧Bz (A6 E0 w w') (modP key same) v):=by
 unfold B4 at h
 unfold modP
 split at h
 ·rename_i hs
  refine(fromSet0_c bM w h).mono ?_
  rintro _ w1 ⟨rfl,hb⟩
  exact⟨hb,_,rfl,by rw [if_pos hs];exact Bz.nil⟩
 ·rename_i hs
  obtain⟨kb,h1,h2,h3,h4⟩:=h
  refine(fromSet1_c bM lo kb key w h2 h3).mono ?_
  rintro _ w1 ⟨hb,v,rfl,hp⟩
  exact⟨hb,_,rfl,by rw [if_neg hs];exact paths1 hp hk⟩
theorem compareAsIs_c (s:List Ax)(rr:As)(sc:ByteArray)(key:ByteArray)(r fe:As)(rel:ByteArray)(rest:List Bp)(a:Ap)(t u:JT)(va vb:GV)(hta:Ak va= .map [key] [t])(htb:Ak vb= .map [key] [u])(hres:Av s rr=some ⟨sc,[],⟨[⟨key,r,[]⟩],fe,rel⟩::rest⟩)(hrel:(rel.toList==An)=false)(hsc:sc.toList.isEmpty=true)(hnr:Bf ⟨sc,[],⟨[⟨key,r,[]⟩],fe,rel⟩::rest⟩=true)(hnq:Dt rr=true)
  (hrec:Av s r=some a) (hnn:Bf a=true) (h1:Ck a t) (h2:Ck a u) (hks:key.size≤lim)
  (H:Hp) (w:World) (xs x1 x2 a4 a5 b4 b5:Value) (hi:Imm H w) (hS:DH H s xs) (hr:Cy H rr x1 x2) (hva:RV H va a4 a5) (hvb:RV H vb b4 b5):
  Calls Tryz.prog 15 #[E1 xs,E8 rr x1 x2,Ar va a4 a5,Ar vb b4 b5] w (fun e w'=>Bw w w'∧∃v1,e= .returned (.tuple #[.agg #[.slice none 0 0,v1, .slice none 0 0], .bool true])∧Bz (At w') (modP key (eqJ u t)) v1):=by
 have HSC:=Lib.hid (fun w0 h0=>toSchema_c s H xs w0 h0 hS)
 have HRC:=Lib.hid (fun w0 h0=>toRef_c rr H x1 x2 w0 h0 hr)
 have HVA:=Lib.hid (fun w0 h0=>EZ va H a4 a5 w0 h0 hva)
 have HVB:=Lib.hid (fun w0 h0=>EZ vb H b4 b5 w0 h0 hvb)
 have HTM:=Lib.hid (fun bR bl br S y w4 (hp:Prep s rr S y key t u bl br w4) hbR=>by
  obtain⟨x,cx,hx⟩:=hp.l
  obtain⟨z,cz,hz⟩:=hp.r
  exact tc_Compare s rr sc key r fe rel rest a t u hres hrel hsc hnr hnq hrec hnn h1 h2 hks bR bl br S y (At w4) w4 (Imm.self w4) hp.sch hp.ref x z cx cz hx hz hbR)
 have HI:=Lib.hid hi
 obtain⟨as_,cs_,rfl,_⟩:=hS
 obtain⟨l1,d1,l2,d2,rfl,rfl⟩:=hr.open
 obtain⟨p4,e4,p5,e5,rfl,rfl⟩:=hva.open
 obtain⟨q4,g4,q5,g5,rfl,rfl⟩:=hvb.open
 clear hi hr hva hvb
 unfold E1 E8 at *
 unfold Ar at HVA HVB⊢
 go_enter Tryz.func15,Tryz.ntmps15
 go_upto_region 1 with(fail)
 obtain⟨wz,hwz⟩:∃wz,wz=((((w.alloc (.cells #[.slice as_ s.length cs_] 24)).alloc (.cells #[.bool rr.named, .string rr.name, .string rr.atom.sc, .slice l1 rr.atom.li.length d1, .slice l2 rr.atom.ma.length d2, .string rr.rel] 30)).alloc (.cells #[.int .i64 va.k, .int .i64 va.n, .float .f64 va.f, .string va.s, .slice p4 va.ks.length e4, .slice p5 va.l.length e5] 35)).alloc (.cells #[.int .i64 vb.k, .int .i64 vb.n, .float .f64 vb.f, .string vb.s, .slice q4 vb.ks.length g4, .slice q5 vb.l.length g5] 35)).alloc dbox:=⟨_,rfl⟩
 have HZ:Hid (Bw w wz∧wz.heap.size=w.heap.size+5∧wz.heap[w.heap.size]?=some (.cells #[.slice as_ s.length cs_] 24)∧wz.heap[w.heap.size+1]?=some (.cells #[.bool rr.named, .string rr.name, .string rr.atom.sc, .slice l1 rr.atom.li.length d1, .slice l2 rr.atom.ma.length d2, .string rr.rel] 30)∧wz.heap[w.heap.size+1+1]?=some (.cells #[.int .i64 va.k, .int .i64 va.n, .float .f64 va.f, .string va.s, .slice p4 va.ks.length e4, .slice p5 va.l.length e5] 35)∧wz.heap[w.heap.size+1+1+1]?=some (.cells #[.int .i64 vb.k, .int .i64 vb.n, .float .f64 vb.f, .string vb.s, .slice q4 vb.ks.length g4, .slice q5 vb.l.length g5] 35)∧wz.heap[w.heap.size+1+1+1+1]?=some dbox):=by
  subst hwz;exact⟨(Co.al _).al _,by simp,b5_0,b5_1,b5_2,b5_3,b5_4⟩
 unfold dbox at hwz
 rw [←hwz]
 clear hwz
 obtain⟨q0,f0⟩:=A1 HZ.out.2.2.1
 obtain⟨q1,f1⟩:=A1 HZ.out.2.2.2.1
 have hl0:=A0 HZ.out.2.2.1
 have hl1:=A0 HZ.out.2.2.2.1
 have HIZ:=Lib.hid (HI.out.below HZ.out.1)
 go_cut [10,11] (fun s10 s11 wx=>∃S b11 y,s10= .pointer S∧s11= .pointer (some ⟨b11,0,none⟩)∧SR H s rr wz wx S b11 y)
 case first=>
  go_region_law
   (first
    |(go_simp;(refine(HSC.out _ (HIZ.out.below (by first|exact(Bw.rfl.al _).dr|exact Bw.rfl.al _|exact Bw.rfl.dr.al _))).mono ?_);rintro _ w1 ⟨hb1,X,rfl,hX⟩;have hX0:=hX;obtain⟨bs,xs_,rfl,_⟩:=hX0;obtain⟨W,hW0,hbW,hXW,hWb⟩:∃W,Bw wz W∧Bw W w1∧AO Ak (A6 H W w1) s (.pointer (some ⟨bs,0,none⟩))∧W.heap[wz.heap.size]?=some (.cells #[.pointer none, .pointer none, .pointer none, .pointer none, .pointer none, .bool false] 83):=⟨_,(by first|exact(Bw.rfl.al _).dr|exact Bw.rfl.al _|exact Bw.rfl.dr.al _),hb1,hX,by exact A4⟩;have H1:=Lib.hid (And.intro hW0 (And.intro hbW hXW));have HT:=Lib.hid hWb;have hq1:=A2 (hW0.tr hbW) HZ.out.2.2.2.1;obtain⟨q1a,f1a⟩:=A1 hq1;have hl1a:=A0 hq1;clear hX hb1 hW0 hbW hXW hq1)
    |(go_simp;(refine(HSC.out _ (HIZ.out.below (by first|exact Bw.rfl|exact Bw.rfl.dr))).mono ?_);rintro _ w1 ⟨hb1,X,rfl,hX⟩;have hX0:=hX;obtain⟨bs,xs_,rfl,_⟩:=hX0;obtain⟨W,hW0,hbW,hXW⟩:∃W,Bw wz W∧Bw W w1∧AO Ak (A6 H W w1) s (.pointer (some ⟨bs,0,none⟩)):=⟨_,(by first|exact Bw.rfl|exact Bw.rfl.dr),hb1,hX⟩;have H1:=Lib.hid (And.intro hW0 (And.intro hbW hXW));have hq1:=A2 (hW0.tr hbW) HZ.out.2.2.2.1;obtain⟨q1a,f1a⟩:=A1 hq1;have hl1a:=A0 hq1;clear hX hb1 hW0 hbW hXW hq1)
    |(go_simp;(refine(HRC.out _ (HIZ.out.below (Bw.tr (Bw.tr H1.out.1 H1.out.2.1) (by first|exact(Bw.rfl.al _).dr|exact Bw.rfl.al _|exact Bw.rfl.dr.al _)))).mono ?_);rintro _ w2 ⟨hb2,y,rfl,hY⟩;obtain⟨W2,hW2,hbW2,hYW⟩:∃W2,Bw w1 W2∧Bw W2 w2∧BM Ak (A6 H W2 w2) rr y∧W2.heap[w1.heap.size]?=some (.cells #[.pointer none, .pointer none, .pointer none, .pointer none, .pointer none, .bool false] 83):=⟨_,(by first|exact(Bw.rfl.al _).dr|exact Bw.rfl.al _|exact Bw.rfl.dr.al _),hb2,hY,by exact A4⟩;have H2:=Lib.hid (And.intro hW2 (And.intro hbW2 hYW));have hq2:=A2 hbW2 hYW.2;obtain⟨q2a,f2a⟩:=A1 hq2;have hl2a:=A0 hq2;clear hb2 hY hW2 hbW2 hYW hq2)
    |(go_simp;(refine(HRC.out _ (HIZ.out.below (Bw.tr (Bw.tr H1.out.1 H1.out.2.1) (by first|exact Bw.rfl|exact Bw.rfl.dr)))).mono ?_);rintro _ w2 ⟨hb2,y,rfl,hY⟩;obtain⟨W2,hW2,hbW2,hYW⟩:∃W2,Bw w1 W2∧Bw W2 w2∧BM Ak (A6 H W2 w2) rr y:=⟨_,(by first|exact Bw.rfl|exact Bw.rfl.dr),hb2,hY⟩;have H2:=Lib.hid (And.intro hW2 (And.intro hbW2 hYW));try(have hq2:=A2 ((H1.out.2.1.tr hW2).tr hbW2) HT.out;obtain⟨q2a,f2a⟩:=A1 hq2;have hl2a:=A0 hq2;clear hq2);clear hb2 hY hW2 hbW2 hYW))
  all_goals
   go_wp2_with fail
   go_meet
   refine⟨_,_,y,rfl,rfl, ?_⟩
   first
    |(with_reducible refine SR.at_end HIZ.out H1.out.1 H1.out.2.1 H2.out.1 H2.out.2.1 H1.out.2.2 ?_);first|exact H2.out.2.2|exact H2.out.2.2.1
    |(with_reducible refine SR.ahead HIZ.out H1.out.1 H1.out.2.1 H2.out.1 H2.out.2.1 H1.out.2.2 H2.out.2.2.1 ?_ (.inr (Nat.le_refl _)) H2.out.2.2.2);have:=H1.out.1.size;have:=H1.out.2.1.size;omega
    |(with_reducible refine SR.ahead HIZ.out H1.out.1 H1.out.2.1 H2.out.1 H2.out.2.1 H1.out.2.2 H2.out.2.2 (Nat.le_refl _) (.inl (A0 HT.out)) ?_);exact(A2 (H1.out.2.1.tr H2.out.1) HT.out)
 case rest=>
  obtain⟨S,b11,⟨y0,y1,y2,y3,y4⟩,rfl,rfl,hsr⟩:=hcut
  obtain⟨wx,hwx⟩:∃wx:World,wx=wc:=⟨_,rfl⟩
  subst hwx
  have HSR:=Lib.hid hsr
  have hl5:=A0 hsr.2.2.1
  clear hsr q0 f0 q1 f1 hl0 hl1
  go_upto_region 2 with(fail)
  have S0:wx.cell? ⟨b11,0,none⟩=some (.pointer y0)∧wx.cell? ⟨b11,1,none⟩=some (.pointer y1)∧wx.cell? ⟨b11,2,none⟩=some (.pointer y2)∧wx.cell? ⟨b11,3,none⟩=some (.pointer y3)∧wx.cell? ⟨b11,4,none⟩=some (.pointer y4)∧wx.cell? ⟨b11,5,none⟩=some (.bool false)∧wx.cell? ⟨w.heap.size+1+1,0,none⟩=some (.int .i64 va.k)∧wx.cell? ⟨w.heap.size+1+1,1,none⟩=some (.int .i64 va.n)∧wx.cell? ⟨w.heap.size+1+1,2,none⟩=some (.float .f64 va.f)∧wx.cell? ⟨w.heap.size+1+1,3,none⟩=some (.string va.s)∧wx.cell? ⟨w.heap.size+1+1,4,none⟩=some (.slice p4 va.ks.length e4)∧wx.cell? ⟨w.heap.size+1+1,5,none⟩=some (.slice p5 va.l.length e5)∧wx.cell? ⟨w.heap.size+1+1+1,0,none⟩=some (.int .i64 vb.k)∧wx.cell? ⟨w.heap.size+1+1+1,1,none⟩=some (.int .i64 vb.n)∧wx.cell? ⟨w.heap.size+1+1+1,2,none⟩=some (.float .f64 vb.f)∧wx.cell? ⟨w.heap.size+1+1+1,3,none⟩=some (.string vb.s)∧wx.cell? ⟨w.heap.size+1+1+1,4,none⟩=some (.slice q4 vb.ks.length g4)∧wx.cell? ⟨w.heap.size+1+1+1,5,none⟩=some (.slice q5 vb.l.length g5):=by
   have g0:=(A1 HSR.out.2.2.1).1
   have g1:=(A1 (A2 HSR.out.1 HZ.out.2.2.2.2.1)).1
   have g2:=(A1 (A2 HSR.out.1 HZ.out.2.2.2.2.2.1)).1
   exact⟨g0 0,g0 1,g0 2,g0 3,g0 4,g0 5,g1 0,g1 1,g1 2,g1 3,g1 4,g1 5,g2 0,g2 1,g2 2,g2 3,g2 4,g2 5⟩
  have S1:wx.drew.cell? ⟨b11,0,none⟩=some (.pointer y0)∧wx.drew.cell? ⟨b11,1,none⟩=some (.pointer y1)∧wx.drew.cell? ⟨b11,2,none⟩=some (.pointer y2)∧wx.drew.cell? ⟨b11,3,none⟩=some (.pointer y3)∧wx.drew.cell? ⟨b11,4,none⟩=some (.pointer y4)∧wx.drew.cell? ⟨b11,5,none⟩=some (.bool false)∧wx.drew.cell? ⟨w.heap.size+1+1,0,none⟩=some (.int .i64 va.k)∧wx.drew.cell? ⟨w.heap.size+1+1,1,none⟩=some (.int .i64 va.n)∧wx.drew.cell? ⟨w.heap.size+1+1,2,none⟩=some (.float .f64 va.f)∧wx.drew.cell? ⟨w.heap.size+1+1,3,none⟩=some (.string va.s)∧wx.drew.cell? ⟨w.heap.size+1+1,4,none⟩=some (.slice p4 va.ks.length e4)∧wx.drew.cell? ⟨w.heap.size+1+1,5,none⟩=some (.slice p5 va.l.length e5)∧wx.drew.cell? ⟨w.heap.size+1+1+1,0,none⟩=some (.int .i64 vb.k)∧wx.drew.cell? ⟨w.heap.size+1+1+1,1,none⟩=some (.int .i64 vb.n)∧wx.drew.cell? ⟨w.heap.size+1+1+1,2,none⟩=some (.float .f64 vb.f)∧wx.drew.cell? ⟨w.heap.size+1+1+1,3,none⟩=some (.string vb.s)∧wx.drew.cell? ⟨w.heap.size+1+1+1,4,none⟩=some (.slice q4 vb.ks.length g4)∧wx.drew.cell? ⟨w.heap.size+1+1+1,5,none⟩=some (.slice q5 vb.l.length g5):=S0
  have HIX:=Lib.hid (HIZ.out.below HSR.out.1)
  have HAT:Hid (∀b w,Calls Tryz.prog 36 #[Ab b, .pointer S, .agg #[.pointer y0, .pointer y1, .pointer y2, .pointer y3, .pointer y4, .bool false]] w (fun e w'=>Bw w w'∧∃bo,e= .returned (.pointer (some ⟨bo,0,none⟩))∧w.heap.size≤bo∧w'.heap[bo]?=some (B9 (Ab b) ⟨y0,y1,y2,y3,y4⟩ S))):=fun b w=>typedcompare_asTV b ⟨y0,y1,y2,y3,y4⟩ S w
  have HTQ:Hid (∀bR bl br w4,Prep s rr S ⟨y0,y1,y2,y3,y4⟩ key t u bl br w4→w4.heap[bR]?=some (B9 (Ab br) ⟨y0,y1,y2,y3,y4⟩ S)→Calls Tryz.prog 37 #[.agg #[Ab bl, .pointer y0, .pointer y1, .pointer y2, .pointer y3, .pointer y4, .bool false, .pointer S], .pointer (some ⟨bR,0,none⟩)] w4 (fun e w'=>Bw w4 w'∧∃bC b0 bM b2,e= .returned (.tuple #[.pointer (some ⟨bC,0,none⟩), .nilIface])∧w'.heap[bC]?=some (CT b0 bM b2)∧w'.heap[b0]?=some AK∧w'.heap[b2]?=some AK∧B4 w4.heap.size bM key (eqJ u t) w')):=fun bR bl br w4 hp hb=>HTM.out bR bl br S ⟨y0,y1,y2,y3,y4⟩ w4 hp hb
  refine wp_region_held_drew (S:=fun w'=>w'.cell? ⟨b11,0,none⟩=some (.pointer y0)∧w'.cell? ⟨b11,1,none⟩=some (.pointer y1)∧w'.cell? ⟨b11,2,none⟩=some (.pointer y2)∧w'.cell? ⟨b11,3,none⟩=some (.pointer y3)∧w'.cell? ⟨b11,4,none⟩=some (.pointer y4)∧w'.cell? ⟨b11,5,none⟩=some (.bool false)∧w'.cell? ⟨w.heap.size+1+1,0,none⟩=some (.int .i64 va.k)∧w'.cell? ⟨w.heap.size+1+1,1,none⟩=some (.int .i64 va.n)∧w'.cell? ⟨w.heap.size+1+1,2,none⟩=some (.float .f64 va.f)∧w'.cell? ⟨w.heap.size+1+1,3,none⟩=some (.string va.s)∧w'.cell? ⟨w.heap.size+1+1,4,none⟩=some (.slice p4 va.ks.length e4)∧w'.cell? ⟨w.heap.size+1+1,5,none⟩=some (.slice p5 va.l.length e5)∧w'.cell? ⟨w.heap.size+1+1+1,0,none⟩=some (.int .i64 vb.k)∧w'.cell? ⟨w.heap.size+1+1+1,1,none⟩=some (.int .i64 vb.n)∧w'.cell? ⟨w.heap.size+1+1+1,2,none⟩=some (.float .f64 vb.f)∧w'.cell? ⟨w.heap.size+1+1+1,3,none⟩=some (.string vb.s)∧w'.cell? ⟨w.heap.size+1+1+1,4,none⟩=some (.slice q4 vb.ks.length g4)∧w'.cell? ⟨w.heap.size+1+1+1,5,none⟩=some (.slice q5 vb.l.length g5)) (by kernel_rfl) S1 (fun hHeld=> ?_)
  refine tk 0 ?_
  try simp only [Act.put,tka,tkb,tkc]
  refine tk 2 ?_
  try simp only [Act.put,tka,tkb,tkc]
  refine tk 3 ?_
  try simp only [Act.put,tka,tkb,tkc]
  refine tk 7 ?_
  try simp only [Act.put,tka,tkb,tkc]
  refine tk 9 ?_
  try simp only [Act.put,tka,tkb,tkc]
  refine tk 10 ?_
  try simp only [Act.put,tka,tkb,tkc]
  refine wpAnyH_ready (rs:=[1]) (by kernel_rfl) (by simp) ?_
  refine AllReadyH.cons rfl (fun K hK=> ?_) AllReadyH.nil
  go_simp
  refine(HVA.out _ (HIX.out.below Bw.rfl.dr)).mono ?_
  rintro _ w1 ⟨hb1',X1,rfl,hX1'⟩
  have hb1:Bw wx w1:=Bw.rfl.dr.tr hb1'
  have hX1:RVal (At w1) (Ak va) X1:=hX1'.mono (Imm.grow (HIX.out.below Bw.rfl.dr) hb1')
  have H1:=Lib.hid (And.intro hb1 hX1)
  obtain⟨bl,xl,rfl,_,_⟩:=hX1
  have S2:=keepB18 hb1 S0
  clear hb1' hX1' hb1
  refine hK.out _ _ S2 (fun hHeld=> ?_)
  clear hK K
  try simp only [Act.put,tka,tkb,tkc]
  refine wpAnyH_ready (rs:=[4]) (by kernel_rfl) (by simp) ?_
  refine AllReadyH.cons rfl (fun K hK=> ?_) AllReadyH.nil
  go_simp
  refine(HAT.out bl w1).mono ?_
  rintro _ w2 ⟨hb2,bo1,rfl,hlo1,hbo1⟩
  have H2:=Lib.hid (And.intro hb2 hbo1)
  have S3:=keepB18 hb2 S2
  unfold B9 at hbo1
  obtain⟨r1,e1⟩:=A1 hbo1
  have T3:w2.cell? ⟨bo1,0,none⟩=some (Ab bl)∧w2.cell? ⟨bo1,1,none⟩=some (.pointer y0)∧w2.cell? ⟨bo1,2,none⟩=some (.pointer y1)∧w2.cell? ⟨bo1,3,none⟩=some (.pointer y2)∧w2.cell? ⟨bo1,4,none⟩=some (.pointer y3)∧w2.cell? ⟨bo1,5,none⟩=some (.pointer y4)∧w2.cell? ⟨bo1,6,none⟩=some (.bool false)∧w2.cell? ⟨bo1,7,none⟩=some (.pointer S)∧w2.cell? ⟨b11,0,none⟩=some (.pointer y0)∧w2.cell? ⟨b11,1,none⟩=some (.pointer y1)∧w2.cell? ⟨b11,2,none⟩=some (.pointer y2)∧w2.cell? ⟨b11,3,none⟩=some (.pointer y3)∧w2.cell? ⟨b11,4,none⟩=some (.pointer y4)∧w2.cell? ⟨b11,5,none⟩=some (.bool false)∧w2.cell? ⟨w.heap.size+1+1,0,none⟩=some (.int .i64 va.k)∧w2.cell? ⟨w.heap.size+1+1,1,none⟩=some (.int .i64 va.n)∧w2.cell? ⟨w.heap.size+1+1,2,none⟩=some (.float .f64 va.f)∧w2.cell? ⟨w.heap.size+1+1,3,none⟩=some (.string va.s)∧w2.cell? ⟨w.heap.size+1+1,4,none⟩=some (.slice p4 va.ks.length e4)∧w2.cell? ⟨w.heap.size+1+1,5,none⟩=some (.slice p5 va.l.length e5)∧w2.cell? ⟨w.heap.size+1+1+1,0,none⟩=some (.int .i64 vb.k)∧w2.cell? ⟨w.heap.size+1+1+1,1,none⟩=some (.int .i64 vb.n)∧w2.cell? ⟨w.heap.size+1+1+1,2,none⟩=some (.float .f64 vb.f)∧w2.cell? ⟨w.heap.size+1+1+1,3,none⟩=some (.string vb.s)∧w2.cell? ⟨w.heap.size+1+1+1,4,none⟩=some (.slice q4 vb.ks.length g4)∧w2.cell? ⟨w.heap.size+1+1+1,5,none⟩=some (.slice q5 vb.l.length g5):=⟨r1 0,r1 1,r1 2,r1 3,r1 4,r1 5,r1 6,r1 7,S3⟩
  refine hK.out _ _ S3 (fun hHeld=> ?_)
  clear hK K hHeld
  refine EK (S':=fun w'=>w'.cell? ⟨bo1,0,none⟩=some (Ab bl)∧w'.cell? ⟨bo1,1,none⟩=some (.pointer y0)∧w'.cell? ⟨bo1,2,none⟩=some (.pointer y1)∧w'.cell? ⟨bo1,3,none⟩=some (.pointer y2)∧w'.cell? ⟨bo1,4,none⟩=some (.pointer y3)∧w'.cell? ⟨bo1,5,none⟩=some (.pointer y4)∧w'.cell? ⟨bo1,6,none⟩=some (.bool false)∧w'.cell? ⟨bo1,7,none⟩=some (.pointer S)∧w'.cell? ⟨b11,0,none⟩=some (.pointer y0)∧w'.cell? ⟨b11,1,none⟩=some (.pointer y1)∧w'.cell? ⟨b11,2,none⟩=some (.pointer y2)∧w'.cell? ⟨b11,3,none⟩=some (.pointer y3)∧w'.cell? ⟨b11,4,none⟩=some (.pointer y4)∧w'.cell? ⟨b11,5,none⟩=some (.bool false)∧w'.cell? ⟨w.heap.size+1+1,0,none⟩=some (.int .i64 va.k)∧w'.cell? ⟨w.heap.size+1+1,1,none⟩=some (.int .i64 va.n)∧w'.cell? ⟨w.heap.size+1+1,2,none⟩=some (.float .f64 va.f)∧w'.cell? ⟨w.heap.size+1+1,3,none⟩=some (.string va.s)∧w'.cell? ⟨w.heap.size+1+1,4,none⟩=some (.slice p4 va.ks.length e4)∧w'.cell? ⟨w.heap.size+1+1,5,none⟩=some (.slice p5 va.l.length e5)∧w'.cell? ⟨w.heap.size+1+1+1,0,none⟩=some (.int .i64 vb.k)∧w'.cell? ⟨w.heap.size+1+1+1,1,none⟩=some (.int .i64 vb.n)∧w'.cell? ⟨w.heap.size+1+1+1,2,none⟩=some (.float .f64 vb.f)∧w'.cell? ⟨w.heap.size+1+1+1,3,none⟩=some (.string vb.s)∧w'.cell? ⟨w.heap.size+1+1+1,4,none⟩=some (.slice q4 vb.ks.length g4)∧w'.cell? ⟨w.heap.size+1+1+1,5,none⟩=some (.slice q5 vb.l.length g5)) (fun _ h=>h.2.2.2.2.2.2.2.2) _ _ _ _ ?_
  clear r1 e1 hb2 hbo1
  try simp only [Act.put,tka,tkb,tkc]
  refine tk 5 ?_
  try simp only [Act.put,tka,tkb,tkc]
  refine tk 6 ?_
  try simp only [Act.put,tka,tkb,tkc]
  refine wpAnyH_ready (rs:=[8]) (by kernel_rfl) (by simp) ?_
  refine AllReadyH.cons rfl (fun K hK=> ?_) AllReadyH.nil
  go_simp
  refine(HVB.out w2 (HIX.out.below (H1.out.1.tr H2.out.1))).mono ?_
  rintro _ w3 ⟨hb3,X3,rfl,hX3'⟩
  have hX3:RVal (At w3) (Ak vb) X3:=hX3'.mono (Imm.grow (HIX.out.below (H1.out.1.tr H2.out.1)) hb3)
  have H3:=Lib.hid (And.intro hb3 hX3)
  obtain⟨br,xr,rfl,_,_⟩:=hX3
  have T4:=keepB26 hb3 T3
  clear hb3 hX3'
  refine hK.out _ _ T4 (fun hHeld=> ?_)
  clear hK K
  try simp only [Act.put,tka,tkb,tkc]
  refine wpAnyH_ready (rs:=[11]) (by kernel_rfl) (by simp) ?_
  refine AllReadyH.cons rfl (fun K hK=> ?_) AllReadyH.nil
  go_simp
  refine(HAT.out br w3).mono ?_
  rintro _ w4 ⟨hb4,bo2,rfl,hlo2,hbo2⟩
  have H4:Hid (Bw w3 w4∧w4.heap[bo2]?=some (B9 (Ab br) ⟨y0,y1,y2,y3,y4⟩ S)):=And.intro hb4 hbo2
  have T5:=keepB26 hb4 T4
  have HP4:=Lib.hid (asis_prep HSR.out H1.out H2.out.1 H3.out H4.out.1 hta htb)
  clear hb4 hbo2
  refine hK.out _ _ T5 (fun hHeld=> ?_)
  clear hK K
  try simp only [Act.put,tka,tkb,tkc]
  refine wpAnyH_ready (rs:=[12]) (by kernel_rfl) (by simp) ?_
  refine AllReadyH.cons rfl (fun K hK=> ?_) AllReadyH.nil
  go_simp
  refine(HTQ.out bo2 bl br w4 HP4.out H4.out.2).mono ?_
  rintro _ w5 ⟨hb5,bC,b0,bM,b2,rfl,hC,h00,h22,hmod⟩
  have H5:=Lib.hid (And.intro hb5 (And.intro hC (And.intro h00 (And.intro h22 hmod))))
  have T6:=keepB26 hb5 T5
  unfold CT at hC
  clear hb5 h00 h22 hmod
  refine hK.out _ _ T6 (fun hHeld=> ?_)
  clear hK K
  try simp only [Act.put,tka,tkb,tkc]
  refine tk 13 ?_
  try simp only [Act.put,tka,tkb,tkc]
  refine tk 14 ?_
  try simp only [Act.put,tka,tkb,tkc]
  refine tk 15 ?_
  try simp only [Act.put,tka,tkb,tkc]
  refine tk 16 ?_
  try simp only [Act.put,tka,tkb,tkc]
  refine tk 17 ?_
  try simp only [Act.put,tka,tkb,tkc]
  refine wpAnyH_done (by kernel_rfl) ?_ _
  clear hHeld T3 T4 T5 T6 S0 S1 S2 S3
  obtain⟨r5,e5'⟩:=A1 hC
  have hlb5:=A0 hC
  clear hC
  go_upto_region 5 with(fail)
  have Z0:w5.cell? ⟨bC,0,none⟩=some (.pointer (some ⟨b0,0,none⟩))∧w5.cell? ⟨bC,1,none⟩=some (.pointer (some ⟨bM,0,none⟩))∧w5.cell? ⟨bC,2,none⟩=some (.pointer (some ⟨b2,0,none⟩)):=⟨r5 0,r5 1,r5 2⟩
  have Z1:w5.drew.cell? ⟨bC,0,none⟩=some (.pointer (some ⟨b0,0,none⟩))∧w5.drew.cell? ⟨bC,1,none⟩=some (.pointer (some ⟨bM,0,none⟩))∧w5.drew.cell? ⟨bC,2,none⟩=some (.pointer (some ⟨b2,0,none⟩)):=Z0
  have HB5:=Lib.hid ((((((HSR.out.1).tr H1.out.1).tr H2.out.1).tr H3.out.1).tr H4.out.1).tr H5.out.1)
  have hneC:¬bC=w.heap.size+1+1+1+1:=by
   intro e
   have h1:=A2 HB5.out HZ.out.2.2.2.2.2.2
   rw [←e,H5.out.2.1]at h1
   simp [CT,dbox]at h1
  have HE0:=Lib.hid (fun(w':World) (h:w'.heap=w5.heap)=>fromSet0_c b0 w' (by rw [h];exact H5.out.2.2.1))
  clear r5 e5'
  go_region_held3 (fun w'=>w'.cell? ⟨bC,0,none⟩=some (.pointer (some ⟨b0,0,none⟩))∧w'.cell? ⟨bC,1,none⟩=some (.pointer (some ⟨bM,0,none⟩))∧w'.cell? ⟨bC,2,none⟩=some (.pointer (some ⟨b2,0,none⟩)))
   (first|(with_reducible exact Z0)|(with_reducible exact Z1)|(with_reducible exact Z2)|(with_reducible exact Z3)|(with_reducible exact Z4)|exact keepO3 hneC Z4 _ rfl|go_keep)
   (first
    |(go_at_call 38;(with_reducible refine(fromSet0_c b2 w7 (A2 ((H6.out).tr H7.out.1) H5.out.2.2.2.1)).mono ?_);rintro _ w8 ⟨rfl,hb8⟩;have H8:Hid (Bw w7 w8):=hb8;have Z4:=keepB3 hb8 Z3;have hob:=A2 (((HB5.out.tr H6.out).tr H7.out.1).tr H8.out) HZ.out.2.2.2.2.2.2;have HOB:=Lib.hid hob;unfold dbox at hob;obtain⟨q,f⟩:=A1 hob;have hlo:=A0 hob;clear hb8 hob)
    |(go_at_call 38;(with_reducible refine(fromSetM_c w4.heap.size bM key (eqJ u t) w6 hks (H5.out.2.2.2.2.bw H6.out)).mono ?_);rintro _ w7 ⟨hb7,v1,rfl,hp1⟩;have H7:=Lib.hid (And.intro hb7 hp1);obtain⟨av1,cv1,rfl,_⟩:=hp1;have Z3:=keepB3 hb7 Z2;clear hb7)
    |(go_at_call 38;refine(HE0.out _ (by exact rfl)).mono ?_;rintro _ w6 ⟨rfl,hb6⟩;have H6:Hid (Bw w5 w6):=(by first|with_reducible exact hb6|exact Bw.rfl.dr.tr hb6);have Z2:=keepB3 H6.out Z0;clear hb6))
  all_goals
   clear Z0 Z1 Z2 Z3 Z4
   go_wp2_with fail
   refine bodyPost_ret (v:= .tuple #[.agg #[.slice none 0 0, .slice av1 (modP key (eqJ u t)).length cv1, .slice none 0 0], .bool true]) (by simp [results,Tryz.results15,go_sem,q]) rfl ?_
   have hsz:=HZ.out.2.1
   have hb:=(((HZ.out.1.tr HB5.out).tr H6.out).tr H7.out.1).tr H8.out
   have h78:=H8.out
   refine⟨?_,_,rfl,H7.out.2.mono fun k o e=> ?_⟩
   ·repeat with_reducible (first|exact hb|refine Bw.set ?_ (by omega) _ _)
   ·unfold A6 at e
    show(World.heap _)[k]?=some o
    have hs6:=HB5.out.size
    have hs7:=H6.out.size
    by_cases hk:k<w6.heap.size
    ·rw [if_pos hk]at e
     cases e
    ·rw [if_neg hk]at e
     have hk1:¬k=w.heap.size+1+1+1+1:=by omega
     repeat rw [Ag _ _ _ _ _ hk1]
     exact A2 h78 e
end
section
open Go Go.RowKit
abbrev zeroElem:Value:= .agg #[.int .i64 0, .string ⟨#[]⟩, .slice none 0 0, .slice none 0 0, .int .i64 0, .int .i64 0, .float .f64 0, .string ⟨#[]⟩, .slice none 0 0, .slice none 0 0, .int .i64 0]
theorem make_elems1 (w:World):(Instr.makeSlice 112 (.int .i64 0) (.int .i64 1)).run Tryz.prog w= .ok (.slice (some ⟨w.heap.size,0,none⟩) 0 1) (w.alloc (.cells (madeCells zeroElem.cells (1 * 11)) 110)):=by
 obtain⟨i,hi,hz,hs,hb⟩:=info_parts info_elem
 have:=run_make (P:=Tryz.prog) w 112 110 i zeroElem und_elems hi hz .i64 .i64 0 1 (by omega) (by omega) (by rw [hb];omega) (by omega)
 simpa [hs,Value.cells]using this
theorem cleanElem_c (key:ByteArray)(x2 x3 y4 y5:Value)(w:World):Calls Tryz.prog 130 #[Dl (Bs key) x2 x3 y4 y5] w (Pur w (D7 key)):=by
 unfold Dl Bs
 simp only [Ay]
 go_enter Tryz.func130,Tryz.ntmps130
 go_wp2_with fail
 refine bodyPost_ret (v:=D7 key) (by simp [results,Tryz.results130,go_sem,D7]) rfl ⟨rfl, ?_⟩
 repeat with_reducible (first|exact Am|refine Bw.set ?_ (by omega) _ _)
theorem cleanPath_c (key:ByteArray)(H:Hp)(x:Value)(w:World)(hi:Imm H w)(hv:EA H [Bs key] x):
  Calls Tryz.prog 104 #[x] w (fun e w'=>Bw w w'∧∃v,e= .returned v∧w'.ownsRow w.heap.size 110 11 v 1 (Br key)):=by
 obtain⟨ax,cx,rfl,_,_,hcx,hax⟩:=hv
 have HI:=Lib.hid hi
 have HA:=Lib.hid hax
 obtain⟨bA,oA,_,_,_,_,_,_,_,_,rfl,_⟩:=hax.look hi (j:=0) (by simp)
 clear hax
 have h1x:(1:Nat)≤cx:=by simpa using hcx
 clear hcx
 simp only [List.length_cons,List.length_nil,Nat.zero_add]
 have hmk:=make_elems1
 go_enter Tryz.func104,Tryz.ntmps104
 go_wp2_with fail
 clear hmk
 go_loopw [3,11] (fun v i wr=>Bw w wr∧((i= .int .i64 0∧wr.ownsRow w.heap.size 110 11 v 0 [])∨(i= .int .i64 1∧wr.ownsRow w.heap.size 110 11 v 1 (Br key)))) (fun _ i _=>1 - (intOf i).toNat)
 case atStart=>
  refine⟨A5, .inl ⟨rfl, ?_⟩⟩
  have:=World.ownsRow_made w (e:=110) (size:=11) (madeCells zeroElem.cells (1 * 11)) 1 (base:=w.heap.size) (by simp) (by unfold maxLen;omega) (by simp [size_madeCells,Value.cells])
  simpa [Value.cells]using this
 case round=>
  rename_i wr
  obtain⟨hb,h⟩:=hrel
  have hiq:=HI.out.below hb
  rcases h with⟨rfl,ho⟩|⟨rfl,ho⟩
  ·obtain⟨ao,co,rfl⟩:=Aj ho
   have HO:=Lib.hid (And.intro hb ho)
   obtain⟨_,_,a2,c2,a3,c3,a4,c4,a5,c5,e1,hE,i0,i1,i2,i3,i4,i5,i6,i7,i8,i9,i10⟩:=HA.out.look hiq (j:=0) (by simp)
   cases e1
   simp only [Nat.zero_mul,Nat.add_zero,List.getElem_cons_zero]at i0 i1 i2 i3 i4 i5 i6 i7 i8 i9 i10 hE
   have CC:=Lib.hid (fun w0=>cleanElem_c key (.slice a2 (Bs key).ks.length c2) (.slice a3 (Bs key).l.length c3) (.slice a4 (Bs key).v.ks.length c4) (.slice a5 (Bs key).v.l.length c5) w0)
   unfold Dl at CC
   clear hb ho hE
   go_wp2_with fail
   refine(CC.out _).mono ?_
   rintro _ w1 ⟨rfl,hb1⟩
   have HB1:=Lib.hid (A5.tr hb1:Bw wr w1)
   unfold D7
   clear i0 i1 i2 i3 i4 i5 i6 i7 i8 i9 i10 hb1 CC
   have hsz:=HO.out.1.size
   have hs1:=HB1.out.size
   go_wp2_with (at_builtin;refine AF _ rfl (.tmp 15) (.tmp 18) 112 rfl w.heap.size 110 _ 11 168 und_elems info_elem rfl (by decide) (by decide) (.slice ao 0 co) 0 [] rfl (Cq HO.out.2 (HB1.out.tr A5)) w1.heap.size _ 110 rfl A4 rfl (by simp [Value.oneCell']) (by unfold lim;omega) (by simp;omega) ?_)
   intro v' w2 ho2 hg2 hwh2
   obtain⟨ao2,co2,rfl⟩:=Aj ho2
   have HP2:=Lib.hid (And.intro ho2 hg2)
   clear ho2 hg2 hwh2
   go_wp2_with fail
   go_roundw
   case rel=>exact⟨Bi ((HO.out.1.tr HB1.out).al _) HP2.out.2 (fun k hk=>(HO.out.2.lt k hk).1), .inr ⟨by go_num,HP2.out.1⟩⟩
   case measure=>simp [intOf]
  ·obtain⟨ao,co,rfl⟩:=Aj ho
   have HO:=Lib.hid (And.intro hb ho)
   clear hb ho
   go_wp2_with fail
   go_ret
   exact⟨HO.out.1,_,rfl,HO.out.2⟩
theorem place0_c (a:Option Addr)(n:Nat)(c:Nat)(b:Option Addr)(m:Nat)(d:Nat)(hn:n=0)(w:World):
  Calls Tryz.prog 103 #[.slice a n c, .slice b m d] w (fun e w'=>e= .returned (.tuple #[.int .i64 0, .bool false])∧w'=w):=by
 subst hn
 go_enter Tryz.func103,Tryz.ntmps103
 go_wp2_with fail
 go_loopw [6,7] (fun i k wr=>i= .int .i64 0∧k= .int .i64 0∧wr=w) (fun _ _ _=>0)
 case atStart=>exact⟨rfl,rfl,rfl⟩
 case round=>
  obtain⟨rfl,rfl,rfl⟩:=hrel
  go_wp2_with fail
  go_ret2
  exact⟨rfl,rfl⟩
theorem row1 {w:World}{base E:Nat}{v u:Value}(ho:w.ownsRow base E 1 v 1 ([]++[u])):∃g c cur,v= .slice (some ⟨g,0,none⟩) 1 c∧base≤g∧w.heap[g]?=some (.cells cur E)∧1≤c∧c≤maxLen∧cur.size=c:=by
 rcases ho.2 with⟨_,h⟩|⟨g,c,cur,rfl,hgl,hg,hc1,hm,hcs,htk⟩
 ·cases h
 ·exact⟨g,c,cur,rfl,hgl,hg,hc1,hm,by simpa using hcs⟩
theorem row1_set {w:World}{base E g c:Nat}{cur:Array Value}{u:Value}(hgl:base≤g)(hg:w.heap[g]?=some (.cells cur E))(hc1:1≤c)(hm:c≤maxLen)(hcs:cur.size=c):(w.setCell ⟨g,0,none⟩ u).ownsRow base E 1 (.slice (some ⟨g,0,none⟩) 1 c) 1 [u]:=by
 refine⟨by simp, .inr ⟨g,c,cur.setIfInBounds 0 u,rfl,hgl,Ae hg 0 u,hc1,hm,by simpa using hcs, ?_⟩⟩
 have h0:0<cur.toList.length:=by simp;omega
 rw [Array.toList_setIfInBounds]
 cases h:cur.toList with
 |nil=>rw [h]at h0;simp at h0
 |cons a l=>simp
theorem setOf1_c (key:ByteArray)(H:Hp)(x:Value)(w:World)(hi:Imm H w)(hv:Bz H [[Bs key]] x):
  Calls Tryz.prog 75 #[x] w (fun e w'=>Bw w w'∧∃v,e= .returned v∧Dw w' w.heap.size v key):=by
 obtain⟨ax,cx,rfl,_,_,hcx,hax⟩:=hv
 have HI:=Lib.hid hi
 have HA:=Lib.hid hax
 obtain⟨bA,oA,_,_,rfl,_⟩:=hax.look hi (j:=0) (by simp)
 clear hax
 have h1x:(1:Nat)≤cx:=by simpa using hcx
 clear hcx
 simp only [List.length_cons,List.length_nil,Nat.zero_add]
 go_enter Tryz.func75,Tryz.ntmps75
 go_wp2_with fail
 go_loopw [3,10] (fun v i wr=>Bw w wr∧((i= .int .i64 0∧v= .slice none 0 0)∨(i= .int .i64 1∧Dw wr w.heap.size v key))) (fun _ i _=>1 - (intOf i).toNat)
 case atStart=>exact⟨Bw.rfl, .inl ⟨rfl,rfl⟩⟩
 case round=>
  rename_i wr
  obtain⟨hb,h⟩:=hrel
  have hiq:=HI.out.below hb
  rcases h with⟨rfl,rfl⟩|⟨rfl,hp⟩
  ·have HB:=Lib.hid hb
   obtain⟨_,_,ap,cp,e1,hP,i0⟩:=HA.out.look hiq (j:=0) (by simp)
   cases e1
   simp only [Nat.add_zero,List.getElem_cons_zero,List.length_cons,List.length_nil,Nat.zero_add]at i0 hP
   have HP:=Lib.hid (And.intro hiq hP)
   clear hb hP
   go_wp2_with fail
   refine(place0_c _ _ _ _ _ _ rfl wr).mono ?_
   rintro _ w1 ⟨rfl,rfl⟩
   go_wp2_with (at_builtin;refine AF _ rfl (.tmp 24) (.tmp 25) 53 rfl w1.heap.size 112 _ 1 24 Fb info_ipath rfl (by decide) (by decide) (.slice none 0 0) 0 [] rfl (World.ownsRow_nil _ _ _ _) w1.heap.size _ _ rfl A4 rfl (by simp [Value.oneCell']) (by unfold lim;omega) (by simp) ?_)
   intro v' w2 ho2 hg2 hwh2
   obtain⟨g,c,cur,rfl,hgl,hg,hc1,hm,hcs⟩:=row1 ho2
   have HP2:=Lib.hid (And.intro ho2 (And.intro hg2 (And.intro hg (And.intro hc1 (And.intro hm hcs)))))
   clear ho2 hg2 hwh2 hg hm hcs i0
   have hgs:g<w2.heap.size:=A0 HP2.out.2.2.1
   have HG:=Lib.hid (And.intro hgl hgs)
   go_upto_region 9 with(fail)
   rcases Decidable.em (c=1)with hcc|hcc
   all_goals
    (try subst hcc)
    have hw1:IntKind.i64.wrap 1=1:=by decide
    have hcn:∀d dc b e W,(Builtin.copy_ #[53,53] 3 #[.slice d 0 dc, .slice b 1 e]).run Tryz.prog W= .ok (goInt 0) W:=fun d dc b e W=>run_copy_none W _ _ _ 112 d b 0 dc 1 e Fb (by kernel_rfl) (by simp)
    go_region_law
     (first
      |fail)
    all_goals
     have HBW:=Lib.hid (Bi (Bw.rfl.al _) HP2.out.2.1 (fun k hk=>by simp [Value.ownBlock]at hk):Bw w1 w2)
     clear hw1 hcn
     go_wp2_with fail
     refine(cleanPath_c key H _ _ ((HP.out.1.below HBW.out).below Bw.rfl.dr) HP.out.2).mono ?_
     rintro _ w3 ⟨hb3',v3,rfl,ho3⟩
     have hb3:Bw w2 w3:=Bw.rfl.dr.tr hb3'
     have ho3:=DT ho3 (B:=w2.heap.size) (by simp)
     obtain⟨av3,cv3,rfl⟩:=Aj ho3
     have H3:=Lib.hid (And.intro hb3 ho3)
     have hbg:=A2 hb3 HP2.out.2.2.1
     obtain⟨q,f⟩:=A1 hbg
     have hlg:=A0 hbg
     have q0:=q 0
     have hq0:cur[0]?=some (cur[0]'(by have:=HP2.out.2.2.2.2.2;omega)):=Array.getElem?_eq_getElem _
     rw [hq0]at q0
     clear hb3' hb3 ho3 hbg q hq0
     go_wp2_with fail
     go_roundw
     case rel=>
      have hs0:=HB.out.size
      refine⟨((HB.out.tr HBW.out).tr H3.out.1).set (by omega) 0 _, .inr ⟨by go_num,_,row1_set (by omega) (A2 H3.out.1 HP2.out.2.2.1) HP2.out.2.2.2.1 HP2.out.2.2.2.2.1 HP2.out.2.2.2.2.2, ?_⟩⟩
      exact DT (Bj H3.out.2 HG.out.2) (by have:=HBW.out.size;omega)
     case measure=>simp [intOf]
  ·have HP:=Lib.hid (And.intro hb hp)
   obtain⟨u,ho,_⟩:=hp
   obtain⟨ao,co,rfl⟩:=Aj ho
   clear hb ho
   go_wp2_with fail
   go_ret
   exact⟨HP.out.1,_,rfl,HP.out.2⟩
end
section
open Go Go.RowKit
def DC:Option ByteArray→List (List GE)
 |none=>[]
 |some k=>[[Bs k]]
def sameO:Option ByteArray→Option ByteArray→Bool
 |none,none=>true
 |some a,some b=>a.toList==b.toList
 |_,_=>false
theorem hle_E0 {w w':World}:Hle (A6 E0 w w') (At w'):=fun k o e=>by
 unfold A6 at e;split at e
 ·cases e
 ·exact e
theorem setOf0_c (a:Option Addr)(c:Nat)(w:World):Calls Tryz.prog 75 #[.slice a 0 c] w (Pur w (.slice none 0 0)):=by
 go_enter Tryz.func75,Tryz.ntmps75
 go_wp2_with fail
 go_loopw [3,10] (fun v i wr=>v= .slice none 0 0∧i= .int .i64 0∧wr=w) (fun _ _ _=>0)
 case atStart=>exact⟨rfl,rfl,rfl⟩
 case round=>
  obtain⟨rfl,rfl,rfl⟩:=hrel
  go_wp2_with fail
  go_ret
  exact⟨rfl,Bw.rfl⟩
theorem setOf_c (o:Option ByteArray)(H:Hp)(x:Value)(w:World)(hi:Imm H w)(hv:Bz H (DC o) x):
  Calls Tryz.prog 75 #[x] w (fun e w'=>Bw w w'∧∃v,e= .returned v∧Bz (At w') (DC o) v):=by
 cases o with
 |none=>
  obtain⟨a,c,rfl,_⟩:=hv
  refine(setOf0_c a c w).mono ?_
  rintro _ w1 ⟨rfl,hb⟩
  exact⟨hb,_,rfl,Bz.nil⟩
 |some key=>
  have hk:key.size≤lim:=by
   obtain⟨ax,cx,rfl,_,_,hcx,hax⟩:=hv
   obtain⟨_,_,ap,cp,rfl,hP,_⟩:=hax.look hi (j:=0) (by simp [DC])
   obtain⟨ay,cy,e,_,_,_,hay⟩:=hP
   obtain⟨_,_,_,_,_,_,_,_,_,_,rfl,hE,_⟩:=hay.look hi (j:=0) (by simp [DC])
   exact hE.2.2.1
  refine(setOf1_c key H x w hi hv).mono ?_
  rintro _ w1 ⟨hb,v,rfl,hp⟩
  exact⟨hb,_,rfl,(paths1 hp hk).mono hle_E0⟩
theorem listedNe_c (a:Option Addr)(n c:Nat)(b:Option Addr)(m d:Nat)(hn:n≤1)(hm:m≤1)(h:n≠m)(w:World):Calls Tryz.prog 74 #[.slice a n c, .slice b m d] w (Pur w (.bool false)):=by
 have h1:¬(n:Int)=(m:Int):=by omega
 have h2:n≤4294967296:=by omega
 have h3:m≤4294967296:=by omega
 clear hn hm h
 go_enter Tryz.func74,Tryz.ntmps74
 go_wp2_with fail
 go_ret
 exact⟨rfl,Bw.rfl⟩
theorem listed0_c (a:Option Addr)(c:Nat)(b:Option Addr)(d:Nat)(w:World):Calls Tryz.prog 74 #[.slice a 0 c, .slice b 0 d] w (Pur w (.bool true)):=by
 go_enter Tryz.func74,Tryz.ntmps74
 go_wp2_with fail
 go_loopw [13] (fun i wr=>i= .int .i64 0∧wr=w) (fun _ _=>0)
 case atStart=>exact⟨rfl,rfl⟩
 case round=>
  obtain⟨rfl,rfl⟩:=hrel
  go_wp2_with fail
  go_ret
  exact⟨rfl,Bw.rfl⟩
theorem listed1_c (a b:ByteArray)(H:Hp)(x y:Value)(w:World)(hi:Imm H w)(hv:Bz H [[Bs a]] x)(hu:Bz H [[Bs b]] y):
  Calls Tryz.prog 74 #[x,y] w (Pur w (.bool (a.toList==b.toList))):=by
 obtain⟨ax,cx,rfl,_,_,hcx,hax⟩:=hv
 obtain⟨ay,cy,rfl,_,_,hcy,hay⟩:=hu
 have HI:=Lib.hid hi
 have HA:=Lib.hid (And.intro hax hay)
 obtain⟨bA,oA,_,_,rfl,_⟩:=hax.look hi (j:=0) (by simp)
 obtain⟨bB,oB,_,_,rfl,_⟩:=hay.look hi (j:=0) (by simp)
 clear hi hax hay
 have h1x:(1:Nat)≤cx:=by simpa using hcx
 have h1y:(1:Nat)≤cy:=by simpa using hcy
 clear hcx hcy
 simp only [List.length_cons,List.length_nil,Nat.zero_add]
 go_enter Tryz.func74,Tryz.ntmps74
 go_wp2_with fail
 go_loopw [13] (fun i wr=>((i= .int .i64 0)∨(i= .int .i64 1∧Hid ((a.toList==b.toList)=true)))∧Bw w wr) (fun i _=>1 - (intOf i).toNat)
 case atStart=>exact⟨Or.inl rfl,Bw.rfl⟩
 case round=>
  obtain⟨hj,hb⟩:=hrel
  have HB:=Lib.hid hb
  have hiq:=HI.out.below hb
  obtain⟨wq,hwq⟩:∃x:World,x=wr:=⟨_,rfl⟩
  rw [←hwq]at HB hiq⊢
  clear hwq hb
  rcases hj with rfl|⟨rfl,HT⟩
  ·obtain⟨_,_,ap,cp,e1,hP,i0⟩:=HA.out.1.look hiq (j:=0) (by simp)
   cases e1
   obtain⟨_,_,ap2,cp2,e1,hP',j0⟩:=HA.out.2.look hiq (j:=0) (by simp)
   cases e1
   simp only [Nat.zero_mul,Nat.add_zero,List.getElem_cons_zero,List.length_cons,List.length_nil,Nat.zero_add]at i0 j0 hP hP'
   have CP:=fun d os=>Calls.regrown_of (equalPaths1_c (Bs a) (Bs b) rfl rfl H _ _ (Go.Sort.grow (redrawn wq d) os) (hiq.below (below_regrown wq d os)) hP hP')
   have ea:(Bs a).s=a:=rfl
   have eb:(Bs b).s=b:=rfl
   rw [ea,eb]at CP
   have I0:=cell_regrown i0
   have J0:=cell_regrown j0
   clear i0 j0 hP hP' ea eb
   cases hq:(a.toList==b.toList)
   all_goals
    have HQ:=Lib.hid hq
    rw [hq]at CP
    clear hq
    go_wp2_with fail
    refine wp_region_quiet_below (by kernel_rfl) (by kernel_rfl) ?_
    repeat (go_big_quiet_step (exact CP _ _))
    refine wpQuiet_nil ?_
    intro _ hw'
    obtain⟨⟨dq,osq⟩,hw''⟩:=hw'
    subst hw''
    obtain⟨wn,hwn,hw'⟩:∃x,Bw wq x∧x=Go.Sort.grow (redrawn wq dq) osq:=⟨_,below_regrown _ _ _,rfl⟩
    rw [←hw']
    clear hw'
    go_wp2_with fail
   ·go_ret
    exact⟨rfl,HB.out.tr hwn⟩
   ·go_roundw
    case rel=>exact⟨Or.inr ⟨rfl,by first|exact HQ|exact True.intro⟩,HB.out.tr hwn⟩
    case measure=>simp [intOf]
  ·go_wp2_with fail
   go_ret
   exact⟨AQ (by rw [HT.out]),HB.out⟩
theorem listed_c (o1 o2:Option ByteArray)(H:Hp)(x y:Value)(w:World)(hi:Imm H w)(hv:Bz H (DC o1) x)(hu:Bz H (DC o2) y):
  Calls Tryz.prog 74 #[x,y] w (Pur w (.bool (sameO o1 o2))):=by
 cases o1<;>cases o2
 ·obtain⟨a,c,rfl,_⟩:=hv
  obtain⟨b,d,rfl,_⟩:=hu
  exact listed0_c a c b d w
 ·obtain⟨a,c,rfl,_⟩:=hv
  obtain⟨b,d,rfl,_⟩:=hu
  exact listedNe_c a _ c b _ d (by simp [DC]) (by simp [DC]) (by simp [DC]) w
 ·obtain⟨a,c,rfl,_⟩:=hv
  obtain⟨b,d,rfl,_⟩:=hu
  exact listedNe_c a _ c b _ d (by simp [DC]) (by simp [DC]) (by simp [DC]) w
 ·exact listed1_c _ _ H x y w hi hv hu
theorem equalSets_c (o1 o2:Option ByteArray)(H:Hp)(x y:Value)(w:World)(hi:Imm H w)(hv:Bz H (DC o1) x)(hu:Bz H (DC o2) y):
  Calls Tryz.prog 45 #[x,y] w (Pur w (.bool (sameO o1 o2))):=by
 have HI:=Lib.hid hi
 have H1:=Lib.hid (And.intro hv hu)
 obtain⟨a,c,rfl,_⟩:=hv
 obtain⟨b,d,rfl,_⟩:=hu
 clear hi
 go_enter Tryz.func45,Tryz.ntmps45
 go_wp2_with fail
 refine(setOf_c o1 H _ w HI.out H1.out.1).mono ?_
 rintro _ w1 ⟨hb1,v1,rfl,hp1⟩
 have H2:=Lib.hid (And.intro hb1 hp1)
 obtain⟨a1,c1,rfl,_⟩:=hp1
 clear hb1
 go_wp2_with fail
 refine(setOf_c o2 H _ w1 (HI.out.below H2.out.1) H1.out.2).mono ?_
 rintro _ w2 ⟨hb2,v2,rfl,hp2⟩
 have H3:=Lib.hid (And.intro hb2 hp2)
 obtain⟨a2,c2,rfl,_⟩:=hp2
 clear hb2
 go_wp2_with fail
 refine(listed_c o1 o2 (At w2) _ _ w2 (Imm.self w2) (H2.out.2.mono (AG H3.out.1)) H3.out.2).mono ?_
 rintro _ w3 ⟨rfl,hb3⟩
 have H4:=Lib.hid hb3
 clear hb3
 go_wp2_with fail
 go_ret
 exact⟨rfl,(H2.out.1.tr H3.out.1).tr H4.out⟩
end
section
open Go Go.RowKit
theorem optP_len (o:Option ByteArray):(DC o).length=if o.isSome then 1 else 0:=by cases o<;>rfl
theorem lists_c (o1 o2:Option ByteArray)(H:Hp)(x y:Value)(w:World)(hi:Imm H w)(hv:Bz H (DC o1) x)(hu:Bz H (DC o2) y):
  Calls Tryz.prog 20 #[x,y] w (Pur w (.bool (sameO o1 o2))):=by
 have HC:=Lib.hid (equalSets_c o1 o2 H x y w hi hv hu)
 obtain⟨a,c,rfl,_⟩:=hv
 obtain⟨b,d,rfl,_⟩:=hu
 clear hi
 cases o1<;>cases o2
 all_goals
  simp only [DC,List.length_nil,List.length_cons,Nat.zero_add]at HC⊢
  go_enter Tryz.func20,Tryz.ntmps20
  go_wp2_with fail
 ·refine HC.out.mono ?_
  rintro _ w1 ⟨rfl,hb1⟩
  go_wp2_with fail
  go_ret
  exact⟨rfl,hb1⟩
 ·go_ret
  exact⟨rfl,Bw.rfl⟩
 ·go_ret
  exact⟨rfl,Bw.rfl⟩
 ·refine HC.out.mono ?_
  rintro _ w1 ⟨rfl,hb1⟩
  go_wp2_with fail
  go_ret
  exact⟨rfl,hb1⟩
theorem mapValue_c (w:World):Calls Tryz.prog 13 #[] w (Pur w (.agg #[.int .i64 6, .int .i64 0, .float .f64 0, .string ⟨#[]⟩, .slice none 0 0, .slice none 0 0])):=by
 go_enter Tryz.func13,Tryz.ntmps13
 go_wp2_with fail
 refine bodyPost_ret (v:= .agg #[.int .i64 6, .int .i64 0, .float .f64 0, .string ⟨#[]⟩, .slice none 0 0, .slice none 0 0]) (by simp [results,Tryz.results13,go_sem]) rfl ⟨rfl, ?_⟩
 repeat with_reducible (first|exact A5|refine Bw.set ?_ (by omega) _ _)
theorem fieldElem_c (key:ByteArray)(w:World):Calls Tryz.prog 41 #[.string key] w (Pur w (D7 key)):=by
 go_enter Tryz.func41,Tryz.ntmps41
 go_wp2_with fail
 refine bodyPost_ret (v:=D7 key) (by simp [results,Tryz.results41,go_sem,D7]) rfl ⟨rfl, ?_⟩
 repeat with_reducible (first|exact A5|refine Bw.set ?_ (by omega) _ _)
def DZ (a:Ap):Bool:=match a.ma with
 |m::_=>m.rel.toList==An
 |[]=>match a.li with
  |l::_=>l.rel.toList==An
  |[]=> !a.sc.toList.isEmpty
theorem atomicOrScalar_c (a:Ap)(H:Hp)(x1 x2:Value)(w:World)(hi:Imm H w)(ha:BQ H a x1 x2):Calls Tryz.prog 10 #[.agg #[.string a.sc,x1,x2]] w (Pur w (.bool (DZ a))):=by
 obtain⟨_,⟨a1,c1,rfl,_,hl1,hc1,hli⟩,⟨a2,c2,rfl,_,hl2,hc2,hma⟩⟩:=Bd.1 ha
 unfold lim at hl1 hl2
 clear ha
 have hiw:=hi.below (A5 (w:=w) (o:= .cells #[.string a.sc, .slice a1 a.li.length c1, .slice a2 a.ma.length c2] 28))
 rcases a with⟨sc,li,ma⟩
 simp only at *
 rcases ma with _|⟨m,mr⟩
 ·rcases li with _|⟨l,lr⟩
  ·go_enter Tryz.func10,Tryz.ntmps10
   cases hs:sc.toList.isEmpty
   all_goals
    go_wp2_with fail
    go_ret
    exact⟨AQ (by simp [DZ,hs]),A5⟩
  ·obtain⟨b,o,y1,d1,y2,d2,yk,dk,rfl,_,i0,i1,i2,i3,i4,i5,i6,i7⟩:=hli.look0 hiw
   have hn0:0<(l::lr).length:=by simp
   generalize (l::lr).length=n at hn0 hl1 hc1 i6 hiw⊢
   clear hi hiw hli hma i0 i1 i2 i3 i4 i5 i7
   simp only [List.length_nil]at i6
   have hn1:(0:Int)<(n:Int):=by omega
   go_enter Tryz.func10,Tryz.ntmps10
   cases hr:(l.rel.toList==An)
   all_goals
    have hr2:=hr
    unfold An at hr
    go_wp2_with fail
    go_ret
    exact⟨AQ (by simp [DZ,hr2]),A5⟩
 ·obtain⟨b,o,af,cf,y1,d1,y2,d2,rfl,_,i0,i1,i2,i3,i4,i5,i6,i7⟩:=hma.look0 hiw
  have hn0:0<(m::mr).length:=by simp
  generalize (m::mr).length=n at hn0 hl2 hc2 i7 hiw⊢
  clear hi hiw hli hma i0 i1 i2 i3 i4 i5 i6
  have hn1:(0:Int)<(n:Int):=by omega
  go_enter Tryz.func10,Tryz.ntmps10
  cases hr:(m.rel.toList==An)
  all_goals
   have hr2:=hr
   unfold An at hr
   go_wp2_with fail
   go_ret
   exact⟨AQ (by simp [DZ,hr2]),A5⟩
theorem own_elem1 {w:World}{lo g:Nat}{key:ByteArray}(h:w.heap[g]?=some (.cells (Br key).toArray 110))(hl:lo≤g):w.ownsRow lo 110 11 (.slice (some ⟨g,0,none⟩) 1 1) 1 (Br key):=
 ⟨by simp [Br], .inr ⟨g,1,(Br key).toArray,rfl,hl,h,Nat.le_refl _,by decide,by simp [Br],by simp [Br]⟩⟩
theorem fieldPaths1_c (key:ByteArray)(H:Hp)(x:Value)(w:World)(hi:Imm H w)(hv:Cv H [key] x):Calls Tryz.prog 17 #[x] w (fun e w'=>Bw w w'∧∃v,e= .returned v∧Bz (A6 E0 w w') [[Bs key]] v):=by
 obtain⟨ax,cx,rfl,_,_,hcx,hax⟩:=hv
 obtain⟨bA,oA,rfl,c0,hk⟩:=hax.look hi (j:=0) (by simp)
 have HI:=Lib.hid (And.intro c0 hk)
 have h1x:(1:Nat)≤cx:=by simpa using hcx
 clear hi hax hcx c0 hk
 simp only [List.length_cons,List.length_nil,Nat.zero_add]
 go_enter Tryz.func17,Tryz.ntmps17
 go_wp2_with fail
 go_loopw [3,8] (fun v i wr=>Bw w wr∧((i= .int .i64 0∧v= .slice none 0 0)∨(i= .int .i64 1∧Dw wr w.heap.size v key))) (fun _ i _=>1 - (intOf i).toNat)
 case atStart=>exact⟨Bw.rfl, .inl ⟨rfl,rfl⟩⟩
 case round=>
  rename_i wr
  obtain⟨hb,h⟩:=hrel
  rcases h with⟨rfl,rfl⟩|⟨rfl,hp⟩
  ·have HB:=Lib.hid hb
   have i0:=cell_later hb HI.out.1
   simp only [Nat.add_zero,List.getElem_cons_zero]at i0
   clear hb
   go_wp2_with fail
   refine(fieldElem_c key wr).mono ?_
   rintro _ w1 ⟨rfl,hb1⟩
   have H1:=Lib.hid hb1
   unfold D7
   clear hb1 i0
   go_wp2_with (at_builtin;refine AF _ rfl (.tmp 12) (.tmp 16) 53 rfl w1.heap.size 112 _ 1 24 Fb info_ipath rfl (by decide) (by decide) (.slice none 0 0) 0 [] rfl (World.ownsRow_nil _ _ _ _) (w1.heap.size+1) _ _ rfl BF rfl (by simp [Value.oneCell']) (by unfold lim;omega) (by simp;omega) ?_)
   intro v' w2 ho2 hg2 hwh2
   obtain⟨ao2,co2,rfl⟩:=Aj ho2
   have HP2:=Lib.hid (And.intro ho2 hg2)
   clear ho2 hg2 hwh2
   go_wp2_with fail
   go_roundw
   case rel=>
    obtain⟨ho2,hg2⟩:=HP2.out
    have h2:=hg2.block w1.heap.size (by simp;omega) (by simp [Value.ownBlock])
    have hs0:=HB.out.size
    have hs1:=H1.out.size
    refine⟨Bi (((HB.out.tr H1.out).al _).al _) hg2 (fun k hk=>by simp [Value.ownBlock]at hk), .inr ⟨by go_num,_,DT ho2 (by omega),own_elem1 ?_ (by omega)⟩⟩
    rw [h2];exact Cs
   case measure=>simp [intOf]
  ·have HP:=Lib.hid (And.intro hb hp)
   obtain⟨u,ho,_⟩:=hp
   obtain⟨ao,co,rfl⟩:=Aj ho
   clear hb ho
   go_wp2_with fail
   go_ret
   exact⟨HP.out.1,_,rfl,paths1 HP.out.2 HI.out.2⟩
end
section
open Go Go.RowKit
theorem Fj:∀{l:List JT},DD l=true→∀t ∈ l,Es t=true
 |[],_,t,h=>by simp at h
 |a::r,h,t,ht=>by
  simp only [DD,Bool.and_eq_true]at h
  rcases List.mem_cons.1 ht with rfl|ht
  ·exact h.1
  ·exact Fj h.2 t ht
theorem noNans_of:∀{l:List JT},(∀t ∈ l,Es t=true)→DD l=true
 |[],_=>rfl
 |a::r,h=>by simp only [DD,Bool.and_eq_true];exact⟨h a (by simp),noNans_of fun t ht=>h t (by simp [ht])⟩
theorem foldJ_noNan:∀(L:List (ByteArray × JT)) (ks:List ByteArray) (vs:List JT),DD vs=true→(∀p ∈ L,Es p.2=true)→Es (D3 L ks vs)=true
 |[],ks,vs,h,_=>by simpa only [D3,Es]using h
 |(k,t)::r,ks,vs,h,hp=>by
  simp only [D3]
  refine foldJ_noNan r _ _ (noNans_of fun x hx=> ?_) fun p hm=>hp p (by simp [hm])
  unfold putV at hx
  split at hx
  ·rcases List.mem_or_eq_of_mem_set hx with hx|rfl
   ·exact Fj h x hx
   ·exact hp (k,x) (by simp)
  ·rcases List.mem_append.1 hx with hx|hx
   ·exact Fj h x hx
   ·simp at hx;subst hx;exact hp (k,x) (by simp)
mutual
theorem ord_noNan:∀v:GV,ordV v=true→Es (Ak v)=true
 |⟨k,n,f,s,ks,l⟩,h=>by
  have ih:=ords_noNan l
  simp only [ordV]at h
  simp only [Ak]
  split
  ·rfl
  split
  ·rfl
  split
  ·rename_i h1 h2 h3
   subst h3
   simp only [Es,nanB]
   simpa using h
  split
  ·rfl
  split
  ·rename_i h1 h2 h3 h4 h5
   subst h5
   simp only [Es]
   exact ih (by simpa using h)
  split
  ·rename_i h1 h2 h3 h4 h5 h6
   subst h6
   refine foldJ_noNan _ _ _ rfl fun p hp=> ?_
   exact Fj (ih (by simpa using h)) _ (List.of_mem_zip hp).2
  ·rfl
theorem ords_noNan:∀l:List GV,Df l=true→DD (Cu l)=true
 |[],_=>rfl
 |v::r,h=>by
  simp only [Df,Bool.and_eq_true]at h
  simp only [Cu,DD,Bool.and_eq_true]
  exact⟨ord_noNan v h.1,ords_noNan r h.2⟩
end
mutual
theorem Fk:∀a:Ap,Er a=true→Bf a=true
 |⟨_,li,ma⟩,h=>by
  simp only [Er,Bool.and_eq_true]at h
  simp only [Bf,Bool.and_eq_true]
  exact⟨nn_ordLs li h.1,nn_ordMs ma h.2⟩
theorem nn_ordLs:∀l:List B3,ordLs l=true→nnLi l=true
 |[],_=>by simp only [nnLi]
 |⟨⟨named,_,atom,_⟩,_,_⟩::r,h=>by
  simp only [ordLs,Bool.and_eq_true]at h
  simp only [nnLi,Dt,Fk atom h.1,Bool.or_true]
theorem nn_ordMs:∀l:List Bp,ordMs l=true→nnMa l=true
 |[],_=>by simp only [nnMa]
 |⟨fields,⟨named,_,atom,_⟩,_⟩::r,h=>by
  simp only [ordMs,Bool.and_eq_true]at h
  simp only [nnMa,Dt,Fk atom h.1.2,nn_ordFs fields h.1.1,Bool.or_true,Bool.and_self]
theorem nn_ordFs:∀l:List Au,F4 l=true→nnFs l=true
 |[],_=>by simp only [nnFs]
 |⟨_,⟨named,_,atom,_⟩,[]⟩::r,h=>by
  simp only [F4,Bool.and_eq_true]at h
  simp only [nnFs,Dt,Fk atom h.1.2,nn_ordFs r h.2,Bool.or_true,Bool.and_self]
 |⟨_,⟨named,_,atom,_⟩,v::d⟩::r,h=>by
  simp only [F4,Df,Bool.and_eq_true]at h
  simp only [nnFs,Dt,Fk atom h.1.2,nn_ordFs r h.2,ord_noNan v h.1.1.1,Bool.or_true,Bool.and_self]
end
theorem nn_ref {r:As}(h:Er r.atom=true):Dt r=true:=by
 rcases r with⟨named,name,atom,rel⟩
 simp only [Dt,Fk atom h,Bool.or_true]
theorem lastD_some {s:List Ax}{name:ByteArray}{d:Ax}:∀{j:Nat},DW s name j=some d→∃i,∃h:i<s.length,s[i]=d∧d.name.toList=name.toList
 |0,h=>by simp [DW]at h
 |j+1,h=>by
  simp only [DW]at h
  split at h
  ·rename_i d' hd
   split at h
   ·rename_i hn
    cases h
    obtain⟨hl,e⟩:=List.getElem?_eq_some_iff.1 hd
    exact⟨j,hl,e,by simpa using hn⟩
   ·exact lastD_some h
  ·cases h
theorem lastD_none {s:List Ax}{name:ByteArray}:∀{j:Nat},j≤s.length→DW s name j=none→∀i (h:i<s.length),i<j→s[i].name.toList≠name.toList
 |0,_,_,i,h,hi=>by omega
 |j+1,hj,h,i,hl,hi=>by
  simp only [DW]at h
  rw [List.getElem?_eq_getElem (by omega)]at h
  simp only at h
  split at h
  ·cases h
  ·rename_i hn
   by_cases e:i=j
   ·subst e;simpa using hn
   ·exact lastD_none (by omega) h i hl (by omega)
theorem EF {a:Ap}{name:ByteArray}:∀{s:List Ax},C6 s name=some a→∃i,∃h:i<s.length,s[i].atom=a∧s[i].name.toList=name.toList
 |[],h=>by simp [C6]at h
 |d::r,h=>by
  simp only [C6]at h
  split at h
  ·rename_i hn
   cases h
   exact⟨0,by simp,rfl,by simpa using hn⟩
  ·obtain⟨i,hi,h1,h2⟩:=EF h
   exact⟨i+1,by simpa using hi,by simpa using h1,by simpa using h2⟩
theorem namedS_none {name:ByteArray}:∀{s:List Ax},C6 s name=none→∀i (h:i<s.length),s[i].name.toList≠name.toList
 |[],_,i,h=>by simp at h
 |d::r,h,i,hl=>by
  simp only [C6]at h
  split at h
  ·cases h
  ·rename_i hn
   rcases i with _|i
   ·simpa using hn
   ·simpa using namedS_none h i (by simpa using hl)
theorem defs_apart (s:List Ax):∀(r pre:List Ax),BK s pre r=true→r.Pairwise (fun a b=>a.name.toList≠b.name.toList)∧∀u ∈ pre,∀t ∈ r,u.name.toList≠t.name.toList
 |[],pre,_=>⟨List.Pairwise.nil,by simp⟩
 |t::r,pre,h=>by
  simp only [BK,Bool.and_eq_true,Bool.not_eq_true',List.any_eq_false]at h
  obtain⟨h1,h2⟩:=defs_apart s r _ h.2
  refine⟨List.pairwise_cons.2 ⟨fun b hb=>h2 t (by simp) b hb,h1⟩,fun u hu x hx=> ?_⟩
  rcases List.mem_cons.1 hx with rfl|hx
  ·simpa using h.1.1 u hu
  ·exact h2 u (by simp [hu]) x hx
theorem resolve_same {s:List Ax}(h:BK s [] s=true)(r:As):Av s r=AJ s r:=by
 have hp:=List.pairwise_iff_getElem.1 (defs_apart s s [] h).1
 have hne:∀i j (hi:i<s.length) (hj:j<s.length),s[i].name.toList=s[j].name.toList→i=j:=by
  intro i j hi hj e
  by_cases h1:i<j
  ·exact absurd e (hp i j hi hj h1)
  ·by_cases h2:j<i
   ·exact absurd e.symm (hp j i hj hi h2)
   ·omega
 have e:baseS s r=if r.named then C6 s r.name else some r.atom:=by
  unfold baseS
  cases r.named with
  |false=>rfl
  |true=>
   simp only [if_true]
   cases h1:DW s r.name s.length with
   |none=>
    cases h2:C6 s r.name with
    |none=>rfl
    |some a=>
     obtain⟨i,hi,_,e2⟩:=EF h2
     exact absurd e2 (lastD_none (Nat.le_refl _) h1 i hi hi)
   |some d=>
    obtain⟨i,hi,e1,e2⟩:=lastD_some h1
    cases h2:C6 s r.name with
    |none=>subst e1;exact absurd e2 (namedS_none h2 i hi)
    |some a=>
     obtain⟨k,hk,e3,e4⟩:=EF h2
     subst e1
     have:=hne i k hi hk (e2.trans e4.symm)
     subst this
     simp [e3]
 unfold Av AJ
 rw [e]
 generalize (if r.named=true then C6 s r.name else some r.atom)=o
 cases o<;>rfl
theorem single_mem:∀{s:List Ax},Dr s=true→∀i (h:i<s.length),D5 s[i].atom=true
 |[],_,i,h=>by simp at h
 |d::r,h,i,hl=>by
  simp only [Dr,Bool.and_eq_true]at h
  rcases i with _|i
  ·exact h.1
  ·exact single_mem h.2 i (by simpa using hl)
theorem ordDs_mem:∀{s:List Ax},ordDs s=true→∀i (h:i<s.length),Er s[i].atom=true
 |[],_,i,h=>by simp at h
 |d::r,h,i,hl=>by
  simp only [ordDs,Bool.and_eq_true]at h
  rcases i with _|i
  ·exact h.1
  ·exact ordDs_mem h.2 i (by simpa using hl)
theorem parts_le {a:Ap}(h:D5 a=true):AB a≤1:=by
 rcases a with⟨sc,li,ma⟩
 simp only [D5,Bool.and_eq_true,decide_eq_true_eq]at h
 exact h.1.1
theorem over_parts {a b:Ap}{rel:ByteArray}(h:BG a rel=some b):AB a≤1→AB b≤1:=by
 intro hp
 rcases a with⟨sc,li,ma⟩
 unfold BG at h
 simp only at h
 cases ma with
 |cons m mr=>
  simp only [Option.some.injEq]at h
  subst h
  simp only [AB,List.length_cons,List.length_nil]at hp⊢
  omega
 |nil=>
  cases li with
  |nil=>simp at h
  |cons l lr=>
   simp only [Option.some.injEq]at h
   subst h
   simp only [AB,List.length_cons,List.length_nil]at hp⊢
   omega
theorem over_nn {a b:Ap}{rel:ByteArray}(h:BG a rel=some b):Bf a=true→Bf b=true:=by
 intro hp
 rcases a with⟨sc,li,ma⟩
 unfold BG at h
 simp only at h
 cases ma with
 |cons m mr=>
  rcases m with⟨f,e,rl⟩
  simp only [Option.some.injEq]at h
  subst h
  simpa only [Bf,nnMa]using hp
 |nil=>
  cases li with
  |nil=>simp at h
  |cons l lr=>
   rcases l with⟨e,rl,ks⟩
   simp only [Option.some.injEq]at h
   subst h
   simpa only [Bf,nnLi]using hp
theorem resolve_parts {s:List Ax}{r:As}{a:Ap}(h:AJ s r=some a)(hs:De s r=true)(ho:ordDs s=true)(hr:Er r.atom=true):AB a≤1∧Bf a=true:=by
 unfold De at hs
 simp only [Bool.and_eq_true]at hs
 have hb:∀b,(if r.named then C6 s r.name else some r.atom)=some b→AB b≤1∧Bf b=true:=by
  intro b e
  rcases r with⟨named,name,atom,rel⟩
  cases named with
  |true=>
   simp only [if_true]at e
   obtain⟨i,hi,e1,_⟩:=EF e
   subst e1
   exact⟨parts_le (single_mem hs.1 i hi),Fk _ (ordDs_mem ho i hi)⟩
  |false=>
   simp at e
   subst e
   have:=hs.2
   simp only [DK,Bool.false_or]at this
   exact⟨parts_le this,Fk _ hr⟩
 unfold AJ at h
 split at h
 ·cases h
 ·rename_i b e
  obtain⟨h1,h2⟩:=hb b e
  split at h
  ·cases h;exact⟨h1,h2⟩
  ·exact⟨over_parts h h1,over_nn h h2⟩
def CR (s:List Ax)(r:As)(v:GV):Bool:=match AJ s r with
 |none=>false
 |some a=>if BN a v=2 then v.k==0||fitsS a.sc v else decide (BN a v≠0)
theorem foldJ_len:∀(L:List (ByteArray × JT)) (ks:List ByteArray) (vs:List JT),0<ks.length∨0<L.length→∃ks' vs',D3 L ks vs= .map ks' vs'∧0<ks'.length
 |[],ks,vs,h=>⟨ks,vs,rfl,by simpa using h⟩
 |(k,t)::r,ks,vs,h=>by
  simp only [D3]
  refine foldJ_len r _ _ (.inl ?_)
  unfold E4
  split
  ·rename_i hm;exact List.length_pos_of_mem hm
  ·simp
theorem whole_of {s:List Ax}{r:As}{a:Ap}{v:GV}(h:AJ s r=some a)(hp:AB a≤1)(hat:DZ a=true)(hb:bareV v=false)(hv:CR s r (Aa v)=true):
  Ck a (Ak v)∧(Ak v).isNull=false∧∀ks vs,Ak v= .map ks vs→0<ks.length:=by
 rcases a with⟨sc,li,ma⟩
 unfold CR at hv
 rw [h]at hv
 simp only at hv
 rcases v with⟨k,n,f,s',ks,l⟩
 by_cases h14:k=1∨k=2∨k=3∨k=4
 ·have hck:(Aa ⟨k,n,f,s',ks,l⟩).k=k:=by
   rcases h14 with rfl|rfl|rfl|rfl<;>simp [Aa]
  have hsb:D6 (Aa ⟨k,n,f,s',ks,l⟩)=true:=by
   unfold D6;rw [hck];rcases h14 with rfl|rfl|rfl|rfl<;>rfl
  have hk6:((Aa ⟨k,n,f,s',ks,l⟩).k==6)=false:=by rw [hck];rcases h14 with rfl|rfl|rfl|rfl<;>rfl
  have hk5:((Aa ⟨k,n,f,s',ks,l⟩).k==5)=false:=by rw [hck];rcases h14 with rfl|rfl|rfl|rfl<;>rfl
  have hk0:((Aa ⟨k,n,f,s',ks,l⟩).k==0)=false:=by rw [hck];rcases h14 with rfl|rfl|rfl|rfl<;>rfl
  have hnb:nullB (Aa ⟨k,n,f,s',ks,l⟩)=false:=by unfold nullB;rw [hsb];rfl
  unfold BN part1 part2 part3 at hv
  rw [hnb,hk6,hk5,hsb]at hv
  simp only [Bool.or_false,Bool.and_false,Bool.false_or,Bool.and_true,if_false,hk0]at hv
  by_cases hsc:sc.toList.isEmpty=true
  ·exfalso;simp [hsc]at hv
  ·have hsc':sc.toList.isEmpty=false:=by simpa using hsc
   have hfit:fitsS sc (Aa ⟨k,n,f,s',ks,l⟩)=true:=by simpa [hsc']using hv
   have hli:li=[]:=by
    rcases li with _|⟨x,y⟩
    ·rfl
    ·exfalso;simp only [AB,hsc',List.length_cons]at hp;(simp at hp<;>omega)
   have hma:ma=[]:=by
    rcases ma with _|⟨x,y⟩
    ·rfl
    ·exfalso;simp only [AB,hsc',List.length_cons]at hp;(simp at hp<;>omega)
   subst hli hma
   refine⟨.sc sc _ hsc' ?_, ?_, ?_⟩
   ·unfold fitsS EE at hfit
    rw [hck,hsb]at hfit
    unfold fitsJ
    rcases h14 with rfl|rfl|rfl|rfl<;>simp [Ak,JT.isFlt,JT.isInt,JT.isStr,JT.isBool,JT.isSc]at hfit⊢<;>exact hfit
   ·rcases h14 with rfl|rfl|rfl|rfl<;>simp [Ak,JT.isNull]
   ·intro ks' vs' e
    rcases h14 with rfl|rfl|rfl|rfl<;>simp [Ak]at e
 ·have hn1:¬(k=1∨k=2∨k=3∨k=4):=h14
  unfold bareV at hb
  simp only [if_neg hn1]at hb
  by_cases h5:k=5
  ·subst h5
   have hl:0<l.length:=by simp at hb;rcases l with _|⟨x,y⟩;simp at hb;simp
   have hcl:Aa ⟨5,n,f,s',ks,l⟩=⟨5,0,0,⟨#[]⟩,[],Bo l⟩:=by simp [Aa]
   rw [hcl]at hv
   simp [BN,part1,part2,part3,nullB,D6]at hv
   have hli:0<li.length:=by
    rcases li with _|⟨x,y⟩
    ·simp at hv
    ·simp
   rcases li with _|⟨⟨e,rel,keys⟩,lr⟩
   ·simp at hli
   have hma:ma=[]:=by
    rcases ma with _|⟨x,y⟩
    ·rfl
    ·exfalso;simp only [AB,List.length_cons]at hp;split at hp<;>omega
   subst hma
   have hsc:sc.toList.isEmpty=true:=by
    by_cases hc:sc.toList.isEmpty=true
    ·exact hc
    ·exfalso;simp only [AB,List.length_cons,if_neg hc]at hp;(simp at hp<;>omega)
   have hrel:(rel.toList==An)=true:=by simpa [DZ]using hat
   have hj:Ak ⟨5,n,f,s',ks,l⟩= .list (Cu l):=by simp [Ak]
   rw [hj]
   exact⟨.li sc e rel keys lr _ hsc hrel (by rw [BA];exact hl),rfl,by intro _ _ e;cases e⟩
  ·by_cases h6:k=6
   ·subst h6
    have hl0:¬min ks.length l.length=0:=of_decide_eq_false (by simpa using hb)
    have hl:0<min ks.length l.length:=by omega
    have hcl:(Aa ⟨6,n,f,s',ks,l⟩).k=6:=by
     have e:Aa ⟨6,n,f,s',ks,l⟩=Dj (ks.zip (Bo l)) Ci:=by simp [Aa]
     rw [e]
     obtain⟨S,e2,_⟩:=DF (ks.zip (Bo l)) (S:=[]) (g:=fun _=>Ay) List.Pairwise.nil
     rw [D',e2];rfl
    have hsb:D6 (Aa ⟨6,n,f,s',ks,l⟩)=false:=by unfold D6;rw [hcl];rfl
    have hk5:((Aa ⟨6,n,f,s',ks,l⟩).k==5)=false:=by rw [hcl];rfl
    have hk6:((Aa ⟨6,n,f,s',ks,l⟩).k==6)=true:=by rw [hcl];rfl
    have hnb:nullB (Aa ⟨6,n,f,s',ks,l⟩)=false:=by unfold nullB;rw [hcl];simp
    unfold BN part1 part2 part3 at hv
    rw [hnb,hk6,hk5,hsb]at hv
    have hma:0<ma.length:=by
     rcases ma with _|⟨x,y⟩
     ·simp at hv
     ·simp
    rcases ma with _|⟨⟨fs,e,rel⟩,mr⟩
    ·simp at hma
    have hli:li=[]:=by
     rcases li with _|⟨x,y⟩
     ·rfl
     ·exfalso;simp only [AB,List.length_cons]at hp;split at hp<;>omega
    subst hli
    have hsc:sc.toList.isEmpty=true:=by
     by_cases hc:sc.toList.isEmpty=true
     ·exact hc
     ·exfalso;simp only [AB,List.length_cons,if_neg hc]at hp;(simp at hp<;>omega)
    have hrel:(rel.toList==An)=true:=by simpa [DZ]using hat
    have hj:Ak ⟨6,n,f,s',ks,l⟩=D3 (ks.zip (Cu l)) [] []:=by simp [Ak]
    obtain⟨ks',vs',e1,h1⟩:=foldJ_len (ks.zip (Cu l)) [] [] (.inr (by rw [List.length_zip,BA];exact hl))
    rw [hj,e1]
    exact⟨.ma sc fs e rel mr ks' vs' hsc hrel h1,rfl,by intro _ _ e;cases e;exact h1⟩
   ·simp [h5,h6]at hb
def Ep (name:ByteArray)(r:As):As:=⟨false,⟨#[]⟩,⟨⟨#[]⟩,[],[⟨[⟨name,r,[]⟩],⟨false,⟨#[]⟩,⟨⟨#[]⟩,[],[]⟩,⟨#[]⟩⟩,⟨#[]⟩⟩]⟩,⟨#[]⟩⟩
theorem Fh (s:List Ax)(name:ByteArray)(r:As):Av s (Ep name r)=some ⟨⟨#[]⟩,[],[⟨[⟨name,r,[]⟩],⟨false,⟨#[]⟩,⟨⟨#[]⟩,[],[]⟩,⟨#[]⟩⟩,⟨#[]⟩⟩]⟩:=by
 simp [Av,baseS,Ep]
theorem root_nn (name:ByteArray){r:As}(h:Dt r=true):Bf ⟨⟨#[]⟩,[],[⟨[⟨name,r,[]⟩],⟨false,⟨#[]⟩,⟨⟨#[]⟩,[],[]⟩,⟨#[]⟩⟩,⟨#[]⟩⟩]⟩=true∧Dt (Ep name r)=true:=by
 simp [Bf,nnLi,nnMa,nnFs,Dt,Ep,h]
end
end Go.Proofs.YtmghkmhgpmcoaaaGreat
