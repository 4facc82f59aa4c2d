/- What the claim's theorem 'proved' rests on: SpecQ, SpecR, SpecS. -/
import Derived.Deep.RegionLaw
import Derived.Test.YtmghkmhgpmcoaaaGreatP06
import Derived.Test.YtmghkmhgpmcoaaaGreatP29
set_option linter.unusedVariables false
set_option linter.unusedSimpArgs false
set_option maxRecDepth 100000
set_option maxHeartbeats 10000000
namespace Go.Proofs.YtmghkmhgpmcoaaaGreat
section
open Go.RowKit
theorem Cj (l:List GV):(Bo l).length=l.length:=by rw [Ca,List.length_map]
theorem cleanVs_get (l:List GV)(j:Nat)(h:j<l.length):(Bo l)[j]'(by rw [Cj];exact h)=Aa l[j]:=by simp only [Ca,List.getElem_map]
theorem plainList_of (l:List GV)(hc:∀j (h:j<l.length),CClean l[j])(H:Hp)(x:Value)(w:World)(hi:Imm H w)(hl:RVs H l x):Calls Tryz.prog 71 #[x] w (RetVs H w (Bo l)):=by
 obtain⟨a,c,rfl,hnil,hlim,hcap,hat⟩:=hl
 have HL:=Lib.hid hlim
 have HC:=Lib.hid hc
 clear hc hnil
 have hmk:=make_vals l.length hlim
 unfold lim at hlim
 go_enter Tryz.func71,Tryz.ntmps71
 go_wp2_with fail
 clear hmk
 go_loopw [3,11] (fun v i wr=>∃j:Nat,j≤l.length∧i= .int .i64 j∧PV H w wr w.heap.size v (Bo l) j∧Bw w wr) (fun _ i _=>l.length - (intOf i).toNat)
 case atStart=>
  refine⟨0,by omega,rfl, ?_,A5⟩
  refine⟨[], ?_,by simp,by simp⟩
  have:=World.ownsRow_made w (e:=35) (size:=6) (madeCells CQ.cells (l.length * 6)) l.length (base:=w.heap.size) (by simp) (by unfold maxLen;omega) (by simp [size_madeCells,Value.cells])
  simpa [AL,Value.cells]using this
 case round=>
  rename_i wr
  obtain⟨j,hj,rfl,hpl,hb⟩:=hrel
  have hiw:=hi.below hb
  obtain⟨L,ho,hx⟩:=hpl.own
  obtain⟨ao,co,rfl⟩:=Aj ho
  have HPL:=Lib.hid (And.intro hpl (And.intro ho hx))
  clear hpl ho hx
  by_cases hjl:j<l.length
  ·obtain⟨b,o,d4,e4,d5,e5,rfl,hv',i0,i1,i2,i3,i4,i5⟩:=hat.look hiw hjl
   have HV:=Lib.hid hv'
   clear hv'
   have CC:=Lib.hid (HC.out j hjl H _ _ (wr.alloc (.cells #[.int .i64 l[j].k, .int .i64 l[j].n, .float .f64 l[j].f, .string l[j].s, .slice d4 l[j].ks.length e4, .slice d5 l[j].l.length e5] 35)) (hiw.below A5) HV.out)
   go_wp2_with fail
   refine CC.out.mono ?_
   rintro e w1 ⟨hb1,x4,x5,rfl,hx⟩
   obtain⟨q4,r4,q5,r5,rfl,rfl⟩:=hx.open
   have hx:=hx.mono (ER (w:=wr) hiw (by simp))
   have hb1:Bw wr w1:=Bw.tr A5 hb1
   have HO1:=Lib.hid (Cq HPL.out.2.1 hb1)
   have HX:=Lib.hid hx
   have hsz1:=hb1.size
   have hsz2:=hb.size
   unfold Ar
   clear hx CC HV i0 i1 i2 i3 i4 i5
   go_wp2_with (at_builtin;refine AF _ rfl (.tmp 15) (.tmp 18) 33 rfl w.heap.size 35 CQ 6 88 DN DX rfl (by decide) (by decide) (.slice ao j co) j (AL L) rfl ((Cq HO1.out A5)) w1.heap.size _ 35 rfl A4 rfl (by simp [Value.oneCell']) (by unfold lim;omega) (by simp;omega) ?_)
   intro v' w2 ho2 hg2 hwh2
   obtain⟨ao2,co2,rfl⟩:=Aj ho2
   have HP2:=Lib.hid (And.intro ho2 (And.intro hg2 hwh2))
   clear ho2 hg2 hwh2
   go_wp2_with fail
   go_roundw
   case rel=>
    obtain⟨_,ho,hxs⟩:=HPL.out
    obtain⟨ho2,hg2,hwh2⟩:=HP2.out
    have hjj:=cleanVs_get l j hjl
    have hin:∀k o',w1.heap[k]?=some o'→(Value.slice ao j co).ownBlock≠some k→w2.heap[k]?=some o':=by
     intro k o' hk hne
     rw [hg2.block k (by have:=A0 hk;simp;omega) (fun e=>hne e.symm)]
     exact A3 hk
    refine⟨j+1,by omega,by go_num,PV.step hi (Nat.le_refl _) ho hxs hb1 (by rw [Cj];exact hjl) (by rw [hjj];exact HX.out) hsz2 (by rw [hjj];exact ho2) hin ?_,Bi ((hb.tr hb1).al _) hg2 (fun k hk=>(ho.lt k hk).1)⟩
    rcases hwh2 with e|e
    ·exact .inl e
    ·exact .inr ⟨_,e,by simp⟩
   case measure=>simp [intOf];omega
  ·go_wp2_with fail
   go_ret
   have:j=l.length:=by omega
   subst this
   obtain⟨hpl,ho,hxs⟩:=HPL.out
   refine⟨hb,_,rfl,PV.shut (by rw [Cj];exact hpl) Dv ?_ (by rw [Cj];exact HL.out)⟩
   intro g hg
   have:=(ho.lt g hg).1
   unfold A6;rw [if_neg (by omega)]
end
section
open Go.RowKit
theorem keepB15 {w w1:World}(hb:Bw w w1){p0 p1 p2 p3 p4 p5 p6 p7 p8 p9 p10 p11 p12 p13 p14:Addr}{u0 u1 u2 u3 u4 u5 u6 u7 u8 u9 u10 u11 u12 u13 u14:Value}(h:w.cell? p0=some u0∧w.cell? p1=some u1∧w.cell? p2=some u2∧w.cell? p3=some u3∧w.cell? p4=some u4∧w.cell? p5=some u5∧w.cell? p6=some u6∧w.cell? p7=some u7∧w.cell? p8=some u8∧w.cell? p9=some u9∧w.cell? p10=some u10∧w.cell? p11=some u11∧w.cell? p12=some u12∧w.cell? p13=some u13∧w.cell? p14=some u14):w1.cell? p0=some u0∧w1.cell? p1=some u1∧w1.cell? p2=some u2∧w1.cell? p3=some u3∧w1.cell? p4=some u4∧w1.cell? p5=some u5∧w1.cell? p6=some u6∧w1.cell? p7=some u7∧w1.cell? p8=some u8∧w1.cell? p9=some u9∧w1.cell? p10=some u10∧w1.cell? p11=some u11∧w1.cell? p12=some u12∧w1.cell? p13=some u13∧w1.cell? p14=some u14:=by
 obtain⟨h0,h1,h2,h3,h4,h5,h6,h7,h8,h9,h10,h11,h12,h13,h14⟩:=h
 exact⟨cell_later hb h0,cell_later hb h1,cell_later hb h2,cell_later hb h3,cell_later hb h4,cell_later hb h5,cell_later hb h6,cell_later hb h7,cell_later hb h8,cell_later hb h9,cell_later hb h10,cell_later hb h11,cell_later hb h12,cell_later hb h13,cell_later hb h14⟩
def BO (v:GV):List (ByteArray × GV):=v.ks.zip (Bo v.l)
theorem foldF_snoc:∀(L:List (ByteArray × GV)) (p:ByteArray × GV) (m:GV),Dj (L++[p]) m=Ce (Dj L m) p.1 p.2
 |[],(k,v),m=>rfl
 |(k,v)::r,p,m=>by simp only [List.cons_append,Dj];exact foldF_snoc r p _
def PMf (H:Hp)(w wr:World)(v:GV)(a4 a5:Option Addr)(c4 c5:Nat)(j:Nat)(m:GV)(x4 x5:Value):Prop:=Bw w wr∧wr.heap[w.heap.size]?=some (.cells #[.int .i64 v.k, .int .i64 v.n, .float .f64 v.f, .string v.s, .slice a4 v.ks.length c4, .slice a5 v.l.length c5] 35)∧
 wr.heap[w.heap.size+1]?=some (.cells #[.int .i64 0, .int .i64 0, .float .f64 0, .string ⟨#[]⟩, .slice none 0 0, .slice none 0 0] 35)∧wr.heap[w.heap.size+1+1]?=some (.cells #[.int .i64 6, .int .i64 0, .float .f64 0, .string ⟨#[]⟩,x4,x5] 35)∧
 RV (BU H (w.heap.size+1+1+1) wr) m x4 x5∧m=Dj ((BO v).take j) Ci
theorem PMf.form {H:Hp}{w wr:World}{v:GV}{a4 a5:Option Addr}{c4 c5:Nat}{j:Nat}{m:GV}{x4 x5:Value}(h:PMf H w wr v a4 a5 c4 c5 j m x4 x5):m.k=6∧m.n=0∧m.f=0∧m.s=⟨#[]⟩∧AN m.ks∧m.ks.length=m.l.length∧m.ks.length≤j:=by
 obtain⟨S,e,h1,_,h2⟩:=DF ((BO v).take j) (S:=[]) (g:=fun _=>Ay) List.Pairwise.nil
 obtain⟨_,_,_,_,_,rfl⟩:=h
 rw [D',e]
 refine⟨rfl,rfl,rfl,rfl,h1,by simp [DA], ?_⟩
 have:((BO v).take j).length≤j:=by rw [List.length_take];omega
 simp only [DA,List.length_nil]at h2⊢
 omega
theorem wf_step {H:Hp}{w wr wp w1:World}{v m u:GV}{a4 a5 y4 y5 v4 v5:Option Addr}{c4 c5 d4 d5 g4 g5 j:Nat}{key:ByteArray}(hp:PMf H w wr v a4 a5 c4 c5 j m (.slice y4 m.ks.length d4) (.slice y5 m.l.length d5))(hi:Imm H w)
  (hq:wp.heap=wr.heap) (hb:Bw wp w1) (hu:RV (A6 H wp w1) u (.slice v4 u.ks.length g4) (.slice v5 u.l.length g5)) (hj:j<v.ks.length) (hl:v.ks.length≤lim) (hk:key.size≤lim) (hwr:Bw w wp) (wq:World) (hwq:wq.heap=w1.heap):
  Calls Tryz.prog 101 #[.agg #[.int .i64 6, .int .i64 0, .float .f64 0, .string ⟨#[]⟩, .slice y4 m.ks.length d4, .slice y5 m.l.length d5], .string key, .agg #[.int .i64 u.k, .int .i64 u.n, .float .f64 u.f, .string u.s, .slice v4 u.ks.length g4, .slice v5 u.l.length g5]] wq
   (fun e w2=>Bw wq w2∧∃z4 e4 z5 e5,e= .returned (.agg #[.int .i64 6, .int .i64 0, .float .f64 0, .string ⟨#[]⟩, .slice z4 (Ce m key u).ks.length e4, .slice z5 (Ce m key u).l.length e5])∧
    RV (A6 (BU H (w.heap.size+1+1+1) w1) w1 w2) (Ce m key u) (.slice z4 (Ce m key u).ks.length e4) (.slice z5 (Ce m key u).l.length e5)):=by
 obtain⟨m1,m2,m3,m4,m5,m6,m7⟩:=hp.form
 have hi1:Imm (BU H (w.heap.size+1+1+1) w1) wq:=by
  have:=growN_imm (n:=w.heap.size+1+1+1) hi (hwr.tr hb)
  intro k o e;show wq.heap[k]?=_;rw [hwq];exact this k o e
 have hlt:w.heap.size+1+1<wp.heap.size:=by rw [hq];exact A0 hp.2.2.2.1
 have hm:RV (BU H (w.heap.size+1+1+1) w1) m (.slice y4 m.ks.length d4) (.slice y5 m.l.length d5):=hp.2.2.2.2.1.mono (growN_mono fun k o _ e=>A2 hb (by rw [hq];exact e))
 have hu':RV (BU H (w.heap.size+1+1+1) w1) u (.slice v4 u.ks.length g4) (.slice v5 u.l.length g5):=hu.mono (grow_growN hi (by omega) (by omega))
 have:=withField_c m u key _ _ _ _ _ wq hi1 hm hu' m5 m6 (by omega) hk
 unfold Ar at this
 rw [m1,m2,m3,m4]at this
 refine this.mono ?_
 rintro _ w2 ⟨hb2,x4,x5,rfl,hr⟩
 obtain⟨z4,e4,z5,e5,rfl,rfl⟩:=hr.open
 refine⟨hb2,z4,e4,z5,e5,rfl, ?_⟩
 have e:A6 (BU H (w.heap.size+1+1+1) w1) wq w2=A6 (BU H (w.heap.size+1+1+1) w1) w1 w2:=by
  funext k;unfold A6;rw [hwq]
 rw [←e];exact hr
theorem PMf.step {H:Hp}{w wr wp w1 wq w2:World}{v m:GV}{a4 a5 y4 y5 z4 z5:Option Addr}{c4 c5 d4 d5 e4 e5 j:Nat}(hp:PMf H w wr v a4 a5 c4 c5 j m (.slice y4 m.ks.length d4) (.slice y5 m.l.length d5))(hi:Imm H w)
  (hjk:j<v.ks.length) (hjl:j<v.l.length) (hq:wp.heap=wr.heap) (hwp:Bw w wp) (hb1:Bw wp w1) (hwq:wq.heap=w1.heap) (hwq2:Bw w1 wq) (hb2:Bw wq w2)
  (hu:RV (A6 (BU H (w.heap.size+1+1+1) w1) w1 w2) (Ce m v.ks[j] (Aa v.l[j])) (.slice z4 (Ce m v.ks[j] (Aa v.l[j])).ks.length e4) (.slice z5 (Ce m v.ks[j] (Aa v.l[j])).l.length e5)):
  PMf H w ((((((w2.setCell ⟨w.heap.size+1+1,0,none⟩ (.int .i64 6)).setCell ⟨w.heap.size+1+1,1,none⟩ (.int .i64 0)).setCell ⟨w.heap.size+1+1,2,none⟩ (.float .f64 0)).setCell ⟨w.heap.size+1+1,3,none⟩ (.string ⟨#[]⟩)).setCell ⟨w.heap.size+1+1,4,none⟩ (.slice z4 (Ce m v.ks[j] (Aa v.l[j])).ks.length e4)).setCell ⟨w.heap.size+1+1,5,none⟩ (.slice z5 (Ce m v.ks[j] (Aa v.l[j])).l.length e5)) v a4 a5 c4 c5 (j+1) (Ce m v.ks[j] (Aa v.l[j])) (.slice z4 (Ce m v.ks[j] (Aa v.l[j])).ks.length e4) (.slice z5 (Ce m v.ks[j] (Aa v.l[j])).l.length e5):=by
 have hb12:Bw wp w2:=hb1.tr (hwq2.tr hb2)
 have hfar:∀k,¬k=w.heap.size+1+1→((((((w2.setCell ⟨w.heap.size+1+1,0,none⟩ (.int .i64 6)).setCell ⟨w.heap.size+1+1,1,none⟩ (.int .i64 0)).setCell ⟨w.heap.size+1+1,2,none⟩ (.float .f64 0)).setCell ⟨w.heap.size+1+1,3,none⟩ (.string ⟨#[]⟩)).setCell ⟨w.heap.size+1+1,4,none⟩ (.slice z4 (Ce m v.ks[j] (Aa v.l[j])).ks.length e4)).setCell ⟨w.heap.size+1+1,5,none⟩ (.slice z5 (Ce m v.ks[j] (Aa v.l[j])).l.length e5)).heap[k]?=w2.heap[k]?:=by
  intro k hk
  rw [Ag _ _ _ _ _ hk,Ag _ _ _ _ _ hk,Ag _ _ _ _ _ hk,Ag _ _ _ _ _ hk,Ag _ _ _ _ _ hk,Ag _ _ _ _ _ hk]
 have hold:∀k o,wr.heap[k]?=some o→w2.heap[k]?=some o:=fun k o e=>A2 hb12 (by rw [hq];exact e)
 have hsz:w.heap.size+1+1<w1.heap.size:=by
  have h1:=A0 hp.2.2.2.1
  rw [←hq]at h1
  have:=hb1.size;omega
 refine⟨?_, ?_, ?_, ?_,hu.mono (growN_step (by omega) (Bw.tr hwq2 hb2) fun k hk=>hfar k (by omega)), ?_⟩
 ·repeat with_reducible (first|exact hwp.tr hb12|refine Bw.set ?_ (by omega) _ _)
 ·rw [hfar _ (by omega)];exact hold _ _ hp.2.1
 ·rw [hfar _ (by omega)];exact hold _ _ hp.2.2.1
 ·have:=Ae (Ae (Ae (Ae (Ae (Ae (hold _ _ hp.2.2.2.1) 0 (.int .i64 6)) 1 (.int .i64 0)) 2 (.float .f64 0)) 3 (.string ⟨#[]⟩)) 4 (.slice z4 (Ce m v.ks[j] (Aa v.l[j])).ks.length e4)) 5 (.slice z5 (Ce m v.ks[j] (Aa v.l[j])).l.length e5)
  simpa using this
 ·have hl:j<(BO v).length:=by unfold BO;rw [List.length_zip,Cj];omega
  rw [take_snoc' hl,foldF_snoc,←hp.2.2.2.2.2]
  have e:(BO v)[j]=(v.ks[j],Aa v.l[j]):=by
   have:=List.getElem_zip (l:=v.ks) (l':=Bo v.l) (i:=j) (h:=hl)
   rw [cleanVs_get _ _ hjl]at this
   exact this
  rw [e]
theorem PMf.last {H:Hp}{w wr:World}{v m:GV}{a4 a5 y4 y5:Option Addr}{c4 c5 d4 d5 j:Nat}(hp:PMf H w wr v a4 a5 c4 c5 j m (.slice y4 m.ks.length d4) (.slice y5 m.l.length d5))(hi:Imm H w)(hj:(BO v).length≤j):
  RetV H w (Dj (BO v) Ci) (.returned (.agg #[.int .i64 6, .int .i64 0, .float .f64 0, .string ⟨#[]⟩, .slice y4 m.ks.length d4, .slice y5 m.l.length d5]))
   ((((((wr.setCell ⟨w.heap.size+1,0,none⟩ (.int .i64 6)).setCell ⟨w.heap.size+1,1,none⟩ (.int .i64 0)).setCell ⟨w.heap.size+1,2,none⟩ (.float .f64 0)).setCell ⟨w.heap.size+1,3,none⟩ (.string ⟨#[]⟩)).setCell ⟨w.heap.size+1,4,none⟩ (.slice y4 m.ks.length d4)).setCell ⟨w.heap.size+1,5,none⟩ (.slice y5 m.l.length d5)):=by
 obtain⟨m1,m2,m3,m4,m5,m6,m7⟩:=hp.form
 have e:(BO v).take j=BO v:=List.take_of_length_le hj
 have em:=hp.2.2.2.2.2
 rw [e]at em
 rw [←em]
 refine⟨?_,_,_,by unfold Ar;rw [m1,m2,m3,m4],hp.2.2.2.2.1.mono (growN_grow hi (by omega) fun k o hk e=> ?_)⟩
 ·have h1:=hp.1
  repeat with_reducible (first|exact h1|refine Bw.set ?_ (by omega) _ _)
 ·have hk1:¬k=w.heap.size+1:=by omega
  rw [Ag _ _ _ _ _ hk1,Ag _ _ _ _ _ hk1,Ag _ _ _ _ _ hk1,Ag _ _ _ _ _ hk1,Ag _ _ _ _ _ hk1,Ag _ _ _ _ _ hk1];exact e
theorem plainMap_of' (v:GV)(hc:∀j (h:j<v.l.length),CClean v.l[j])(H:Hp)(x4 x5:Value)(w:World)(hi:Imm H w)(hv:RV H v x4 x5):
  Calls Tryz.prog 72 #[Ar v x4 x5] w (RetV H w (Dj (BO v) Ci)):=by
 obtain⟨hk,hn,hf,hs,h4,a5,c5,rfl,hn5,hl5,hc5,hat5⟩:=By.1 hv
 obtain⟨a4,c4,rfl,hn4,hl4,hc4,hat4⟩:=h4
 have HA:=Lib.hid (And.intro hi (And.intro hat4 (And.intro hat5 (And.intro hc (And.intro hl4 hl5)))))
 have hsz:(BO v).length=min v.ks.length v.l.length:=by unfold BO;rw [List.length_zip,Cj]
 have HZ:=Lib.hid hsz
 unfold Ar
 clear hc hi hat4 hat5 hv hn4 hn5 hk hn hf hs hsz
 unfold lim at hl4 hl5
 go_enter Tryz.func72,Tryz.ntmps72
 go_wp2_with fail
 have HS:Hid (PMf H w (((w.alloc (.cells #[.int .i64 v.k, .int .i64 v.n, .float .f64 v.f, .string v.s, .slice a4 v.ks.length c4, .slice a5 v.l.length c5] 35)).alloc (.cells #[.int .i64 0, .int .i64 0, .float .f64 0, .string ⟨#[]⟩, .slice none 0 0, .slice none 0 0] 35)).alloc (.cells #[.int .i64 6, .int .i64 0, .float .f64 0, .string ⟨#[]⟩, .slice none 0 0, .slice none 0 0] 35)) v a4 a5 c4 c5 0 Ci (.slice none 0 0) (.slice none 0 0)):=by
  refine⟨Co,b3_0,b3_1,ET, ?_,rfl⟩
  exact By.2 ⟨by constructor<;>simp [Ci],by constructor<;>simp [Ci],by simp [Ci],Nat.zero_le _,⟨none,0,rfl,by simp [Ci],Nat.zero_le _,Nat.le_refl _,by simp only [Ci,Bt]⟩,⟨none,0,rfl,by simp [Ci],Nat.zero_le _,Nat.le_refl _,by simp only [Ci,CX]⟩⟩
 obtain⟨W0,hW0⟩:∃W0,W0=(((w.alloc (.cells #[.int .i64 v.k, .int .i64 v.n, .float .f64 v.f, .string v.s, .slice a4 v.ks.length c4, .slice a5 v.l.length c5] 35)).alloc (.cells #[.int .i64 0, .int .i64 0, .float .f64 0, .string ⟨#[]⟩, .slice none 0 0, .slice none 0 0] 35)).alloc (.cells #[.int .i64 6, .int .i64 0, .float .f64 0, .string ⟨#[]⟩, .slice none 0 0, .slice none 0 0] 35)):=⟨_,rfl⟩
 rw [←hW0]at HS
 rw [←hW0]
 clear hW0
 go_loopw [4] (fun i wr=>∃(j:Nat) (m:GV) (x4 x5:Value),j≤v.ks.length∧i= .int .i64 j∧PMf H w wr v a4 a5 c4 c5 j m x4 x5) (fun i _=>v.ks.length - (intOf i).toNat)
 case atStart=>exact⟨0,_,_,_,Nat.zero_le _,rfl,HS.out⟩
 case round=>
  rename_i wr
  obtain⟨j,m,x4,x5,hj,rfl,hp⟩:=hrel
  obtain⟨y4,d4,y5,d5,rfl,rfl⟩:=hp.2.2.2.2.1.open
  have HP:=Lib.hid hp
  obtain⟨q0,f0⟩:=A1 hp.2.1
  obtain⟨q1,f1⟩:=A1 hp.2.2.1
  obtain⟨q2,f2⟩:=A1 hp.2.2.2.1
  have hlt2:=A0 hp.2.2.2.1
  have hiw:=HA.out.1.below hp.1
  clear hp
  by_cases hjk:j<v.ks.length
  ·by_cases hjl:j<v.l.length
   ·obtain⟨bk,ok,rfl,ck,hks⟩:=HA.out.2.1.look hiw hjk
    obtain⟨bv,ov,z4,e4,z5,e5,rfl,hv',i0,i1,i2,i3,i4,i5⟩:=HA.out.2.2.1.look hiw hjl
    have HV:=Lib.hid (And.intro hv' hks)
    clear hv' hks
    have CC:Hid (∀wq:World,wq.heap=wr.heap→Calls Tryz.prog 43 #[.agg #[.int .i64 v.l[j].k, .int .i64 v.l[j].n, .float .f64 v.l[j].f, .string v.l[j].s, .slice z4 v.l[j].ks.length e4, .slice z5 v.l[j].l.length e5]] wq (RetV H wq (Aa v.l[j]))):=fun wq hq=>HA.out.2.2.2.1 j hjl H _ _ wq (fun b o e=>by show wq.heap[b]?=_;rw [hq];exact hiw b o e) HV.out.1
    go_upto_block 1 with(fail)
    go_cut [] (fun wx=>∃(y4:Option Addr) (d4:Nat) (y5:Option Addr) (d5:Nat),PMf H w wx v (some ⟨bk,ok,none⟩) (some ⟨bv,ov,none⟩) c4 c5 (j+1) (Ce m v.ks[j] (Aa v.l[j])) (.slice y4 (Ce m v.ks[j] (Aa v.l[j])).ks.length d4) (.slice y5 (Ce m v.ks[j] (Aa v.l[j])).l.length d5))
    case first=>
     go_upto_region 5 with(fail)
     have HQ:=Lib.hid (And.intro (q0 4) (And.intro (q0 5) (And.intro (q2 0) (And.intro (q2 1) (And.intro (q2 2) (And.intro (q2 3) (And.intro (q2 4) (And.intro (q2 5) (And.intro ck (And.intro i0 (And.intro i1 (And.intro i2 (And.intro i3 (And.intro i4 i5))))))))))))))
     go_region_law
      (first
       |(go_simp;refine(CC.out _ (by exact rfl)).mono ?_;rintro _ w1 ⟨hb1,u4,u5,rfl,hu⟩;obtain⟨v4,g4,v5,g5,rfl,rfl⟩:=hu.open;unfold Ar;have WF:=Lib.hid (wf_step HP.out HA.out.1 (by exact rfl) hb1 hu hjk HA.out.2.2.2.2.1 HV.out.2 (by first|exact HP.out.1|exact HP.out.1.dr));clear hu;have HB1:=Lib.hid (show w1.heap[w.heap.size+1+1]?=some (.cells #[.int .i64 6, .int .i64 0, .float .f64 0, .string ⟨#[]⟩, .slice y4 m.ks.length d4, .slice y5 m.l.length d5] 35) from A2 hb1 (show wr.heap[w.heap.size+1+1]?=_ from HP.out.2.2.2.1));obtain⟨s0,s1,s2,s3,s4,s5,s6,s7,s8,s9,s10,s11,s12,s13,s14⟩:=keepB15 hb1 HQ.out;have hlt1:=A0 HB1.out)
       |(go_simp;refine(WF.out _ (by exact rfl)).mono ?_;rintro _ w2 ⟨hb2,z4,e4,z5,e5,rfl,hu2⟩;have HU2:=Lib.hid hu2;clear hu2;have HB2:=Lib.hid (A2 hb2 (show w1.heap[w.heap.size+1+1]?=_ from HB1.out));obtain⟨qz,fz⟩:=A1 HB2.out;have hbz:w.heap.size+1+1<w2.heap.size:=A0 HB2.out))
     all_goals
      clear s0 s1 s2 s3 s4 s5 s6 s7 s8 s9 s10 s11 s12 s13 s14 q0 q1 q2 f0 f1 f2 qz fz
      go_wp2_with fail
      go_meet
      exact⟨_,_,_,_,PMf.step HP.out HA.out.1 hjk hjl (by exact rfl) (by first|exact HP.out.1|exact HP.out.1.dr) hb1 (by exact rfl) (by first|exact Bw.rfl|exact Bw.rfl.dr) hb2 HU2.out⟩
    case rest=>
     obtain⟨y4,d4,y5,d5,hp2⟩:=hcut
     have HP2:=Lib.hid hp2
     clear hp2
     go_wp2_with fail
     go_roundw
     case rel=>exact⟨j+1,_,_,_,by omega,by go_num,HP2.out⟩
     case measure=>simp [intOf];omega
   ·go_wp2_with fail
    refine bodyPost_ret (v:= .agg #[.int .i64 6, .int .i64 0, .float .f64 0, .string ⟨#[]⟩, .slice y4 m.ks.length d4, .slice y5 m.l.length d5]) (by simp [results,Tryz.results72,go_sem,q1]) rfl ?_
    exact PMf.last HP.out HA.out.1 (by rw [HZ.out];omega)
  ·go_wp2_with fail
   refine bodyPost_ret (v:= .agg #[.int .i64 6, .int .i64 0, .float .f64 0, .string ⟨#[]⟩, .slice y4 m.ks.length d4, .slice y5 m.l.length d5]) (by simp [results,Tryz.results72,go_sem,q1]) rfl ?_
   exact PMf.last HP.out HA.out.1 (by rw [HZ.out];omega)
end
section
open Go.RowKit
theorem RVs.nil {K:Hp}:RVs K [] (.slice none 0 0):=⟨none,0,rfl,by simp,Nat.zero_le _,Nat.le_refl _,by simp only [CX]⟩
theorem Cv.nil {K:Hp}:Cv K [] (.slice none 0 0):=⟨none,0,rfl,by simp,Nat.zero_le _,Nat.le_refl _,by simp only [Bt]⟩
theorem RV.mk0 {K:Hp}{v:GV}(h1:I64 v.k)(h2:I64 v.n)(h3:v.f<18446744073709551616)(h4:v.s.size≤lim)(h5:v.ks=[])(h6:v.l=[]):RV K v (.slice none 0 0) (.slice none 0 0):=
 By.2 ⟨h1,h2,h3,h4,by rw [h5];exact Cv.nil,by rw [h6];exact RVs.nil⟩
theorem AR {n:Int}(h1: -9223372036854775808≤n)(h2:n≤9223372036854775807):I64 n:=⟨h1,h2⟩
theorem clean_of (v:GV)(hc:∀j (h:j<v.l.length),CClean v.l[j]):CClean v:=by
 intro H x4 x5 w hi hv
 have HM:=Lib.hid (fun w0 h0=>plainMap_of' v hc H x4 x5 w0 h0 hv)
 obtain⟨hk,hn,hf,hs,h4,hl5⟩:=By.1 hv
 have HL:=Lib.hid (fun w0 h0=>plainList_of v.l hc H x5 w0 h0 hl5)
 obtain⟨a4,c4,a5,c5,rfl,rfl⟩:=hv.open
 have HI:=Lib.hid (And.intro hi hs)
 have hlt:w.heap.size<w.heap.size+1:=by omega
 clear hv hc h4 hl5 hi hs
 rcases v with⟨k,n,f,s,ks,l⟩
 unfold Ar at HM⊢
 simp only at *
 by_cases e5:k=5
 ·subst e5
  go_enter Tryz.func43,Tryz.ntmps43
  go_wp2_with fail
  refine(HL.out _ (HI.out.1.below Am)).mono ?_
  rintro _ w1 ⟨hb1,x,rfl,hx⟩
  have hx2:=hx
  obtain⟨ax,cx,rfl,_⟩:=hx2
  have HX:=Lib.hid hx
  have q1:=(A1 (A2 hb1 BF)).1
  have f1:=(A1 (A2 hb1 BF)).2
  have hlt1:w.heap.size+1<w1.heap.size:=A0 (A2 hb1 BF)
  have HB:=Lib.hid (Am.tr hb1)
  clear hx
  go_wp2_with fail
  refine bodyPost_ret (v:= .agg #[.int .i64 5, .int .i64 0, .float .f64 0, .string ⟨#[]⟩, .slice none 0 0, .slice ax (Bo l).length cx]) (by simp [results,Tryz.results43,go_sem,q1]) rfl ?_
  have h1:=HB.out
  have e1:Aa ⟨5,n,f,s,ks,l⟩=⟨5,0,0,⟨#[]⟩,[],Bo l⟩:=by simp [Aa]
  rw [e1]
  refine⟨?_,_,_,rfl,By.2 ⟨AR (by simp) (by simp),AR (by simp) (by simp),by simp,Nat.zero_le _,Cv.nil,HX.out.mono (Ba HI.out.1 (by simp;omega) fun k o hk e=> ?_)⟩⟩
  ·repeat with_reducible (first|exact h1|refine Bw.set ?_ (by omega) _ _)
  ·have hk1:¬k=w.heap.size+1:=by simp at hk;omega
   repeat rw [Ag _ _ _ _ _ hk1]
   exact e
 ·by_cases e6:k=6
  ·subst e6
   go_enter Tryz.func43,Tryz.ntmps43
   go_wp2_with fail
   refine(HM.out _ (HI.out.1.below Am)).mono ?_
   rintro _ w1 ⟨hb1,x4,x5,rfl,hx⟩
   obtain⟨z4,d4,z5,d5,rfl,rfl⟩:=hx.open
   have HX:=Lib.hid hx
   have q1:=(A1 (A2 hb1 BF)).1
   have f1:=(A1 (A2 hb1 BF)).2
   have hlt1:w.heap.size+1<w1.heap.size:=A0 (A2 hb1 BF)
   have HB:=Lib.hid (Am.tr hb1)
   have e1:Hid (Aa ⟨6,n,f,s,ks,l⟩=Dj (BO ⟨6,n,f,s,ks,l⟩) Ci):=by simp [Hid,Aa,BO]
   obtain⟨m,hm⟩:∃m,m=Dj (BO ⟨6,n,f,s,ks,l⟩) Ci:=⟨_,rfl⟩
   rw [←hm]at e1 HX⊢
   unfold Ar
   clear hx hm
   go_wp2_with fail
   refine bodyPost_ret (v:= .agg #[.int .i64 m.k, .int .i64 m.n, .float .f64 m.f, .string m.s, .slice z4 m.ks.length d4, .slice z5 m.l.length d5]) (by simp [results,Tryz.results43,go_sem,q1]) rfl ?_
   have h1:=HB.out
   rw [e1.out]
   refine⟨?_,_,_,rfl,HX.out.mono (Ba HI.out.1 (by simp;omega) fun k o hk e=> ?_)⟩
   ·repeat with_reducible (first|exact h1|refine Bw.set ?_ (by omega) _ _)
   ·have hk1:¬k=w.heap.size+1:=by simp at hk;omega
    repeat rw [Ag _ _ _ _ _ hk1]
    exact e
  ·have e51:(k==5)=false:=by simpa using e5
   have e61:(k==6)=false:=by simpa using e6
   have HE:=Lib.hid (And.intro e5 e6)
   clear e5 e6 HM HL
   by_cases e1:k=1
   ·subst e1
    by_cases e0:n=0
    ·subst e0
     go_enter Tryz.func43,Tryz.ntmps43
     go_wp2_with fail
     refine bodyPost_ret (v:= .agg #[.int .i64 1, .int .i64 0, .float .f64 0, .string ⟨#[]⟩, .slice none 0 0, .slice none 0 0]) (by simp [results,Tryz.results43,go_sem]) rfl ?_
     refine⟨Am,_,_,rfl, ?_⟩
     simp only [Aa,if_true]
     exact RV.mk0 (AR (by simp) (by simp)) (AR (by simp) (by simp)) (by simp) (Nat.zero_le _) rfl rfl
    ·have e01:(n !=0)=true:=by simpa using e0
     have HE0:=Lib.hid e0
     clear e0
     go_enter Tryz.func43,Tryz.ntmps43
     go_wp2_with fail
     refine bodyPost_ret (v:= .agg #[.int .i64 1, .int .i64 1, .float .f64 0, .string ⟨#[]⟩, .slice none 0 0, .slice none 0 0]) (by simp [results,Tryz.results43,go_sem]) rfl ?_
     refine⟨Am, .slice none 0 0, .slice none 0 0,by simp [Ar,Aa,HE0.out], ?_⟩
     simp only [Aa,if_true,if_neg HE0.out]
     exact RV.mk0 (AR (by simp) (by simp)) (AR (by simp) (by simp)) (by simp) (Nat.zero_le _) rfl rfl
   by_cases e2:k=2
   ·subst e2
    go_enter Tryz.func43,Tryz.ntmps43
    go_wp2_with fail
    refine bodyPost_ret (v:= .agg #[.int .i64 2, .int .i64 n, .float .f64 0, .string ⟨#[]⟩, .slice none 0 0, .slice none 0 0]) (by simp [results,Tryz.results43,go_sem]) rfl ?_
    refine⟨Am, .slice none 0 0, .slice none 0 0,by simp [Ar,Aa], ?_⟩
    have e:Aa ⟨2,n,f,s,ks,l⟩=⟨2,n,0,⟨#[]⟩,[],[]⟩:=by simp [Aa]
    rw [e]
    exact RV.mk0 (AR (by simp) (by simp)) hn (by simp) (Nat.zero_le _) rfl rfl
   by_cases e3:k=3
   ·subst e3
    go_enter Tryz.func43,Tryz.ntmps43
    go_wp2_with fail
    refine bodyPost_ret (v:= .agg #[.int .i64 3, .int .i64 0, .float .f64 f, .string ⟨#[]⟩, .slice none 0 0, .slice none 0 0]) (by simp [results,Tryz.results43,go_sem]) rfl ?_
    refine⟨Am, .slice none 0 0, .slice none 0 0,by simp [Ar,Aa], ?_⟩
    have e:Aa ⟨3,n,f,s,ks,l⟩=⟨3,0,f,⟨#[]⟩,[],[]⟩:=by simp [Aa]
    rw [e]
    exact RV.mk0 (AR (by simp) (by simp)) (AR (by simp) (by simp)) hf (Nat.zero_le _) rfl rfl
   by_cases e4:k=4
   ·subst e4
    go_enter Tryz.func43,Tryz.ntmps43
    go_wp2_with fail
    refine bodyPost_ret (v:= .agg #[.int .i64 4, .int .i64 0, .float .f64 0, .string s, .slice none 0 0, .slice none 0 0]) (by simp [results,Tryz.results43,go_sem]) rfl ?_
    refine⟨Am, .slice none 0 0, .slice none 0 0,by simp [Ar,Aa], ?_⟩
    have e:Aa ⟨4,n,f,s,ks,l⟩=⟨4,0,0,s,[],[]⟩:=by simp [Aa]
    rw [e]
    exact RV.mk0 (AR (by simp) (by simp)) (AR (by simp) (by simp)) (by simp) HI.out.2 rfl rfl
   have q1:(k==1)=false:=by simpa using e1
   have q2:(k==2)=false:=by simpa using e2
   have q3:(k==3)=false:=by simpa using e3
   have q4:(k==4)=false:=by simpa using e4
   have HE2:=Lib.hid (And.intro e1 (And.intro e2 (And.intro e3 e4)))
   clear e1 e2 e3 e4
   go_enter Tryz.func43,Tryz.ntmps43
   go_wp2_with fail
   refine bodyPost_ret (v:= .agg #[.int .i64 0, .int .i64 0, .float .f64 0, .string ⟨#[]⟩, .slice none 0 0, .slice none 0 0]) (by simp [results,Tryz.results43,go_sem]) rfl ?_
   obtain⟨e5,e6⟩:=HE.out
   obtain⟨e1,e2,e3,e4⟩:=HE2.out
   have e:Aa ⟨k,n,f,s,ks,l⟩=Ay:=by simp [Aa,e1,e2,e3,e4,e5,e6]
   refine⟨Am, .slice none 0 0, .slice none 0 0,by rw [e];rfl, ?_⟩
   rw [e]
   exact RV.mk0 (AR (by simp [Ay]) (by simp [Ay])) (AR (by simp [Ay]) (by simp [Ay])) (by simp [Ay]) (Nat.zero_le _) rfl rfl
theorem EJ:∀(z:Nat) (v:GV),v.sz≤z→CClean v
 |0,v,h=>by have:=v.sz_eq;omega
 |z+1,v,h=>clean_of v fun j hj=>EJ z _ (by have:=v.sz_eq;have:=D0 hj;omega)
end
end Go.Proofs.YtmghkmhgpmcoaaaGreat
