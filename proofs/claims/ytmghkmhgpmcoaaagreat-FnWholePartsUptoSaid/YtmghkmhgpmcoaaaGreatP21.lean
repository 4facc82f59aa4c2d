/- What the claim's theorem 'proved' rests on: TmMerge, TmPrep, TmFin, TmItem, TmItems. -/
import Derived.Test.YtmghkmhgpmcoaaaGreatP17
import Derived.Test.YtmghkmhgpmcoaaaGreatP19
import Derived.Test.YtmghkmhgpmcoaaaGreatP20
set_option linter.unusedVariables false
set_option linter.unusedSimpArgs false
set_option maxRecDepth 100000
set_option maxHeartbeats 10000000
namespace Go.Proofs.YtmghkmhgpmcoaaaGreat
section
open Go Go.RowKit Go.MapKept
theorem EQ {w w1:World}(hb:Bw w w1){p0 p1 p2 p3 p4 p5 p6:Addr}{u0 u1 u2 u3 u4 u5 u6:Value}(h:w.cell? p0=some u0∧w.cell? p1=some u1∧w.cell? p2=some u2∧w.cell? p3=some u3∧w.cell? p4=some u4∧w.cell? p5=some u5∧w.cell? p6=some u6):w1.cell? p0=some u0∧w1.cell? p1=some u1∧w1.cell? p2=some u2∧w1.cell? p3=some u3∧w1.cell? p4=some u4∧w1.cell? p5=some u5∧w1.cell? p6=some u6:=by
 obtain⟨h0,h1,h2,h3,h4,h5,h6⟩:=h
 exact⟨cell_later hb h0,cell_later hb h1,cell_later hb h2,cell_later hb h3,cell_later hb h4,cell_later hb h5,cell_later hb h6⟩
theorem BJ {w w1:World}(hb:Bw w w1){p0 p1 p2 p3:Addr}{u0 u1 u2 u3:Value}(h:w.cell? p0=some u0∧w.cell? p1=some u1∧w.cell? p2=some u2∧w.cell? p3=some u3):w1.cell? p0=some u0∧w1.cell? p1=some u1∧w1.cell? p2=some u2∧w1.cell? p3=some u3:=by
 obtain⟨h0,h1,h2,h3⟩:=h
 exact⟨cell_later hb h0,cell_later hb h1,cell_later hb h2,cell_later hb h3⟩
theorem keepB9 {w w1:World}(hb:Bw w w1){p0 p1 p2 p3 p4 p5 p6 p7 p8:Addr}{u0 u1 u2 u3 u4 u5 u6 u7 u8:Value}(h:w.cell? p0=some u0∧w.cell? p1=some u1∧w.cell? p2=some u2∧w.cell? p3=some u3∧w.cell? p4=some u4∧w.cell? p5=some u5∧w.cell? p6=some u6∧w.cell? p7=some u7∧w.cell? p8=some u8):w1.cell? p0=some u0∧w1.cell? p1=some u1∧w1.cell? p2=some u2∧w1.cell? p3=some u3∧w1.cell? p4=some u4∧w1.cell? p5=some u5∧w1.cell? p6=some u6∧w1.cell? p7=some u7∧w1.cell? p8=some u8:=by
 obtain⟨h0,h1,h2,h3,h4,h5,h6,h7,h8⟩:=h
 exact⟨cell_later hb h0,cell_later hb h1,cell_later hb h2,cell_later hb h3,cell_later hb h4,cell_later hb h5,cell_later hb h6,cell_later hb h7,cell_later hb h8⟩
theorem keepP7 {w:World}{P b0 o0 o1 o2 o3 o4 o5 o6:Nat}{u0 u1 u2 u3 u4 u5 u6 x0 x1 x2:Value}(h_b0:¬b0=P)
  (h:w.cell? ⟨b0,o0,none⟩=some u0∧w.cell? ⟨b0,o1,none⟩=some u1∧w.cell? ⟨b0,o2,none⟩=some u2∧w.cell? ⟨b0,o3,none⟩=some u3∧w.cell? ⟨b0,o4,none⟩=some u4∧w.cell? ⟨b0,o5,none⟩=some u5∧w.cell? ⟨b0,o6,none⟩=some u6):∀w',w'=(((w.setCell ⟨P,0,none⟩ x0).setCell ⟨P,1,none⟩ x1).setCell ⟨P,2,none⟩ x2)→w'.cell? ⟨b0,o0,none⟩=some u0∧w'.cell? ⟨b0,o1,none⟩=some u1∧w'.cell? ⟨b0,o2,none⟩=some u2∧w'.cell? ⟨b0,o3,none⟩=some u3∧w'.cell? ⟨b0,o4,none⟩=some u4∧w'.cell? ⟨b0,o5,none⟩=some u5∧w'.cell? ⟨b0,o6,none⟩=some u6:=by
 rintro w' rfl
 simpa [World.cell?_setCell_other,h_b0]using h
theorem keepP31 {w:World}{P b0 b1 o0 o1 o2 o3:Nat}{u0 u1 u2 u3 x0 x1 x2:Value}(h_b0:¬b0=P)(h_b1:¬b1=P)
  (h:w.cell? ⟨b0,o0,none⟩=some u0∧w.cell? ⟨b0,o1,none⟩=some u1∧w.cell? ⟨b0,o2,none⟩=some u2∧w.cell? ⟨b1,o3,none⟩=some u3):∀w',w'=(((w.setCell ⟨P,0,none⟩ x0).setCell ⟨P,1,none⟩ x1).setCell ⟨P,2,none⟩ x2)→w'.cell? ⟨b0,o0,none⟩=some u0∧w'.cell? ⟨b0,o1,none⟩=some u1∧w'.cell? ⟨b0,o2,none⟩=some u2∧w'.cell? ⟨b1,o3,none⟩=some u3:=by
 rintro w' rfl
 simpa [World.cell?_setCell_other,h_b0,h_b1]using h
@[go_sem] theorem typedmerge_app_nil (ty:TypeId) (w:World):(Builtin.append_ #[194,194] ty #[.slice none 0 0, .slice none 0 0]).run Tryz.prog w= .ok (.slice none 0 0) w:=by kernel_rfl
theorem typedmerge_lazy (w:World):Calls Tryz.prog 114 #[.slice none 0 0, .nilFunc] w (fun e w'=>e= .returned (.slice none 0 0)∧w'=w):=by
 go_enter Tryz.func114,Tryz.ntmps114
 go_wp2_with fail
 go_ret
 exact⟨rfl,rfl⟩
@[go_sem] theorem typedcompare_app_nil (ty:TypeId) (w:World):(Builtin.append_ #[134,134] ty #[.slice none 0 0, .slice none 0 0]).run Tryz.prog w= .ok (.slice none 0 0) w:=by kernel_rfl
theorem typedcompare_lazy (w:World):Calls Tryz.prog 97 #[.slice none 0 0, .nilFunc] w (fun e w'=>e= .returned (.slice none 0 0)∧w'=w):=by
 go_enter Tryz.func97,Tryz.ntmps97
 go_wp2_with fail
 go_ret
 exact⟨rfl,rfl⟩
theorem Fi {H:Hp}{s:List Ax}{r:As}{X:Value}{y:Six}{a:Ap}(hs:AO Ak H s X)(hr:BM Ak H r y)(ha:Av s r=some a)(w:World)(hi:Imm H w):
  Calls Tryz.prog 94 #[X,F9 y] w (fun e w'=>Bw w w'∧∃p1 p2 p3,e= .returned (.tuple #[.agg #[.pointer p1, .pointer p2, .pointer p3], .bool true])∧AI Ak (A6 H w w') a p1 p2 p3):=by
 refine(resolveQ_c H s r X y w hi hs hr).mono ?_
 intro e w' h
 unfold Eb at h
 rw [ha]at h
 exact h
def MgA (H:Hp)(a:Ap)(w wx:World)(b5:Nat)(p1 p2 p3:Option Addr):Prop:=Bw w wx∧w.heap.size≤b5∧wx.heap[b5]?=some (.cells #[.pointer p1, .pointer p2, .pointer p3] 80)∧∃K,(Hle H K∧∀k,k<w.heap.size→K k=H k)∧Imm K wx∧AI Ak K a p1 p2 p3
theorem MgA.one {H:Hp}{a:Ap}{w w1:World}{p1 p2 p3:Option Addr}(hi:Imm H w)(hb:Bw w.drew w1)(hq:AI Ak (A6 H w.drew w1) a p1 p2 p3):MgA H a w (w1.alloc (.cells #[.pointer p1, .pointer p2, .pointer p3] 80)) w1.heap.size p1 p2 p3:=
 ⟨((Bw.rfl.dr).tr hb).al _,hb.size,A4,A6 H w.drew w1,⟨AY (w:=w.drew) hi,fun k hk=>by unfold A6;exact if_pos hk⟩,(Imm.grow (w:=w.drew) hi hb).below A5,hq⟩
theorem MgA.two {H:Hp}{a:Ap}{w w1:World}{p1 p2 p3:Option Addr}{wa:World}(ha:wa.heap=(w.alloc (.cells #[.pointer none, .pointer none, .pointer none] 80)).heap)(hw:Bw w wa)(hi:Imm H w)(hb:Bw wa w1)(hq:AI Ak (A6 H wa w1) a p1 p2 p3):
  MgA H a w (((w1.setCell ⟨w.heap.size,0,none⟩ (.pointer p1)).setCell ⟨w.heap.size,1,none⟩ (.pointer p2)).setCell ⟨w.heap.size,2,none⟩ (.pointer p3)) w.heap.size p1 p2 p3:=by
 have hbx:w1.heap[w.heap.size]?=some (.cells #[.pointer none, .pointer none, .pointer none] 80):=A2 hb (by rw [ha];exact A4)
 have hfar:∀k,¬k=w.heap.size→(((w1.setCell ⟨w.heap.size,0,none⟩ (.pointer p1)).setCell ⟨w.heap.size,1,none⟩ (.pointer p2)).setCell ⟨w.heap.size,2,none⟩ (.pointer p3)).heap[k]?=w1.heap[k]?:=fun k hk=>by
  rw [Ag _ _ _ _ _ hk,Ag _ _ _ _ _ hk,Ag _ _ _ _ _ hk]
 have hsz:w.heap.size<wa.heap.size:=by rw [ha];simp
 refine⟨Bw.set (Bw.set (Bw.set (hw.tr hb) (Nat.le_refl _) _ _) (Nat.le_refl _) _ _) (Nat.le_refl _) _ _,Nat.le_refl _,by simpa using Ae (Ae (Ae hbx 0 (.pointer p1)) 1 (.pointer p2)) 2 (.pointer p3),A6 H wa w1,⟨AY (hi.below hw),fun k hk=>by unfold A6;exact if_pos (Nat.lt_of_lt_of_le hk hw.size)⟩, ?_,hq⟩
 intro k o e
 have h1:w1.heap[k]?=some o:=(Imm.grow (hi.below hw) hb) k o e
 show(World.heap _)[k]?=some o
 rw [hfar k ?_];exact h1
 intro hk
 subst hk
 unfold A6 at e
 rw [if_pos hsz]at e
 exact absurd (A0 (hi _ _ e)) (by omega)
@[go_sem] theorem rule_nil_nil (w:World):(binOp .neq 192 .nilFunc .nilFunc).run Tryz.prog w= .ok (.bool false) w:=by kernel_rfl
def DgA (w wx:World)(b7:Nat)(p1 p2 p3:Option Addr):Prop:=Bw w wx∧w.heap.size≤b7∧wx.heap[b7]?=some (.cells #[.pointer p1, .pointer p2, .pointer p3] 80)
theorem DgA.one {w w1:World}{p1 p2 p3:Option Addr}(hb:Below w.drew.heap.size w.drew w1):DgA w (w1.alloc (.cells #[.pointer p1, .pointer p2, .pointer p3] 80)) w1.heap.size p1 p2 p3:=
 ⟨((Bw.rfl.dr).tr hb).al _,hb.size,A4⟩
theorem DgA.two {w w1:World}{p1 p2 p3:Option Addr}{wa:World}(ha:wa.heap=(w.alloc (.cells #[.pointer none, .pointer none, .pointer none] 80)).heap)(hw:Bw w wa)(hb:Below wa.heap.size wa w1):
  DgA w (((w1.setCell ⟨w.heap.size,0,none⟩ (.pointer p1)).setCell ⟨w.heap.size,1,none⟩ (.pointer p2)).setCell ⟨w.heap.size,2,none⟩ (.pointer p3)) w.heap.size p1 p2 p3:=by
 have hbx:w1.heap[w.heap.size]?=some (.cells #[.pointer none, .pointer none, .pointer none] 80):=A2 hb (by rw [ha];exact A4)
 exact⟨Bw.set (Bw.set (Bw.set (hw.tr hb) (Nat.le_refl _) _ _) (Nat.le_refl _) _ _) (Nat.le_refl _) _ _,Nat.le_refl _,by simpa using Ae (Ae (Ae hbx 0 (.pointer p1)) 1 (.pointer p2)) 2 (.pointer p3)⟩
theorem tmS9 {w1 w2:World}{wb b8:Nat}{y0 y1 y2 y3 y4 p1 p2 p3:Option Addr}(h:∃m':MW,w2.heap[wb]?=some m'.obj∧m'.y=⟨y0,y1,y2,y3,y4⟩)(h8:w2.heap[b8]?=w1.heap[b8]?)(hb:w1.heap[b8]?=some (.cells #[.pointer p1, .pointer p2, .pointer p3] 80)):
  w2.cell? ⟨b8,0,none⟩=some (.pointer p1)∧w2.cell? ⟨b8,1,none⟩=some (.pointer p2)∧w2.cell? ⟨b8,2,none⟩=some (.pointer p3)∧w2.cell? ⟨wb,3,none⟩=some (.pointer y0)∧w2.cell? ⟨wb,4,none⟩=some (.pointer y1)∧w2.cell? ⟨wb,5,none⟩=some (.pointer y2)∧w2.cell? ⟨wb,6,none⟩=some (.pointer y3)∧w2.cell? ⟨wb,7,none⟩=some (.pointer y4)∧w2.cell? ⟨wb,8,none⟩=some (.bool false):=by
 obtain⟨m',h1,h2⟩:=h
 unfold MW.obj at h1
 rw [h2]at h1
 obtain⟨q,_⟩:=A1 h1
 obtain⟨q8,_⟩:=A1 (h8.trans hb)
 exact⟨q8 0,q8 1,q8 2,q 3,q 4,q 5,q 6,q 7,q 8⟩
theorem tm_merge (m:MW)(s:List Ax)(r:As)(a:Ap)(bl br wb:Nat)(hL:m.L=Ab bl)(hR:m.R=Ab br)(hres:Av s r=some a)(hnn:Bf a=true)(H:Hp)(w:World)(hi:Imm H w)
  (hS:AO Ak H s (.pointer m.S)) (hr:BM Ak H r m.y) (hb:w.heap[wb]?=some m.obj)
  (hd1:∀K w1 p1 p2 p3,Imm K w1→Hle H K→AI Ak K a p1 p2 p3→Calls Tryz.prog 112 #[.agg #[.pointer p1, .pointer p2, .pointer p3],Ab bl] w1 (Pur w1 (.agg #[.pointer p1, .pointer p2, .pointer p3])))
  (hd2:∀K w1 p1 p2 p3,Imm K w1→Hle H K→AI Ak K a p1 p2 p3→Calls Tryz.prog 112 #[.agg #[.pointer p1, .pointer p2, .pointer p3],Ab br] w1 (Pur w1 (.agg #[.pointer p1, .pointer p2, .pointer p3])))
  (Q:World→World→Prop)
  (hh:∀K w1 p1 p2 p3,Bw w w1→Imm K w1→Hle H K→(∀k,k<w.heap.size→K k=H k)→AI Ak K a p1 p2 p3→Calls Tryz.prog 113 #[.agg #[.pointer p1, .pointer p2, .pointer p3],F9 m.y, .iface 196 (.pointer (some ⟨wb,0,none⟩))] w1 (fun e w2=>e= .returned (.slice none 0 0)∧Q w1 w2))
  (hq:∀w1 w2,Bw w w1→Q w1 w2→(∃m':MW,w2.heap[wb]?=some m'.obj∧m'.y=m.y)∧∀k,w.heap.size≤k→k<w1.heap.size→w2.heap[k]?=w1.heap[k]?):
  Calls Tryz.prog 90 #[.pointer (some ⟨wb,0,none⟩), .nilFunc] w (fun e w'=>e= .returned (.slice none 0 0)∧∃w1 w2,Bw w w1∧Q w1 w2∧Bw w2 w'):=by
 have HR:=Lib.hid (fun wq h0=>Fi hS hr hres wq h0)
 have HH:=Lib.hid (And.intro hd1 (And.intro hd2 (And.intro hh hq)))
 have HB:=Lib.hid hb
 have HI:=Lib.hid hi
 clear hd1 hd2 hh hq hS hr hres
 rcases m with⟨L,R,S,⟨y0,y1,y2,y3,y4⟩,pa,pn,pc,out,leaf,spare,ha⟩
 simp only at hL hR HR HH
 subst hL
 subst hR
 unfold MW.obj at HB
 simp only at HB
 obtain⟨q,f⟩:=A1 HB.out
 have hlt:=A0 HB.out
 clear hb hi
 go_enter Tryz.func90,Tryz.ntmps90
 go_upto_region 3 with(fail)
 have S0:w.cell? ⟨wb,2,none⟩=some (.pointer S)∧w.cell? ⟨wb,3,none⟩=some (.pointer y0)∧w.cell? ⟨wb,4,none⟩=some (.pointer y1)∧w.cell? ⟨wb,5,none⟩=some (.pointer y2)∧w.cell? ⟨wb,6,none⟩=some (.pointer y3)∧w.cell? ⟨wb,7,none⟩=some (.pointer y4)∧w.cell? ⟨wb,8,none⟩=some (.bool false):=⟨q 2,q 3,q 4,q 5,q 6,q 7,q 8⟩
 have S1:w.drew.cell? ⟨wb,2,none⟩=some (.pointer S)∧w.drew.cell? ⟨wb,3,none⟩=some (.pointer y0)∧w.drew.cell? ⟨wb,4,none⟩=some (.pointer y1)∧w.drew.cell? ⟨wb,5,none⟩=some (.pointer y2)∧w.drew.cell? ⟨wb,6,none⟩=some (.pointer y3)∧w.drew.cell? ⟨wb,7,none⟩=some (.pointer y4)∧w.drew.cell? ⟨wb,8,none⟩=some (.bool false):=S0
 have hne:¬wb=w.heap.size:=by omega
 have hne2:¬w.heap.size=wb:=by omega
 clear q f
 go_cut [5,6] (fun s5 s6 wx=>∃(b5:Nat) (p1 p2 p3:Option Addr),s5= .pointer (some ⟨b5,0,none⟩)∧s6= .bool true∧MgA H a w wx b5 p1 p2 p3)
 case first=>
  go_region_held3 (fun w'=>w'.cell? ⟨wb,2,none⟩=some (.pointer S)∧w'.cell? ⟨wb,3,none⟩=some (.pointer y0)∧w'.cell? ⟨wb,4,none⟩=some (.pointer y1)∧w'.cell? ⟨wb,5,none⟩=some (.pointer y2)∧w'.cell? ⟨wb,6,none⟩=some (.pointer y3)∧w'.cell? ⟨wb,7,none⟩=some (.pointer y4)∧w'.cell? ⟨wb,8,none⟩=some (.bool false))
   (first|(with_reducible exact S0)|(with_reducible exact S1)|((with_reducible refine EQ (by assumption) ?_);assumption)|((with_reducible refine EQ A5 ?_);assumption)|((with_reducible refine EQ A5.dr ?_);assumption)|((with_reducible refine keepP7 (by assumption) ?_ _ rfl);assumption)|exact EQ (Bw.al (Bw.tr Bw.rfl.dr hb1) _) S0|go_keep)
   ((go_at_call 94;refine(HR.out _ (HI.out.below (by first|exact Bw.rfl.dr|exact(Bw.rfl.al _).dr|exact Bw.rfl))).mono ?_;rintro _ w1 ⟨hb1,p1,p2,p3,rfl,hqa⟩;try(obtain⟨qn,fn⟩:=A1 (A2 hb1 (show((w.alloc _).drew).heap[w.heap.size]?=some _ from A4));have hltn:w.heap.size<w1.heap.size:=A0 (A2 hb1 (show((w.alloc _).drew).heap[w.heap.size]?=some _ from A4)))))
  ·go_wp2_with fail
   go_meet
   exact⟨_,p1,p2,p3,rfl,rfl,MgA.one HI.out hb1 hqa⟩
  ·go_wp2_with fail
   go_meet
   exact⟨_,p1,p2,p3,rfl,rfl,MgA.two (wa:=(w.alloc (.cells #[.pointer none, .pointer none, .pointer none] 80)).drew) rfl (Bw.rfl.al _).dr HI.out hb1 hqa⟩
 case rest=>
  obtain⟨b5,p1,p2,p3,rfl,rfl,hA⟩:=hcut
  obtain⟨wA,hwA⟩:∃wA:World,wA=wc:=⟨_,rfl⟩
  subst hwA
  have HA:=Lib.hid hA
  have HM:=Lib.hid (A2 hA.1 HB.out)
  clear hA
  obtain⟨q,f⟩:=A1 HM.out
  obtain⟨q5,f5⟩:=A1 HA.out.2.2.1
  have hltA:=A0 HM.out
  have hlt5:=A0 HA.out.2.2.1
  go_upto_region 6 with(fail)
  have S0:wA.cell? ⟨b5,0,none⟩=some (.pointer p1)∧wA.cell? ⟨b5,1,none⟩=some (.pointer p2)∧wA.cell? ⟨b5,2,none⟩=some (.pointer p3)∧wA.cell? ⟨wb,0,none⟩=some (Ab bl):=⟨q5 0,q5 1,q5 2,q 0⟩
  have S1:wA.drew.cell? ⟨b5,0,none⟩=some (.pointer p1)∧wA.drew.cell? ⟨b5,1,none⟩=some (.pointer p2)∧wA.drew.cell? ⟨b5,2,none⟩=some (.pointer p3)∧wA.drew.cell? ⟨wb,0,none⟩=some (Ab bl):=S0
  have hn1:¬b5=wA.heap.size:=by omega
  have hn2:¬wb=wA.heap.size:=by omega
  have hn3:¬wA.heap.size=b5:=by omega
  have hn4:¬wA.heap.size=wb:=by omega
  have HCD:Hid (∀wq,Bw wA wq→Calls Tryz.prog 112 #[.agg #[.pointer p1, .pointer p2, .pointer p3],Ab bl] wq (Pur wq (.agg #[.pointer p1, .pointer p2, .pointer p3]))):=by
   intro wq hwq
   obtain⟨K,h1,h2,h3⟩:=HA.out.2.2.2
   exact HH.out.1 K wq p1 p2 p3 (h2.below (Bw.tr Bw.rfl hwq)) h1.1 h3
  go_cut [7] (fun s7 wx=>∃b7:Nat,s7= .pointer (some ⟨b7,0,none⟩)∧DgA wA wx b7 p1 p2 p3)
  case first=>
   go_region_held3 (fun w'=>w'.cell? ⟨b5,0,none⟩=some (.pointer p1)∧w'.cell? ⟨b5,1,none⟩=some (.pointer p2)∧w'.cell? ⟨b5,2,none⟩=some (.pointer p3)∧w'.cell? ⟨wb,0,none⟩=some (Ab bl))
    (first|(with_reducible exact S0)|(with_reducible exact S1)|((with_reducible refine BJ (by assumption) ?_);assumption)|((with_reducible refine BJ A5 ?_);assumption)|((with_reducible refine BJ A5.dr ?_);assumption)|((with_reducible refine keepP31 (by assumption) (by assumption) ?_ _ rfl);assumption)|exact BJ (Bw.al (Bw.tr Bw.rfl.dr hb1) _) S0|go_keep)
    ((go_at_call 112;refine(HCD.out _ (by first|exact Bw.rfl.dr|exact(Bw.rfl.al _).dr|exact Bw.rfl)).mono ?_;rintro _ w1 ⟨rfl,hb1⟩;try(obtain⟨qn,fn⟩:=A1 (A2 hb1 (show((wA.alloc _).drew).heap[wA.heap.size]?=some _ from A4));have hltn:wA.heap.size<w1.heap.size:=A0 (A2 hb1 (show((wA.alloc _).drew).heap[wA.heap.size]?=some _ from A4)))))
   ·go_wp2_with fail
    go_meet
    exact⟨_,rfl,DgA.one hb1⟩
   ·go_wp2_with fail
    go_meet
    exact⟨_,rfl,DgA.two (wa:=(wA.alloc (.cells #[.pointer none, .pointer none, .pointer none] 80)).drew) rfl (Bw.rfl.al _).dr hb1⟩
  case rest=>
   obtain⟨b7,rfl,h7⟩:=hcut
   obtain⟨wD,hwD⟩:∃wD:World,wD=wc:=⟨_,rfl⟩
   subst hwD
   have H7:=Lib.hid h7
   have HM7:=Lib.hid (A2 h7.1 HM.out)
   have H57:=Lib.hid (A2 h7.1 HA.out.2.2.1)
   clear h7 q f q5 f5
   obtain⟨q,f⟩:=A1 HM7.out
   obtain⟨q5,f5⟩:=A1 H57.out
   have hltA:=A0 HM7.out
   have hlt5:=A0 H57.out
   go_upto_region 7 with(fail)
   have S0:wD.cell? ⟨b5,0,none⟩=some (.pointer p1)∧wD.cell? ⟨b5,1,none⟩=some (.pointer p2)∧wD.cell? ⟨b5,2,none⟩=some (.pointer p3)∧wD.cell? ⟨wb,1,none⟩=some (Ab br):=⟨q5 0,q5 1,q5 2,q 1⟩
   have S1:wD.drew.cell? ⟨b5,0,none⟩=some (.pointer p1)∧wD.drew.cell? ⟨b5,1,none⟩=some (.pointer p2)∧wD.drew.cell? ⟨b5,2,none⟩=some (.pointer p3)∧wD.drew.cell? ⟨wb,1,none⟩=some (Ab br):=S0
   have hn1:¬b5=wD.heap.size:=by omega
   have hn2:¬wb=wD.heap.size:=by omega
   have hn3:¬wD.heap.size=b5:=by omega
   have hn4:¬wD.heap.size=wb:=by omega
   have HCD:Hid (∀wq,Bw wD wq→Calls Tryz.prog 112 #[.agg #[.pointer p1, .pointer p2, .pointer p3],Ab br] wq (Pur wq (.agg #[.pointer p1, .pointer p2, .pointer p3]))):=by
    intro wq hwq
    obtain⟨K,h1,h2,h3⟩:=HA.out.2.2.2
    exact HH.out.2.1 K wq p1 p2 p3 (h2.below (Bw.tr H7.out.1 hwq)) h1.1 h3
   go_cut [8] (fun s7 wx=>∃b7:Nat,s7= .pointer (some ⟨b7,0,none⟩)∧DgA wD wx b7 p1 p2 p3)
   case first=>
    go_region_held3 (fun w'=>w'.cell? ⟨b5,0,none⟩=some (.pointer p1)∧w'.cell? ⟨b5,1,none⟩=some (.pointer p2)∧w'.cell? ⟨b5,2,none⟩=some (.pointer p3)∧w'.cell? ⟨wb,1,none⟩=some (Ab br))
     (first|(with_reducible exact S0)|(with_reducible exact S1)|((with_reducible refine BJ (by assumption) ?_);assumption)|((with_reducible refine BJ A5 ?_);assumption)|((with_reducible refine BJ A5.dr ?_);assumption)|((with_reducible refine keepP31 (by assumption) (by assumption) ?_ _ rfl);assumption)|exact BJ (Bw.al (Bw.tr Bw.rfl.dr hb1) _) S0|go_keep)
     ((go_at_call 112;refine(HCD.out _ (by first|exact Bw.rfl.dr|exact(Bw.rfl.al _).dr|exact Bw.rfl)).mono ?_;rintro _ w1 ⟨rfl,hb1⟩;try(obtain⟨qn,fn⟩:=A1 (A2 hb1 (show((wD.alloc _).drew).heap[wD.heap.size]?=some _ from A4));have hltn:wD.heap.size<w1.heap.size:=A0 (A2 hb1 (show((wD.alloc _).drew).heap[wD.heap.size]?=some _ from A4)))))
    ·go_wp2_with fail
     go_meet
     exact⟨_,rfl,DgA.one hb1⟩
    ·go_wp2_with fail
     go_meet
     exact⟨_,rfl,DgA.two (wa:=(wD.alloc (.cells #[.pointer none, .pointer none, .pointer none] 80)).drew) rfl (Bw.rfl.al _).dr hb1⟩
   case rest=>
    obtain⟨b8,rfl,h8⟩:=hcut
    obtain⟨wE,hwE⟩:∃wE:World,wE=wc:=⟨_,rfl⟩
    subst hwE
    have H8:=Lib.hid h8
    have HM8:=Lib.hid (A2 h8.1 HM7.out)
    have H78:=Lib.hid (A2 h8.1 H7.out.2.2)
    have HBE:=Lib.hid ((HA.out.1.tr H7.out.1).tr h8.1)
    clear h8 q f q5 f5
    obtain⟨q,f⟩:=A1 HM8.out
    have hltE:=A0 HM8.out
    have hlt8:=A0 H8.out.2.2
    have CE:=Lib.hid ((eq_c a.sz).1 a (Nat.le_refl _) (At wE) p1 p2 p3 b7 0 b8 0 wE (Imm.self wE) (by
      obtain⟨K,h1,h2,h3⟩:=HA.out.2.2.2
      exact h3.mono ((h2.below H7.out.1).below H8.out.1))
     ⟨by rw [Ai];exact(A1 H78.out).1 0,by rw [Ai];exact(A1 H78.out).1 1,by rw [Ai];exact(A1 H78.out).1 2⟩
     ⟨by rw [Ai];exact(A1 H8.out.2.2).1 0,by rw [Ai];exact(A1 H8.out.2.2).1 1,by rw [Ai];exact(A1 H8.out.2.2).1 2⟩ hnn)
    go_wp2_with fail
    refine CE.out.mono ?_
    rintro _ wF ⟨rfl,hF⟩
    have HBF:=Lib.hid (HBE.out.tr hF)
    have HAF:=Lib.hid ((H7.out.1.tr H8.out.1).tr hF)
    have HMF:=Lib.hid (A2 hF HM8.out)
    have H8F:=Lib.hid (A2 hF H8.out.2.2)
    clear hF q f
    obtain⟨q,f⟩:=A1 HMF.out
    obtain⟨q8,f8⟩:=A1 H8F.out
    have hltE:=A0 HMF.out
    have hlt8:=A0 H8F.out
    go_upto_region 11 with(fail)
    have S0:wF.cell? ⟨b8,0,none⟩=some (.pointer p1)∧wF.cell? ⟨b8,1,none⟩=some (.pointer p2)∧wF.cell? ⟨b8,2,none⟩=some (.pointer p3)∧wF.cell? ⟨wb,3,none⟩=some (.pointer y0)∧wF.cell? ⟨wb,4,none⟩=some (.pointer y1)∧wF.cell? ⟨wb,5,none⟩=some (.pointer y2)∧wF.cell? ⟨wb,6,none⟩=some (.pointer y3)∧wF.cell? ⟨wb,7,none⟩=some (.pointer y4)∧wF.cell? ⟨wb,8,none⟩=some (.bool false):=⟨q8 0,q8 1,q8 2,q 3,q 4,q 5,q 6,q 7,q 8⟩
    have S1:wF.drew.cell? ⟨b8,0,none⟩=some (.pointer p1)∧wF.drew.cell? ⟨b8,1,none⟩=some (.pointer p2)∧wF.drew.cell? ⟨b8,2,none⟩=some (.pointer p3)∧wF.drew.cell? ⟨wb,3,none⟩=some (.pointer y0)∧wF.drew.cell? ⟨wb,4,none⟩=some (.pointer y1)∧wF.drew.cell? ⟨wb,5,none⟩=some (.pointer y2)∧wF.drew.cell? ⟨wb,6,none⟩=some (.pointer y3)∧wF.drew.cell? ⟨wb,7,none⟩=some (.pointer y4)∧wF.drew.cell? ⟨wb,8,none⟩=some (.bool false):=S0
    have HHC:Hid (∀wq,Bw w wq→wq.heap=wF.heap→Calls Tryz.prog 113 #[.agg #[.pointer p1, .pointer p2, .pointer p3], .agg #[.pointer y0, .pointer y1, .pointer y2, .pointer y3, .pointer y4, .bool false], .iface 196 (.pointer (some ⟨wb,0,none⟩))] wq (fun e w2=>e= .returned (.slice none 0 0)∧Q wq w2)):=by
     intro wq hwq hqe
     obtain⟨K,h1,h2,h3⟩:=HA.out.2.2.2
     refine HH.out.2.2.1 K wq p1 p2 p3 hwq ?_ h1.1 h1.2 h3
     intro k o e
     show wq.heap[k]?=some o
     rw [hqe];exact(h2.below HAF.out) k o e
    clear q f q8 f8
    go_region_held3 (fun w'=>w'.cell? ⟨b8,0,none⟩=some (.pointer p1)∧w'.cell? ⟨b8,1,none⟩=some (.pointer p2)∧w'.cell? ⟨b8,2,none⟩=some (.pointer p3)∧w'.cell? ⟨wb,3,none⟩=some (.pointer y0)∧w'.cell? ⟨wb,4,none⟩=some (.pointer y1)∧w'.cell? ⟨wb,5,none⟩=some (.pointer y2)∧w'.cell? ⟨wb,6,none⟩=some (.pointer y3)∧w'.cell? ⟨wb,7,none⟩=some (.pointer y4)∧w'.cell? ⟨wb,8,none⟩=some (.bool false))
     (first|(with_reducible exact S0)|(with_reducible exact S1)|(with_reducible exact S2)|go_keep)
     ((go_at_call 113;refine(HHC.out _ (by first|exact HBF.out.dr|exact HBF.out) (by exact rfl)).mono ?_;rintro _ w2 ⟨rfl,hQ⟩;have HQ2:=Lib.hid (And.intro hQ (HH.out.2.2.2 _ w2 (by first|exact HBF.out.dr|exact HBF.out) hQ));clear hQ;have S2:w2.cell? ⟨b8,0,none⟩=some (.pointer p1)∧w2.cell? ⟨b8,1,none⟩=some (.pointer p2)∧w2.cell? ⟨b8,2,none⟩=some (.pointer p3)∧w2.cell? ⟨wb,3,none⟩=some (.pointer y0)∧w2.cell? ⟨wb,4,none⟩=some (.pointer y1)∧w2.cell? ⟨wb,5,none⟩=some (.pointer y2)∧w2.cell? ⟨wb,6,none⟩=some (.pointer y3)∧w2.cell? ⟨wb,7,none⟩=some (.pointer y4)∧w2.cell? ⟨wb,8,none⟩=some (.bool false):=tmS9 HQ2.out.2.1 (HQ2.out.2.2 b8 (by have:=H8.out.2.1;have:=HBE.out.size;have:=(HA.out.1.tr H7.out.1).size;omega) (by exact hlt8)) H8F.out))
    obtain⟨⟨m',hm',hy'⟩,hfar⟩:=HQ2.out.2
    unfold MW.obj at hm'
    have HM2:=Lib.hid hm'
    obtain⟨q,f⟩:=A1 hm'
    have hlt2:=A0 hm'
    have k13:=q 13
    have k11:=q 11
    clear q hm' hy' hfar S2 S0 S1
    cases hl:m'.leaf
    all_goals
     rw [hl]at k13
     simp at k13 k11
     go_wp2_with fail
     refine(typedmerge_lazy w2).mono ?_
     rintro _ w3 ⟨rfl,rfl⟩
     go_wp2_with fail
     go_ret
     exact⟨rfl,_,_,by first|exact HBF.out.dr|exact HBF.out,HQ2.out.1,Bw.rfl⟩
end
section
open Go Go.RowKit Go.MapKept
theorem info_pe:(Tryz.prog.info? 227).map (fun i=>(i.zero,i.size,i.bytes))=some (some (.agg #[.pointer none, .pointer none, .pointer none, .pointer none]),4,32):=by kernel_rfl
theorem und_path:Tryz.prog.underlying 140=some (.slice 227):=by kernel_rfl
@[go_sem] theorem ptr198_nil_nil (w:World):(binOp .eql 198 (.pointer none) (.pointer none)).run Tryz.prog w= .ok (.bool true) w:=by kernel_rfl
theorem prep_fin {wc W w2:World}{wb2 i:Nat}{cs:Array Value}{T cv:Nat}{av:Option Addr}{x0 x1 x2 x3:Value}(hb:wc.heap[wb2]?=some (.cells cs T))(hW:Bw wc W)(ho:w2.ownsRow wc.heap.size 227 4 (.slice av 1 cv) 1 ([]++[x0,x1,x2,x3]))(hg:W.grownBy w2 (Value.slice none 0 0).ownBlock):
  ∃pr,av=some ⟨pr,0,none⟩∧(w2.setCell ⟨wb2,i,none⟩ (.slice av 1 cv)).heap[wb2]?=some (.cells (cs.setIfInBounds i (.slice av 1 cv)) T)∧
   (w2.setCell ⟨wb2,i,none⟩ (.slice av 1 cv)).ownsRow wc.heap.size 227 4 (.slice av 1 cv) 1 [x0,x1,x2,x3]∧Fr (fun k=>k=wb2) wc.heap.size wc (w2.setCell ⟨wb2,i,none⟩ (.slice av 1 cv)):=by
 have hlt:=A0 hb
 have hs:=hW.size
 have hold:∀k,k<wc.heap.size→w2.heap[k]?=wc.heap[k]?:=fun k hk=>by
  rw [hg.block k (by omega) (by simp [Value.ownBlock])];exact hW.block k hk
 have ht:Az w2 (w2.setCell ⟨wb2,i,none⟩ (.slice av 1 cv)) wb2:=(Az.refl w2 wb2).set _ _
 have hown:=Bj (i:=i) (u:= .slice av 1 cv) ho hlt
 rcases ho.2 with⟨h,_⟩|⟨g,cap,cur,h,_⟩
 ·cases h
 ·cases h
  refine⟨g,rfl,Ac ((hold wb2 hlt).trans hb) i _,by simpa using hown,⟨ht.os.trans (hg.os.trans hW.os),ht.tape.trans (hg.tape.trans hW.tape),ht.output.trans (hg.output.trans hW.output),by rw [ht.size];have:=hg.size;omega,fun k hk hx=>by rw [ht.block k hx];exact hold k hk⟩⟩
theorem row_cells {w:World}{base E pr pc:Nat}{x0 x1 x2 x3:Value}(ho:w.ownsRow base E 4 (.slice (some ⟨pr,0,none⟩) 1 pc) 1 [x0,x1,x2,x3]):
  base≤pr∧1≤pc∧w.cell? ⟨pr,0,none⟩=some x0∧w.cell? ⟨pr,1,none⟩=some x1∧w.cell? ⟨pr,2,none⟩=some x2∧w.cell? ⟨pr,3,none⟩=some x3:=by
 have hlt:=ho.lt pr (by simp [Value.ownBlock])
 rcases ho.2 with⟨h,_⟩|⟨g,cap,cur,h,hb,hg,hnc,hcm,hcs,htake⟩
 ·cases h
 ·cases h
  have hq:∀i u,[x0,x1,x2,x3][i]?=some u→w.cell? ⟨pr,i,none⟩=some u:=by
   intro i u hu
   rw [(A1 hg).1 i]
   have hi:i<4:=by have:=(List.getElem?_eq_some_iff.1 hu).1;simpa using this
   rw [←htake,List.getElem?_take,if_pos (by omega)]at hu
   simpa using hu
  exact⟨hlt.1,hnc,hq 0 _ rfl,hq 1 _ rfl,hq 2 _ rfl,hq 3 _ rfl⟩
def PrepOut (m:MW)(wb:Nat)(fp:Option Addr)(y:Six)(w:World):Ending→World→Prop:=fun e w'=>Fr (fun k=>k=wb) w.heap.size w w'∧
 ∃(w2b sp pr pc eb:Nat),e= .returned (.pointer (some ⟨w2b,0,none⟩))∧w.heap.size≤w2b∧w.heap.size≤sp∧w.heap.size≤pr∧sp≠w2b∧pr≠w2b∧pr≠sp∧w.heap.size≤eb∧eb≠w2b∧eb≠sp∧w'.heap[wb]?=some ({m with spare:=some ⟨sp,0,none⟩}:MW).obj∧
  w'.heap[sp]?=some (.cells #[.slice (some ⟨eb,0,none⟩) 0 0] 470)∧w'.heap[eb]?=some (.cells #[] 196)∧w'.heap[w2b]?=some ({m with L:= .nilIface,R:= .nilIface,y:=y,pa:=some ⟨pr,0,none⟩,pn:=1,pc:=pc,out:=none,spare:=some ⟨sp,0,none⟩}:MW).obj∧
  (w'.cell? ⟨pr,0,none⟩=some (.pointer fp)∧w'.cell? ⟨pr,1,none⟩=some (.pointer none)∧w'.cell? ⟨pr,2,none⟩=some (.pointer none)∧w'.cell? ⟨pr,3,none⟩=some (.pointer none))∧1≤pc
theorem tm_prep_end {bl br ha wb pr pc:Nat}{S out fp:Option Addr}{y0 y1 y2 y3 y4:Option Addr}{leaf:Bool}{z:Six}{w wa wp wx:World}(k6:Fr (fun k=>k=wb) w.heap.size w wa)(k5:wa.heap.size=w.heap.size+1+1+1+1)(g1:Bw wa wp)(g3:wp.heap.size=wa.heap.size+1)(h3:Fr (fun k=>k=wa.heap.size) wp.heap.size wp wx)
  (h1:wx.heap[wa.heap.size]?=some (.cells #[Ab bl,Ab br, .pointer S, .pointer z.y0, .pointer z.y1, .pointer z.y2, .pointer z.y3, .pointer z.y4, .bool false, .slice (some ⟨pr,0,none⟩) 1 pc, .func (.func 56) #[] #[], .nilFunc, .pointer out, .bool leaf, .pointer (some ⟨w.heap.size+1+1+1,0,none⟩), .iface 185 (.pointer (some ⟨ha,0,none⟩))] 200))
  (h2:wx.ownsRow wp.heap.size 227 4 (.slice (some ⟨pr,0,none⟩) 1 pc) 1 [.pointer fp, .pointer none, .pointer none, .pointer none])
  (k1:wa.heap[wb]?=some (⟨Ab bl,Ab br,S,⟨y0,y1,y2,y3,y4⟩,none,0,0,out,leaf,some ⟨w.heap.size+1+1+1,0,none⟩,ha⟩:MW).obj) (k4:wa.heap[w.heap.size+1+1+1]?=some (.cells #[.slice (some ⟨w.heap.size+1+1,0,none⟩) 0 0] 470)) (k3:wa.heap[w.heap.size+1+1]?=some (.cells #[] 196)) (hlt:wb<w.heap.size):
  PrepOut ⟨Ab bl,Ab br,S,⟨y0,y1,y2,y3,y4⟩,none,0,0,out,leaf,none,ha⟩ wb fp z w (.returned (.pointer (some ⟨wa.heap.size,0,none⟩))) (((wx.setCell ⟨wa.heap.size,0,none⟩ .nilIface).setCell ⟨wa.heap.size,1,none⟩ .nilIface).setCell ⟨wa.heap.size,12,none⟩ (.pointer none)):=by
 obtain⟨hpr,hpc1,c0,c1,c2,c3⟩:=row_cells h2
 have t1:Az wx (((wx.setCell ⟨wa.heap.size,0,none⟩ .nilIface).setCell ⟨wa.heap.size,1,none⟩ .nilIface).setCell ⟨wa.heap.size,12,none⟩ (.pointer none)) wa.heap.size:=(((Az.refl wx _).set _ _).set _ _).set _ _
 have hfar:∀k,k<wp.heap.size→k≠wa.heap.size→(((wx.setCell ⟨wa.heap.size,0,none⟩ .nilIface).setCell ⟨wa.heap.size,1,none⟩ .nilIface).setCell ⟨wa.heap.size,12,none⟩ (.pointer none)).heap[k]?=wp.heap[k]?:=fun k hk hx=>(t1.block k hx).trans (h3.block k hk hx)
 have hcell:∀i u,wx.cell? ⟨pr,i,none⟩=some u→(((wx.setCell ⟨wa.heap.size,0,none⟩ .nilIface).setCell ⟨wa.heap.size,1,none⟩ .nilIface).setCell ⟨wa.heap.size,12,none⟩ (.pointer none)).cell? ⟨pr,i,none⟩=some u:=by
  intro i u hu
  rw [World.cell?_of_block (t1.block pr (by omega))];exact hu
 refine⟨⟨t1.os.trans (h3.os.trans (g1.os.trans k6.os)),t1.tape.trans (h3.tape.trans (g1.tape.trans k6.tape)),t1.output.trans (h3.output.trans (g1.output.trans k6.output)),by rw [t1.size];have:=h3.size;omega,fun k hk hx=>by
   rw [hfar k (by omega) (by omega),g1.block k (by omega)];exact k6.block k hk hx⟩,wa.heap.size,w.heap.size+1+1+1,pr,pc,w.heap.size+1+1,rfl,by omega,by omega,by omega,by omega,by omega,by omega,by omega,by omega,by omega, ?_, ?_, ?_, ?_,⟨hcell _ _ c0,hcell _ _ c1,hcell _ _ c2,hcell _ _ c3⟩,hpc1⟩
 ·rw [hfar wb (by omega) (by omega),g1.block wb (by omega)];exact k1
 ·rw [hfar _ (by omega) (by omega),g1.block _ (by omega)];exact k4
 ·rw [hfar _ (by omega) (by omega),g1.block _ (by omega)];exact k3
 ·have:=Ac (Ac (Ac h1 0 .nilIface) 1 .nilIface) 12 (.pointer none)
  unfold MW.obj
  simpa using this
theorem tm_prep (m:MW)(wb bl br:Nat)(fp:Option Addr)(y:Six)(w:World)(hL:m.L=Ab bl)(hR:m.R=Ab br)(hsp:m.spare=none)(hpa:m.pa=none)(hpn:m.pn=0)(hpc:m.pc=0)(hb:w.heap[wb]?=some m.obj):
  Calls Tryz.prog 298 #[.pointer (some ⟨wb,0,none⟩), .agg #[.pointer fp, .pointer none, .pointer none, .pointer none],F9 y] w (PrepOut m wb fp y w):=by
 rcases m with⟨L,R,S,⟨y0,y1,y2,y3,y4⟩,pa,pn,pc,out,leaf,spare,ha⟩
 rcases y with⟨z0,z1,z2,z3,z4⟩
 simp only at hsp hpa hpn hpc hL hR
 subst hsp hpa hpn hpc hL hR
 unfold MW.obj at hb
 simp only at hb
 have HB:=Lib.hid hb
 obtain⟨q,f⟩:=A1 HB.out
 have hlt:=A0 HB.out
 obtain⟨u0,u1,u2,u3,u4,u5,u6,u7,u8⟩:=ltx hlt
 have v1:wb<w.heap.size+1+1:=by omega
 have v2:wb<w.heap.size+1+1+1:=by omega
 have v3:wb<w.heap.size+1+1+1+1:=by omega
 have hbs:∀w,(Instr.buildSlice 470 0 #[]).run Tryz.prog w= .ok (.slice (some ⟨w.heap.size,0,none⟩) 0 0) (w.alloc (.cells #[] 196)):=fun _=>by kernel_rfl
 clear hb
 go_enter Tryz.func298,Tryz.ntmps298
 go_upto_region 3 with(fail)
 obtain⟨wa,hwa⟩:∃wa,wa=((((w.setCell ⟨wb,14,none⟩ (.pointer (some ⟨w.heap.size+1+1+1,0,none⟩))).alloc (.cells #[.pointer fp, .pointer none, .pointer none, .pointer none] 227)).alloc (.cells #[.pointer z0, .pointer z1, .pointer z2, .pointer z3, .pointer z4, .bool false] 83)).alloc (.cells #[] 196)).alloc (.cells #[.slice (some ⟨w.heap.size+1+1,0,none⟩) 0 0] 470):=⟨_,rfl⟩
 have HW:Hid (wa.heap[wb]?=some (⟨Ab bl,Ab br,S,⟨y0,y1,y2,y3,y4⟩,none,0,0,out,leaf,some ⟨w.heap.size+1+1+1,0,none⟩,ha⟩:MW).obj∧wa.heap[w.heap.size]?=some (.cells #[.pointer fp, .pointer none, .pointer none, .pointer none] 227)∧wa.heap[w.heap.size+1]?=some (.cells #[.pointer z0, .pointer z1, .pointer z2, .pointer z3, .pointer z4, .bool false] 83)∧
   wa.heap[w.heap.size+1+1+1]?=some (.cells #[.slice (some ⟨w.heap.size+1+1,0,none⟩) 0 0] 470)∧wa.heap.size=w.heap.size+1+1+1+1∧Fr (fun k=>k=wb) w.heap.size w wa∧wa.heap[w.heap.size+1+1]?=some (.cells #[] 196)):=by
  subst hwa
  have ht:Az w (w.setCell ⟨wb,14,none⟩ (.pointer (some ⟨w.heap.size+1+1+1,0,none⟩))) wb:=(Az.refl w wb).set _ _
  have hs:=ht.size
  refine⟨A3 (A3 (A3 (A3 ?_))),by simpa using b4_0 (w:=w.setCell ⟨wb,14,none⟩ (.pointer (some ⟨w.heap.size+1+1+1,0,none⟩))),by simpa using b4_1 (w:=w.setCell ⟨wb,14,none⟩ (.pointer (some ⟨w.heap.size+1+1+1,0,none⟩))),by simpa using b4_3 (w:=w.setCell ⟨wb,14,none⟩ (.pointer (some ⟨w.heap.size+1+1+1,0,none⟩))),by simp, ?_,by simpa using b4_2 (w:=w.setCell ⟨wb,14,none⟩ (.pointer (some ⟨w.heap.size+1+1+1,0,none⟩)))⟩
  ·have:=Ac HB.out 14 (.pointer (some ⟨w.heap.size+1+1+1,0,none⟩))
   unfold MW.obj
   simpa using this
  ·exact fr_turn ht (((A5.al _).al _).al _)
 rw [←hwa]
 clear hwa q f u0 u1 u2 u3 u4 u5 u6 u7 u8 v1 v2 v3
 obtain⟨q,f⟩:=A1 HW.out.1
 obtain⟨q0,f0⟩:=A1 HW.out.2.1
 obtain⟨q1,f1⟩:=A1 HW.out.2.2.1
 obtain⟨q3,f3⟩:=A1 HW.out.2.2.2.1
 have hsa:=HW.out.2.2.2.2.1
 have HSA:=Lib.hid hsa
 have hlta:=A0 HW.out.1
 have hlt3:=A0 HW.out.2.2.2.1
 have n1:¬wa.heap.size=wb:=by omega
 have n2:¬wb=wa.heap.size:=by omega
 have e1:w.heap.size<wa.heap.size:=by omega
 have e2:w.heap.size+1<wa.heap.size:=by omega
 clear hsa
 go_upto_region 10 with(fail)
 obtain⟨wp,hwc⟩:∃wp,wp=wa.alloc (.cells #[Ab bl,Ab br, .pointer S, .pointer z0, .pointer z1, .pointer z2, .pointer z3, .pointer z4, .bool false, .slice none 0 0, .func (.func 56) #[] #[], .nilFunc, .pointer out, .bool leaf, .pointer (some ⟨w.heap.size+1+1+1,0,none⟩), .iface 185 (.pointer (some ⟨ha,0,none⟩))] 200):=⟨_,rfl⟩
 have HC:Hid (Bw wa wp∧wp.heap[wa.heap.size]?=some (.cells #[Ab bl,Ab br, .pointer S, .pointer z0, .pointer z1, .pointer z2, .pointer z3, .pointer z4, .bool false, .slice none 0 0, .func (.func 56) #[] #[], .nilFunc, .pointer out, .bool leaf, .pointer (some ⟨w.heap.size+1+1+1,0,none⟩), .iface 185 (.pointer (some ⟨ha,0,none⟩))] 200)∧wp.heap.size=wa.heap.size+1):=by subst hwc;exact⟨A5,A4,by simp⟩
 rw [←hwc]
 clear hwc q f q0 f0 q1 f1 q3 f3
 obtain⟨q,f⟩:=A1 HC.out.2.1
 obtain⟨q0,f0⟩:=A1 (A2 HC.out.1 HW.out.2.1)
 have hl0:=A0 (A2 HC.out.1 HW.out.2.1)
 have hlc:=A0 HC.out.2.1
 have n3:¬wa.heap.size=wp.heap.size:=by omega
 have n4:¬w.heap.size=wp.heap.size:=by omega
 have n5:¬wp.heap.size=wa.heap.size:=by omega
 go_cut [] (fun wx=>∃(pr pc:Nat),wx.heap[wa.heap.size]?=some (.cells #[Ab bl,Ab br, .pointer S, .pointer z0, .pointer z1, .pointer z2, .pointer z3, .pointer z4, .bool false, .slice (some ⟨pr,0,none⟩) 1 pc, .func (.func 56) #[] #[], .nilFunc, .pointer out, .bool leaf, .pointer (some ⟨w.heap.size+1+1+1,0,none⟩), .iface 185 (.pointer (some ⟨ha,0,none⟩))] 200)∧wx.ownsRow wp.heap.size 227 4 (.slice (some ⟨pr,0,none⟩) 1 pc) 1 [.pointer fp, .pointer none, .pointer none, .pointer none]∧Fr (fun k=>k=wa.heap.size) wp.heap.size wp wx)
 case first=>
  go_region_law
   (first
    |(refine AH _ (by rfl) _ _ 140 (by rfl) wp.heap.size 227 _ 4 32 und_path info_pe (by rfl) (by decide) (by decide) (.slice none 0 0) 0 [] (by rfl) (World.ownsRow_nil _ _ _ _) wp.heap.size _ _ (by rfl) (by exact A4) (by rfl) (by simp [Value.oneCell']) (by unfold lim;omega) (by simp) ?_;intro v' w2 ho2 hg2 hwh2;obtain⟨av2,cv2,rfl⟩:=Aj ho2;have HG:=Lib.hid (And.intro ho2 hg2);clear hwh2;have hbz:=(hg2.block wa.heap.size (by simp;omega) (fun e=>by simp [Value.ownBlock]at e)).trans (A3 HC.out.2.1);obtain⟨q2z,f2z⟩:=A1 hbz;have hlz:=A0 hbz))
  all_goals
   go_wp2_with fail
   go_meet
   obtain⟨pr,h1,h2,h3,h4⟩:=prep_fin (i:=9) HC.out.2.1 (by first|exact(Bw.rfl.al _).dr|exact Bw.rfl.al _|exact Bw.rfl.dr.al _) HG.out.1 HG.out.2
   subst h1
   exact⟨pr,cv2,by simpa using h2,h3,h4⟩
 case rest=>
  obtain⟨pr,pc,hb2,hrow,hfr⟩:=hcut
  have HX:=Lib.hid (And.intro hb2 (And.intro hrow hfr))
  clear hb2 hrow hfr q f q0 f0
  obtain⟨q,f⟩:=A1 HX.out.1
  have hlx:=A0 HX.out.1
  go_wp2_with fail
  go_ret
  obtain⟨h1,h2,h3⟩:=HX.out
  obtain⟨g1,g2,g3⟩:=HC.out
  obtain⟨k1,_,_,k4,k5,k6,k3⟩:=HW.out
  exact tm_prep_end (z:=⟨z0,z1,z2,z3,z4⟩) k6 k5 g1 g3 h3 h1 h2 k1 k4 k3 hlt
end
section
open Go Go.RowKit Go.MapKept
theorem info_mwp:(Tryz.prog.info? 196).map (fun i=>(i.zero,i.size,i.bytes))=some (some (.pointer none),1,8):=by kernel_rfl
theorem und_mwps:Tryz.prog.underlying 470=some (.slice 196):=by kernel_rfl
theorem own_empty {w:World}{g T base:Nat}(h:w.heap[g]?=some (.cells #[] T))(hb:base≤g):w.ownsRow base T 1 (.slice (some ⟨g,0,none⟩) 0 0) 0 []:=
 ⟨rfl, .inr ⟨g,0, #[],rfl,hb,h,Nat.le_refl _,by unfold maxLen;omega,rfl,rfl⟩⟩
def FinOut (m:MW)(wb sp eb:Nat)(w:World):Ending→World→Prop:=fun e w'=>e= .returned (.tuple #[])∧Fr (fun k=>k=wb∨k=sp∨k=eb) w.heap.size w w'∧∃pa pn pc,w'.heap[wb]?=some ({m with pa:=pa,pn:=pn,pc:=pc}:MW).obj
theorem fin_end {m:MW}{wb sp eb pr pc:Nat}{v:Value}{w wa w2 W:World}(h1:Az w wa wb)(h2:wa.heap[wb]?=some ({m with pa:=some ⟨pr,0,none⟩,pn:=0,pc:=pc}:MW).obj)(hW:Bw wa W)(hg:W.grownBy w2 (some eb))(n1:wb≠sp)(n2:wb≠eb)(hlt:wb<w.heap.size):
  FinOut m wb sp eb w (.returned (.tuple #[])) (w2.setCell ⟨sp,0,none⟩ v):=by
 have t2:Az w2 (w2.setCell ⟨sp,0,none⟩ v) sp:=(Az.refl w2 sp).set _ _
 have hs:=hW.size
 have hfar:∀k,k<wa.heap.size→k≠sp→k≠eb→(w2.setCell ⟨sp,0,none⟩ v).heap[k]?=wa.heap[k]?:=fun k hk a b=>by
  rw [t2.block k a,hg.block k (by omega) (fun e=>b (by cases e;rfl))];exact hW.block k hk
 refine⟨rfl,⟨t2.os.trans (hg.os.trans (hW.os.trans h1.os)),t2.tape.trans (hg.tape.trans (hW.tape.trans h1.tape)),t2.output.trans (hg.output.trans (hW.output.trans h1.output)),by rw [t2.size];have:=hg.size;have:=h1.size;omega,fun k hk hx=> ?_⟩,some ⟨pr,0,none⟩,0,pc, ?_⟩
 ·simp only [not_or]at hx
  rw [hfar k (by rw [h1.size];exact hk) hx.2.1 hx.2.2];exact h1.block k hx.1
 ·rw [hfar wb (by rw [h1.size];exact hlt) n1 n2];exact h2
theorem tm_fin (m m2:MW)(wb w2b sp eb pr pc bl br:Nat)(w:World)(hL:m.L=Ab bl)(hR:m.R=Ab br)(hsp:m.spare=some ⟨sp,0,none⟩)(hpa:m2.pa=some ⟨pr,0,none⟩)(hpn:m2.pn=1)(hpc:m2.pc=pc)(hpc1:1≤pc)(hb:w.heap[wb]?=some m.obj)(hb2:w.heap[w2b]?=some m2.obj)
  (hs:w.heap[sp]?=some (.cells #[.slice (some ⟨eb,0,none⟩) 0 0] 470)) (he:w.heap[eb]?=some (.cells #[] 196)) (n1:wb≠sp) (n2:wb≠eb) (n3:wb≠w2b) (n4:sp≠eb):
  Calls Tryz.prog 299 #[.pointer (some ⟨wb,0,none⟩), .pointer (some ⟨w2b,0,none⟩)] w (FinOut m wb sp eb w):=by
 rcases m with⟨L,R,S,⟨y0,y1,y2,y3,y4⟩,pa,pn,pc0,out,leaf,spare,ha⟩
 rcases m2 with⟨L2,R2,S2,⟨x0,x1,x2,x3,x4⟩,pa2,pn2,pc2,out2,leaf2,spare2,ha2⟩
 simp only at hL hR hsp hpa hpn hpc
 subst hL hR hsp hpa hpn hpc
 have HBO:=Lib.hid hb
 unfold MW.obj at hb hb2
 simp only at hb hb2
 have HB:=Lib.hid (And.intro hb (And.intro hb2 (And.intro hs he)))
 obtain⟨q,f⟩:=A1 hb
 obtain⟨q2,f2⟩:=A1 hb2
 obtain⟨q3,f3⟩:=A1 hs
 have hlt:=A0 hb
 have hlt2:=A0 hb2
 have hlt3:=A0 hs
 have k9:=q2 9
 have g9:=f 9
 have hb0:0<pc2:=by omega
 have hw0:IntKind.i64.wrap 0=0:=rfl
 have hc0:(0:Int)≤(pc2:Int):=by omega
 clear hb hb2 hs he
 go_enter Tryz.func299,Tryz.ntmps299
 go_wp2_with fail
 go_cut [] (fun wx=>∃pr' pc',Az w wx wb∧wx.heap[wb]?=some (⟨Ab bl,Ab br,S,⟨y0,y1,y2,y3,y4⟩,some ⟨pr',0,none⟩,0,pc',out,leaf,some ⟨sp,0,none⟩,ha⟩:MW).obj)
 case first=>
  go_region_law (fail)
  all_goals
   go_wp2_with fail
   go_meet
   have ht:Az w (w.setCell ⟨wb,9,none⟩ (.slice (some ⟨pr,0,none⟩) 0 pc2)) wb:=(Az.refl w wb).set _ _
   have hx:=Ac HB.out.1 9 (.slice (some ⟨pr,0,none⟩) 0 pc2)
   refine⟨pr,pc2,⟨ht.os,ht.tape,ht.output,ht.size,ht.block⟩, ?_⟩
   unfold MW.obj
   show(w.setCell ⟨wb,9,none⟩ (.slice (some ⟨pr,0,none⟩) 0 pc2)).heap[wb]?=_
   simpa using hx
 case rest=>
  obtain⟨pr',pc',ht,hx⟩:=hcut
  obtain⟨wa,hwa⟩:∃wa:World,wa=wc:=⟨_,rfl⟩
  subst hwa
  have HX:=Lib.hid (And.intro ht hx)
  have hsz:=ht.size
  have hs1:wa.heap[sp]?=some (.cells #[.slice (some ⟨eb,0,none⟩) 0 0] 470):=(ht.block sp (fun e=>n1 e.symm)).trans HB.out.2.2.1
  have he1:wa.heap[eb]?=some (.cells #[] 196):=(ht.block eb (fun e=>n2 e.symm)).trans HB.out.2.2.2
  have HE:=Lib.hid (And.intro hs1 he1)
  have hlta:sp<wa.heap.size:=A0 hs1
  have hlte:eb<wa.heap.size:=A0 he1
  have hltw:wb<wa.heap.size:=A0 hx
  unfold MW.obj at hx
  have HXU:=Lib.hid hx
  clear q f q2 f2 q3 f3 k9 g9 ht hsz
  obtain⟨q,f⟩:=A1 hx
  obtain⟨q3,f3⟩:=A1 hs1
  clear hx hs1 he1
  go_upto_region 1 with(fail)
  go_region_law
   (first
    |(refine AH _ (by rfl) _ _ 470 (by rfl) 0 196 _ 1 8 und_mwps info_mwp (by rfl) (by decide) (by decide) (.slice (some ⟨eb,0,none⟩) 0 0) 0 [] (by rfl) (own_empty (by exact A3 HE.out.2) (Nat.zero_le _)) wa.heap.size _ _ (by rfl) (by exact A4) (by rfl) (by simp [Value.oneCell']) (by unfold lim;omega) (by simp) ?_;intro v' w2 ho2 hg2 hwh2;obtain⟨av2,cv2,rfl⟩:=Aj ho2;have HG:=Lib.hid hg2;clear hwh2 ho2;have hbz:=(hg2.block sp (by simp;omega) (fun e=>n4 (by simp [Value.ownBlock]at e;exact e))).trans (A3 HE.out.1);obtain⟨q2z,f2z⟩:=A1 hbz;have hlz:=A0 hbz;have hby:=(hg2.block wb (by simp;omega) (fun e=>n2 (by simp [Value.ownBlock]at e;exact e))).trans (A3 HXU.out);obtain⟨q1z,f1z⟩:=A1 hby;have hly:=A0 hby))
  all_goals
   go_wp2_with fail
   go_end0
   exact fin_end HX.out.1 HX.out.2 (by first|exact(Bw.rfl.al _).dr|exact Bw.rfl.al _|exact Bw.rfl.dr.al _) HG.out n1 n2 hlt
end
section
open Go Go.RowKit Go.MapKept
structure OneF (H:Hp) (bt:Nat) (key:ByteArray) (r:As):Prop where
 fields:∃xf,A8 H bt 0=some xf∧Sl (fun a=>AW Ak H a 0 [⟨key,r,[]⟩]) 1 xf
 elem:∃ye,E7 H bt 2 ye
def ItemOut (m:MW)(wb ob:Nat)(key:ByteArray)(u:JT)(H:Hp)(w:World):Ending→World→Prop:=fun e w'=>e= .returned (.slice none 0 0)∧Fr (fun k=>k=wb∨k=ob) w.heap.size w w'∧
 (∃pa pn pc sp,w'.heap[wb]?=some ({m with pa:=pa,pn:=pn,pc:=pc,spare:=sp}:MW).obj)∧∃es ck,AZ H w' ob [key] [u] es ck
theorem tm_item (m:MW)(wb bt ob bl br b1 b2:Nat)(key:ByteArray)(r:As)(u:JT)(yv:Value)(H H0:Hp)(w:World)(hL:m.L=Ab b1)(hR:m.R=Ab b2)(hsp:m.spare=none)(hpa:m.pa=none)(hpn:m.pn=0)(hpc:m.pc=0)(hi:Imm H w)(hHw:H wb=none)(hHo:H ob=none)(hwo:wb≠ob)(hks:key.size≤lim)
  (ht:OneF H bt key r) (hb:w.heap[wb]?=some m.obj) (es:Array MapEntry) (ck:Nat) (ho:AZ H0 w ob [] [] es ck) (hu:RJ H0 u yv)
  (hM:∀(w1:World) (w2b:Nat) (m2:MW) (y:Six),BM Ak H r y→Imm H w1→H w2b=none→m2.L=Ab bl→m2.R=Ab br→m2.S=m.S→m2.y=y→m2.leaf=m.leaf→m2.ha=m.ha→w1.heap[w2b]?=some m2.obj→
   Calls Tryz.prog 90 #[.pointer (some ⟨w2b,0,none⟩), .nilFunc] w1 (fun e w'=>e= .returned (.slice none 0 0)∧∃wx wy,Bw w1 wx∧TmOut wx w2b {m2 with leaf:=true} yv wy∧Bw wy w')):
  Calls Tryz.prog 293 #[.pointer (some ⟨wb,0,none⟩), .pointer (some ⟨bt,0,none⟩), .map (some ob), .string key,Ab bl,Ab br] w (ItemOut m wb ob key u H0 w):=by
 obtain⟨⟨xf,hxf,hsl⟩,⟨ye,hye⟩⟩:=ht
 have HF:=Lib.hid (fun w0 h0=>findField_c H [⟨key,r,[]⟩] key bt xf w0 h0 hxf hsl)
 have hlast:Dy [⟨key,r,[]⟩] key [(⟨key,r,[]⟩:Au)].length=some ⟨key,r,[]⟩:=by simp [Dy]
 rw [hlast]at HF
 have HI:=Lib.hid (And.intro hi (And.intro hb (And.intro ho (And.intro hu hM))))
 have HN:=Lib.hid (And.intro hHw (And.intro hHo hwo))
 have hlt:=A0 hb
 have hltt:bt<w.heap.size:=Ah (hi.cell hxf)
 obtain⟨k0,k1,k2,k3,k4,k5⟩:=hye.look hi
 clear hi hb ho hu hM hlast hxf hsl hye
 go_enter Tryz.func293,Tryz.ntmps293
 go_wp2_with fail
 refine(HF.out _ (HI.out.1.below Am)).mono ?_
 rintro _ w1 ⟨hb1,y,xd,rfl,hq⟩
 obtain rfl:xd= .nilIface:=hq.2.2
 have HQ:=Lib.hid (And.intro hq.2.1 hb1)
 have hx0:=A2 hb1 Cs
 have hx1:=A2 hb1 BF
 have HX:=Lib.hid (And.intro hx0 hx1)
 have hl1:w.heap.size+1<w1.heap.size:=A0 hx1
 obtain⟨q0,f0⟩:=A1 hx0
 obtain⟨q1,f1⟩:=A1 hx1
 clear hb1 hq hx0 hx1 k0 k1 k2 k3 k4 k5
 go_upto_region 6 with(fail)
 obtain⟨ws,hws⟩:∃ws,ws=((((((w1.setCell ⟨w.heap.size+1,0,none⟩ (.pointer y.y0)).setCell ⟨w.heap.size+1,1,none⟩ (.pointer y.y1)).setCell ⟨w.heap.size+1,2,none⟩ (.pointer y.y2)).setCell ⟨w.heap.size+1,3,none⟩ (.pointer y.y3)).setCell ⟨w.heap.size+1,4,none⟩ (.pointer y.y4)).setCell ⟨w.heap.size+1,5,none⟩ (.bool false)):=⟨_,rfl⟩
 have HS:Hid (Az w1 ws (w.heap.size+1)∧ws.heap[w.heap.size+1]?=some (.cells #[.pointer y.y0, .pointer y.y1, .pointer y.y2, .pointer y.y3, .pointer y.y4, .bool false] 83)):=by
  subst hws
  refine⟨((((((Az.refl w1 _).set _ _).set _ _).set _ _).set _ _).set _ _).set _ _, ?_⟩
  simpa using Ac (Ac (Ac (Ac (Ac (Ac HX.out.2 0 (.pointer y.y0)) 1 (.pointer y.y1)) 2 (.pointer y.y2)) 3 (.pointer y.y3)) 4 (.pointer y.y4)) 5 (.bool false)
 rw [←hws]
 obtain⟨wa,hwa⟩:∃wa,wa=(ws.alloc (.cells #[.string key, .pointer y.y0, .pointer y.y1, .pointer y.y2, .pointer y.y3, .pointer y.y4, .bool false, .nilIface] 241)).alloc (.cells #[.pointer (some ⟨w.heap.size,0,none⟩), .pointer none, .pointer none, .pointer none] 227):=⟨_,rfl⟩
 have HA:Hid (Bw w wa∧wa.heap[w.heap.size]?=some (.cells #[.string key] 9)∧wa.heap[w.heap.size+1]?=some (.cells #[.pointer y.y0, .pointer y.y1, .pointer y.y2, .pointer y.y3, .pointer y.y4, .bool false] 83)∧wa.heap[w1.heap.size+1]?=some (.cells #[.pointer (some ⟨w.heap.size,0,none⟩), .pointer none, .pointer none, .pointer none] 227)∧wa.heap.size=w1.heap.size+2):=by
  have hsz:=HS.out.1.size
  subst hwa
  refine⟨(((Am.tr HQ.out.2).turn (by omega) HS.out.1).al _).al _,A3 (A3 ?_),A3 (A3 HS.out.2),by rw [←hsz];exact BF,by simp [hsz]⟩
  rw [HS.out.1.block _ (by omega)];exact HX.out.1
 rw [←hwa]
 clear hws hwa q0 f0 q1 f1
 obtain⟨q0,f0⟩:=A1 HA.out.2.2.2.1
 obtain⟨q1,f1⟩:=A1 HA.out.2.2.1
 have hl2:w1.heap.size+1<wa.heap.size:=A0 HA.out.2.2.2.1
 have hl3:w.heap.size+1<wa.heap.size:=A0 HA.out.2.2.1
 go_wp2_with fail
 refine(tm_prep m wb b1 b2 (some ⟨w.heap.size,0,none⟩) y wa hL hR hsp hpa hpn hpc (A2 HA.out.1 HI.out.2.1)).mono ?_
 rintro _ wp ⟨hfr,w2b,sp,pr,pc,eb,rfl,hp⟩
 have HP:=Lib.hid (And.intro hfr hp)
 clear hfr hp q0 f0 q1 f1
 have hbx:wp.heap[w2b]?=some ({m with L:= .nilIface,R:= .nilIface,y:=y,pa:=some ⟨pr,0,none⟩,pn:=1,pc:=pc,out:=none,spare:=some ⟨sp,0,none⟩}:MW).obj:=HP.out.2.2.2.2.2.2.2.2.2.2.2.2.2.1
 unfold MW.obj at hbx
 simp only at hbx
 have HBX:=Lib.hid hbx
 obtain⟨q,f⟩:=A1 hbx
 have hlw:=A0 hbx
 clear hbx
 go_upto_region 9 with(fail)
 obtain⟨wm,hwm⟩:∃wm,wm=(wp.setCell ⟨w2b,0,none⟩ (Ab bl)).setCell ⟨w2b,1,none⟩ (Ab br):=⟨_,rfl⟩
 have HM:Hid (Az wp wm w2b∧wm.heap[w2b]?=some (⟨Ab bl,Ab br,m.S,y,some ⟨pr,0,none⟩,1,pc,none,m.leaf,some ⟨sp,0,none⟩,m.ha⟩:MW).obj):=by
  subst hwm
  refine⟨((Az.refl wp _).set _ _).set _ _, ?_⟩
  have:=Ac (Ac HBX.out 0 (Ab bl)) 1 (Ab br)
  unfold MW.obj
  simpa using this
 rw [←hwm]
 clear hwm q f
 have HIM:Hid (Imm H wm):=by
  have h1:=(HI.out.1.below HA.out.1)
  intro k o e
  have hk:=A0 (h1 k o e)
  show wm.heap[k]?=_
  have hkw:=A0 (HI.out.1 k o e)
  rw [HM.out.1.block k (by have:=HP.out.2.1;have:=HA.out.1.size;omega),HP.out.1.block k (by omega) (fun h=>by rw [h,HN.out.1]at e;cases e)]
  exact h1 k o e
 have hnw2:H w2b=none:=by
  cases hh:H w2b with
  |none=>rfl
  |some o=>have:=A0 (HI.out.1 _ _ hh);have:=HP.out.2.1;have:=HA.out.1.size;omega
 have HMC:=Lib.hid (HI.out.2.2.2.2 wm w2b ⟨Ab bl,Ab br,m.S,y,some ⟨pr,0,none⟩,1,pc,none,m.leaf,some ⟨sp,0,none⟩,m.ha⟩ y HQ.out.1 HIM.out hnw2 rfl rfl rfl rfl rfl rfl HM.out.2)
 have hlm:=A0 HM.out.2
 go_wp2_with fail
 refine HMC.out.mono ?_
 rintro _ wn ⟨rfl,wx,wy,hbx,⟨hfx,obx,h1,h2,h3⟩,hby⟩
 have HFAR:Hid (∀k,k<wp.heap.size→k≠w2b→wn.heap[k]?=wp.heap[k]?):=fun k hk hne=>by
  have e1:=HM.out.1.size
  have e2:=hbx.size
  have e3:=hfx.size
  rw [hby.block k (by omega),hfx.block k (by omega) hne,hbx.block k (by omega),HM.out.1.block k hne]
 have HN2:Hid (wn.heap[w2b]?=some (⟨Ab bl,Ab br,m.S,y,some ⟨pr,0,none⟩,1,pc,some ⟨obx,0,none⟩,true,some ⟨sp,0,none⟩,m.ha⟩:MW).obj∧wn.heap[obx]?=some (.cells #[yv] 20)∧wm.heap.size≤obx∧wm.heap.size≤wn.heap.size∧wn.os=wp.os∧wn.tape=wp.tape∧wn.output=wp.output):=by
  have e2:=hbx.size
  have e3:=hfx.size
  have e4:=hby.size
  exact⟨A2 hby h3,A2 hby h2,by omega,by omega,hby.os.trans (hfx.os.trans (hbx.os.trans HM.out.1.os)),hby.tape.trans (hfx.tape.trans (hbx.tape.trans HM.out.1.tape)),hby.output.trans (hfx.output.trans (hbx.output.trans HM.out.1.output))⟩
 clear hbx hfx h1 h2 h3 hby HMC
 have hx2:=HN2.out.1
 unfold MW.obj at hx2
 simp only at hx2
 obtain⟨q,f⟩:=A1 hx2
 obtain⟨q4,f4⟩:=A1 HN2.out.2.1
 have hln:=A0 hx2
 clear hx2
 have hp1:=HP.out.1.size
 have ha1:=HA.out.1.size
 have ha2:=HA.out.2.2.2.2
 have hkey:wn.heap[w.heap.size]?=some (.cells #[.string key] 9):=by
  have hl:=A0 HA.out.2.1
  rw [HFAR.out _ (by omega) (by have:=HP.out.2.1;omega),HP.out.1.block _ hl (by omega)];exact HA.out.2.1
 obtain⟨q5,f5⟩:=A1 hkey
 have hlk:=A0 hkey
 clear hkey
 go_upto_region 11 with(fail)
 have hwob:wn.heap[ob]?=w.heap[ob]?:=by
  have hl:=A0 HI.out.2.2.1.at_
  have h0:=HP.out.2.1
  rw [HFAR.out _ (by omega) (by omega),HP.out.1.block _ (by omega) (fun h=>HN.out.2.2 h.symm),HA.out.1.block _ hl]
 have hlob:=A0 HI.out.2.2.1.at_
 obtain⟨es',ck',w2,hput,hown,hturn⟩:=AZ.put2 (w:=wn.drew) (HI.out.2.2.1.mono (w':=wn.drew) (Hle.refl _) hwob) key hks u yv HI.out.2.2.2.1
 have HO:=Lib.hid (And.intro hown hturn)
 have S0:wn.cell? ⟨w.heap.size,0,none⟩=some (.string key)∧wn.cell? ⟨w2b,12,none⟩=some (.pointer (some ⟨obx,0,none⟩))∧wn.cell? ⟨obx,0,none⟩=some yv:=⟨q5 0,q 12,q4 0⟩
 have S1:wn.drew.cell? ⟨w.heap.size,0,none⟩=some (.string key)∧wn.drew.cell? ⟨w2b,12,none⟩=some (.pointer (some ⟨obx,0,none⟩))∧wn.drew.cell? ⟨obx,0,none⟩=some yv:=S0
 have S2:w2.cell? ⟨w.heap.size,0,none⟩=some (.string key)∧w2.cell? ⟨w2b,12,none⟩=some (.pointer (some ⟨obx,0,none⟩))∧w2.cell? ⟨obx,0,none⟩=some yv:=by
  have h0:=HP.out.2.1
  have h1:=HN2.out.2.2.1
  have h2:=HM.out.1.size
  exact⟨(World.cell?_of_block (hturn.block w.heap.size (by omega))).trans S1.1,(World.cell?_of_block (hturn.block w2b (by omega))).trans S1.2.1,(World.cell?_of_block (hturn.block obx (by omega))).trans S1.2.2⟩
 clear hown hturn q f q4 f4 q5 f5 hwob
 go_region_held3 (fun w'=>w'.cell? ⟨w.heap.size,0,none⟩=some (.string key)∧w'.cell? ⟨w2b,12,none⟩=some (.pointer (some ⟨obx,0,none⟩))∧w'.cell? ⟨obx,0,none⟩=some yv)
  (first|(with_reducible exact S0)|(with_reducible exact S1)|(with_reducible exact S2)) ((fail))
 have HW2:Hid (∀k,k<wp.heap.size→k≠w2b→k≠ob→w2.heap[k]?=wp.heap[k]?):=fun k h1 h2 h3=>(HO.out.2.block k h3).trans (HFAR.out k h1 h2)
 have hpp:=HP.out.2
 obtain⟨g1,g2,g3,g4,g5,g6,g7,g8,g9,g10,g11,g12,g13,_,g15⟩:=hpp
 have HG:=Lib.hid (And.intro g1 (And.intro g2 (And.intro g3 (And.intro g7 (And.intro g8 (And.intro g9 g15))))))
 have c1:w2.heap[wb]?=some ({m with spare:=some ⟨sp,0,none⟩}:MW).obj:=(HW2.out wb (A0 g10) (by omega) HN.out.2.2).trans g10
 have c2:w2.heap[w2b]?=some (⟨Ab bl,Ab br,m.S,y,some ⟨pr,0,none⟩,1,pc,some ⟨obx,0,none⟩,true,some ⟨sp,0,none⟩,m.ha⟩:MW).obj:=(HO.out.2.block w2b (by omega)).trans HN2.out.1
 have c3:w2.heap[sp]?=some (.cells #[.slice (some ⟨eb,0,none⟩) 0 0] 470):=(HW2.out sp (A0 g11) g4 (by omega)).trans g11
 have c4:w2.heap[eb]?=some (.cells #[] 196):=(HW2.out eb (A0 g12) g8 (by omega)).trans g12
 have HFN:=Lib.hid (tm_fin {m with spare:=some ⟨sp,0,none⟩} ⟨Ab bl,Ab br,m.S,y,some ⟨pr,0,none⟩,1,pc,some ⟨obx,0,none⟩,true,some ⟨sp,0,none⟩,m.ha⟩ wb w2b sp eb pr pc b1 b2 w2 hL hR rfl rfl rfl rfl g15 c1 c2 c3 c4 (by omega) (by omega) (by omega) (fun h=>g9 h.symm))
 clear g1 g2 g3 g4 g5 g6 g7 g8 g9 g10 g11 g12 g13 g15 c1 c2 c3 c4 S0 S1 S2
 go_wp2_with fail
 refine HFN.out.mono ?_
 rintro _ w3 ⟨rfl,hfr3,pa3,pn3,pc3,hb3⟩
 have H3:=Lib.hid (And.intro hfr3 hb3)
 clear hfr3 hb3 HFN
 go_wp2_with fail
 go_ret
 obtain⟨hfr3,hb3⟩:=H3.out
 obtain⟨g1,g2,g3,g7,g8,g9,g15⟩:=HG.out
 have hw2s:=HO.out.2.size
 have hw2s':w2.heap.size=wn.heap.size:=hw2s
 have hns:=HN2.out.2.2.2.1
 have hms:=HM.out.1.size
 refine⟨rfl,⟨?_, ?_, ?_, ?_,fun k hk hx=> ?_⟩,⟨pa3,pn3,pc3,_,hb3⟩,es',ck', ?_⟩
 ·exact hfr3.os.trans (HO.out.2.os.trans (HN2.out.2.2.2.2.1.trans (HP.out.1.os.trans HA.out.1.os)))
 ·exact hfr3.tape.trans (HO.out.2.tape.trans (HN2.out.2.2.2.2.2.1.trans (HP.out.1.tape.trans HA.out.1.tape)))
 ·exact hfr3.output.trans (HO.out.2.output.trans (HN2.out.2.2.2.2.2.2.trans (HP.out.1.output.trans HA.out.1.output)))
 ·have:=hfr3.size;omega
 ·simp only [not_or]at hx
  rw [hfr3.block k (by omega) (by omega),HW2.out k (by omega) (by omega) hx.2,HP.out.1.block k (by omega) hx.1]
  exact HA.out.1.block k hk
 ·have hoo:=HO.out.1
  have e1:E4 [] key=[key]:=by simp [E4]
  have e2:putV [] [] key u=[u]:=by simp [putV]
  rw [e1,e2]at hoo
  exact hoo.mono (Hle.refl _) (hfr3.block ob (by omega) (by have:=HN.out.2.2;omega))
end
section
open Go Go.RowKit Go.MapKept
theorem keepE {w2:World}{be bw bT bo wb bt ob:Nat}(n1:¬bw=be)(n2:¬bT=be)(n3:¬bo=be)(he:w2.heap[be]?=some (.cells #[.slice none 0 0] 194))(h:w2.cell? ⟨be,0,none⟩=some (.slice none 0 0)∧w2.cell? ⟨bw,0,none⟩=some (.pointer (some ⟨wb,0,none⟩))∧w2.cell? ⟨bT,0,none⟩=some (.pointer (some ⟨bt,0,none⟩))∧w2.cell? ⟨bo,0,none⟩=some (.map (some ob))):
  ∀w',w'=w2.setCell ⟨be,0,none⟩ (.slice none 0 0)→w'.cell? ⟨be,0,none⟩=some (.slice none 0 0)∧w'.cell? ⟨bw,0,none⟩=some (.pointer (some ⟨wb,0,none⟩))∧w'.cell? ⟨bT,0,none⟩=some (.pointer (some ⟨bt,0,none⟩))∧w'.cell? ⟨bo,0,none⟩=some (.map (some ob)):=by
 rintro w' rfl
 have hx:=Ac he 0 (.slice none 0 0)
 refine⟨(A1 hx).1 0, ?_⟩
 simpa [World.cell?_setCell_other,n1,n2,n3]using h.2
structure FnBoxes (w:World) (be bw bT bo wb bt ob:Nat):Prop where
 e:w.heap[be]?=some (.cells #[.slice none 0 0] 194)
 w_:w.heap[bw]?=some (.cells #[.pointer (some ⟨wb,0,none⟩)] 196)
 t_:w.heap[bT]?=some (.cells #[.pointer (some ⟨bt,0,none⟩)] 78)
 o_:w.heap[bo]?=some (.cells #[.map (some ob)] 190)
theorem Fr.undrew {X:Nat→Prop}{w w2:World}(h:Fr X w.drew.heap.size w.drew w2):Fr X w.heap.size w w2:=⟨h.os,h.tape,h.output,h.size,h.block⟩
theorem fnb_later {w w2:World}{be bw bT bo wb bt ob:Nat}(hx:FnBoxes w be bw bT bo wb bt ob)(hfr:Fr (fun k=>k=wb∨k=ob) w.heap.size w w2)(hw:∀k,(k=be∨k=bw∨k=bT∨k=bo)→¬k=wb∧¬k=ob):FnBoxes w2 be bw bT bo wb bt ob:=by
 have h:∀k o,(k=be∨k=bw∨k=bT∨k=bo)→w.heap[k]?=some o→w2.heap[k]?=some o:=fun k o hk ho=>by
  rw [hfr.block k (A0 ho) (by have:=hw k hk;simp [this.1,this.2])];exact ho
 exact⟨h _ _ (.inl rfl) hx.e,h _ _ (.inr (.inl rfl)) hx.w_,h _ _ (.inr (.inr (.inl rfl))) hx.t_,h _ _ (.inr (.inr (.inr rfl))) hx.o_⟩
theorem tm_itemFn (m:MW)(wb bt ob bl br be bw bT bo:Nat)(key:ByteArray)(u:JT)(H:Hp)(w:World)(hx:FnBoxes w be bw bT bo wb bt ob)(n1:¬bw=be)(n2:¬bT=be)(n3:¬bo=be)(hw:∀k,(k=be∨k=bw∨k=bT∨k=bo)→¬k=wb∧¬k=ob)
  (hC:∀w1,Bw w w1→Calls Tryz.prog 293 #[.pointer (some ⟨wb,0,none⟩), .pointer (some ⟨bt,0,none⟩), .map (some ob), .string key,Ab bl,Ab br] w1 (ItemOut m wb ob key u H w1)):
  Calls Tryz.prog 292 #[.string key,Ab bl,Ab br, .pointer (some ⟨be,0,none⟩), .pointer (some ⟨bw,0,none⟩), .pointer (some ⟨bT,0,none⟩), .pointer (some ⟨bo,0,none⟩)] w
   (fun e w'=>e= .returned (.bool true)∧Fr (fun k=>k=wb∨k=ob∨k=be) w.heap.size w w'∧FnBoxes w' be bw bT bo wb bt ob∧(∃pa pn pc sp,w'.heap[wb]?=some ({m with pa:=pa,pn:=pn,pc:=pc,spare:=sp}:MW).obj)∧∃es ck,AZ H w' ob [key] [u] es ck):=by
 obtain⟨q0,f0⟩:=A1 hx.e
 obtain⟨q1,f1⟩:=A1 hx.w_
 obtain⟨q2,f2⟩:=A1 hx.t_
 obtain⟨q3,f3⟩:=A1 hx.o_
 have hl0:=A0 hx.e
 have HX:=Lib.hid (And.intro hx hw)
 have HC:=Lib.hid hC
 have S0:w.cell? ⟨be,0,none⟩=some (.slice none 0 0)∧w.cell? ⟨bw,0,none⟩=some (.pointer (some ⟨wb,0,none⟩))∧w.cell? ⟨bT,0,none⟩=some (.pointer (some ⟨bt,0,none⟩))∧w.cell? ⟨bo,0,none⟩=some (.map (some ob)):=⟨q0 0,q1 0,q2 0,q3 0⟩
 have S1:w.drew.cell? ⟨be,0,none⟩=some (.slice none 0 0)∧w.drew.cell? ⟨bw,0,none⟩=some (.pointer (some ⟨wb,0,none⟩))∧w.drew.cell? ⟨bT,0,none⟩=some (.pointer (some ⟨bt,0,none⟩))∧w.drew.cell? ⟨bo,0,none⟩=some (.map (some ob)):=S0
 clear hx hC q0 q1 q2 q3 f0 f1 f2 f3 hw
 go_enter Tryz.func292,Tryz.ntmps292
 go_upto_region 1 with(fail)
 go_region_held3 (fun w'=>w'.cell? ⟨be,0,none⟩=some (.slice none 0 0)∧w'.cell? ⟨bw,0,none⟩=some (.pointer (some ⟨wb,0,none⟩))∧w'.cell? ⟨bT,0,none⟩=some (.pointer (some ⟨bt,0,none⟩))∧w'.cell? ⟨bo,0,none⟩=some (.map (some ob)))
  (first|(with_reducible exact S0)|(with_reducible exact S1)|(with_reducible exact S2)|((with_reducible refine keepE n1 n2 n3 HB2.out.e ?_ _ rfl);assumption)|exact keepE n1 n2 n3 HB2.out.e S2 _ rfl)
  ((go_at_call 293;refine(HC.out _ (by first|exact Bw.rfl.dr|exact Bw.rfl)).mono ?_;rintro _ w2 ⟨rfl,hfr,hmo⟩;have hfr0:Fr (fun k=>k=wb∨k=ob) w.heap.size w w2:=(by first|exact hfr|exact Fr.undrew hfr);have HO:=Lib.hid (And.intro hfr0 hmo);have HB2:=Lib.hid (fnb_later HX.out.1 hfr0 HX.out.2);clear hfr hfr0 hmo;have S2:w2.cell? ⟨be,0,none⟩=some (.slice none 0 0)∧w2.cell? ⟨bw,0,none⟩=some (.pointer (some ⟨wb,0,none⟩))∧w2.cell? ⟨bT,0,none⟩=some (.pointer (some ⟨bt,0,none⟩))∧w2.cell? ⟨bo,0,none⟩=some (.map (some ob)):=⟨(A1 HB2.out.e).1 0,(A1 HB2.out.w_).1 0,(A1 HB2.out.t_).1 0,(A1 HB2.out.o_).1 0⟩;obtain⟨qz,fz⟩:=A1 HB2.out.e;have hlz:=A0 HB2.out.e))
 go_wp2_with fail
 go_ret
 obtain⟨hfr,⟨pa,pn,pc,sp,hb⟩,es,ck,ho⟩:=HO.out
 have ht:Az w2 (w2.setCell ⟨be,0,none⟩ (.slice none 0 0)) be:=(Az.refl w2 be).set _ _
 have hb2:=HB2.out
 have hww:=HX.out.2 be (.inl rfl)
 have hlw:=HX.out.1
 refine⟨rfl,⟨ht.os.trans hfr.os,ht.tape.trans hfr.tape,ht.output.trans hfr.output,by rw [ht.size];exact hfr.size,fun k hk hx=> ?_⟩,⟨by simpa using Ac hb2.e 0 (.slice none 0 0),(ht.block _ n1).trans hb2.w_,(ht.block _ n2).trans hb2.t_,(ht.block _ n3).trans hb2.o_⟩,⟨pa,pn,pc,sp,(ht.block _ (fun h=>hww.1 h.symm)).trans hb⟩,es,ck,ho.mono (Hle.refl _) (ht.block _ (fun h=>hww.2 h.symm))⟩
 simp only [not_or]at hx
 rw [ht.block k hx.2.2]
 exact hfr.block k hk (by simp [hx.1,hx.2.1])
end
end Go.Proofs.YtmghkmhgpmcoaaaGreat
