/- What the claim's theorem 'proved' rests on: MapEq, EquC. -/
import Derived.RegionTactic
import Derived.Test.YtmghkmhgpmcoaaaGreatP06
import Derived.Test.YtmghkmhgpmcoaaaGreatP15
import Derived.Test.YtmghkmhgpmcoaaaGreatP16
set_option linter.unusedVariables false
set_option linter.unusedSimpArgs false
set_option maxRecDepth 100000
set_option maxHeartbeats 10000000
namespace Go.Proofs.YtmghkmhgpmcoaaaGreat
section
open Go Go.RowKit Go.MapKept
theorem keep2 {w:World}{ba bv vv:Nat}{u0 u1 x:Value}(h3:¬ba=vv)(h4:¬bv=vv)(h:w.cell? ⟨ba,0,none⟩=some u0∧w.cell? ⟨bv,0,none⟩=some u1):
  (w.setCell ⟨vv,0,none⟩ x).cell? ⟨ba,0,none⟩=some u0∧(w.setCell ⟨vv,0,none⟩ x).cell? ⟨bv,0,none⟩=some u1:=by
 simpa [World.cell?_setCell_other,h3,h4]using h
theorem keep2d {w:World}{ba bv vv:Nat}{u0 u1 x:Value}(h3:¬ba=vv)(h4:¬bv=vv)(h:w.cell? ⟨ba,0,none⟩=some u0∧w.cell? ⟨bv,0,none⟩=some u1):
  (w.setCell ⟨vv,0,none⟩ x).drew.cell? ⟨ba,0,none⟩=some u0∧(w.setCell ⟨vv,0,none⟩ x).drew.cell? ⟨bv,0,none⟩=some u1:=keep2 h3 h4 h
theorem keep2b {w w1:World}{p q:Addr}{u0 u1:Value}(hb:Bw w w1)(h:w.cell? p=some u0∧w.cell? q=some u1):w1.cell? p=some u0∧w1.cell? q=some u1:=⟨cell_later hb h.1,cell_later hb h.2⟩
theorem fr_turn {w wq w2:World}{vv:Nat}(t:Az w wq vv)(hb:Bw wq w2):Fr (fun k=>k=vv) w.heap.size w w2:=
 ⟨hb.os.trans t.os,hb.tape.trans t.tape,hb.output.trans t.output,by have:=hb.size;rw [t.size]at this;exact this,fun k hk hx=>(hb.block k (by rw [t.size];exact hk)).trans (t.block k hx)⟩
def pEq (ka:List ByteArray)(va:List JT)(kb:List ByteArray)(vb:List JT)(j:Nat):Bool:=match kb[j]?,vb[j]? with
 |some k,some u=>(match va[ka.idxOf k]? with|some v=>eqJ v u|none=>false)
 |_,_=>false
theorem mapEqFn_c {H:Hp}{r:Nat}{ka:List ByteArray}{va:List JT}{es:Array MapEntry}{ck:Nat}(h:Cw H r ka va es ck)(ha:Nat)(kb:List ByteArray)(vb:List JT)(j:Nat)(hj:j<vb.length)(k:ByteArray)(hk:kb[j]?=some k)
  (bm ba bv vvL bR:Nat) (x y:Value) (w:World) (hi:Imm H w) (hx:RJ H vb[j] x) (hne:¬vvL=bR) (hHL:H vvL=none)
  (cm:w.cell? ⟨bm,0,none⟩=some (.map (some r))) (ca:w.cell? ⟨ba,0,none⟩=some (.iface 185 (.pointer (some ⟨ha,0,none⟩)))) (cv:w.cell? ⟨bv,0,none⟩=some (.pointer (some ⟨vvL,0,none⟩)))
  (bL:w.heap[vvL]?=some (.cells #[y] 244)) (bRx:w.heap[bR]?=some (.cells #[x] 244)) (n1:¬ba=vvL) (n2:¬bv=vvL)
  (hc:∀t ∈ va,CEqu t vb[j]):
  Calls Tryz.prog 337 #[.string k, .iface 184 (.pointer (some ⟨bR,0,none⟩)), .pointer (some ⟨bm,0,none⟩), .pointer (some ⟨ba,0,none⟩), .pointer (some ⟨bv,0,none⟩)] w
   (fun e w2=>e= .returned (.bool (pEq ka va kb vb j))∧Fr (fun k=>k=vvL) w.heap.size w w2∧∃y,w2.heap[vvL]?=some (.cells #[y] 244)):=by
 have hm:=h.own hi
 rcases hm.look_u k with⟨h1,h2⟩|⟨i,hil,e,h1,h3,h4,h2⟩
 ·have hp:Hid (pEq ka va kb vb j=false):=by
   unfold Hid pEq
   rw [hk,List.getElem?_eq_getElem hj]
   simp only
   rw [List.getElem?_eq_none]
   have:=h.len
   rw [List.idxOf_eq_length h1];omega
  have HB:=Lib.hid bL
  clear hm h hi hx hc bL bRx h1 hk
  go_enter Tryz.func337,Tryz.ntmps337
  go_wp2_with fail
  go_ret
  exact⟨AQ hp.out.symm,Fr.of_bw Bw.rfl (Nat.le_refl _),_,HB.out⟩
 ·have hp:Hid (pEq ka va kb vb j=eqJ va[i] vb[j]):=by
   unfold Hid pEq
   rw [hk,List.getElem?_eq_getElem hj]
   simp only
   have hik:i<ka.length:=(List.getElem?_eq_some_iff.1 h1).1
   have:ka.idxOf k=i:=by rw [←(List.getElem?_eq_some_iff.1 h1).2];exact h.nodup.idxOf_getElem i hik
   rw [this,List.getElem?_eq_getElem hil]
  have HB:=Lib.hid bL
  have hva:=h4.isAny
  have CE:Hid (∀wq:World,wq.heap=(w.setCell ⟨vvL,0,none⟩ e.val).heap→Calls Tryz.prog 206 #[.iface 185 (.pointer (some ⟨ha,0,none⟩)), .iface 184 (.pointer (some ⟨vvL,0,none⟩)), .iface 184 (.pointer (some ⟨bR,0,none⟩))] wq (Pur wq (.bool (eqJ va[i] vb[j])))):=by
   intro wq hq
   have hle:Hle H (At wq):=by
    intro b o ho
    show wq.heap[b]?=some o
    rw [hq]
    have hb:¬b=vvL:=fun e=>by subst e;rw [hHL]at ho;cases ho
    rw [Ag _ _ _ _ _ hb];exact hi b o ho
   refine hc _ (List.getElem_mem hil) (At wq) ha vvL bR e.val x wq (Imm.self wq) ?_ ?_ (h4.mono hle) (hx.mono hle)
   ·have:wq.heap[vvL]?=some (.cells #[e.val] 244):=by rw [hq];simpa using Ae HB.out 0 e.val
    rw [Ai];exact(A1 this).1 0
   ·have:wq.heap[bR]?=some (.cells #[x] 244):=by rw [hq,Ag _ _ _ _ _ (fun e=>hne e.symm)];exact bRx
    rw [Ai];exact(A1 this).1 0
  rcases e with⟨ek,ev,eb⟩
  simp only at hva h2 CE
  clear hm h hi hx hc bL bRx h1 h3 h4 hk
  go_enter Tryz.func337,Tryz.ntmps337
  go_wp2_with fail
  go_region_held3 (fun w'=>w'.cell? ⟨ba,0,none⟩=some (.iface 185 (.pointer (some ⟨ha,0,none⟩)))∧w'.cell? ⟨bv,0,none⟩=some (.pointer (some ⟨vvL,0,none⟩)))
   (first|exact keep2 n1 n2 ⟨ca,cv⟩|exact keep2d n1 n2 ⟨ca,cv⟩|(refine keep2 n1 n2 ?_;assumption)|(refine keep2d n1 n2 ?_;assumption)|(refine keep2b (by assumption) ?_;assumption)|go_keep)
   (first|(go_at_call 87;refine(reuse_c vvL _ y _ hva (by exact HB.out)).mono ?_;rintro _ w1 ⟨rfl,rfl⟩)|(go_at_call 206;refine(CE.out _ (by exact rfl)).mono ?_;rintro _ w1 ⟨rfl,hb⟩))
  go_wp2_with fail
  go_ret
  have ht:Az w (w.setCell ⟨vvL,0,none⟩ ev) vvL:=(Az.refl w vvL).set 0 ev
  refine⟨AQ hp.out.symm,fr_turn (wq:=(w.setCell ⟨vvL,0,none⟩ ev).drew) ⟨ht.os,ht.tape,ht.output,ht.size,ht.block⟩ hb,ev, ?_⟩
  refine A2 hb ?_
  show(w.setCell ⟨vvL,0,none⟩ ev).heap[vvL]?=_
  simpa using Ae HB.out 0 ev
theorem pEq_all {ka:List ByteArray}{va:List JT}{kb:List ByteArray}{vb:List JT}(hl:kb.length=vb.length):eqJm ka va kb vb=true↔∀j,j<vb.length→pEq ka va kb vb j=true:=by
 rw [eqJm_iff hl]
 constructor
 ·intro h j hj
  obtain⟨v,h1,h2⟩:=h j (by omega) hj
  unfold pEq
  rw [List.getElem?_eq_getElem (by omega:j<kb.length),List.getElem?_eq_getElem hj]
  simp only [h1,h2]
 ·intro h j h1 h2
  have:=h j h2
  unfold pEq at this
  rw [List.getElem?_eq_getElem h1,List.getElem?_eq_getElem h2]at this
  simp only at this
  split at this
  ·rename_i v hv;exact⟨v,hv,this⟩
  ·cases this
def CMapEq (ka:List ByteArray)(va:List JT)(kb:List ByteArray)(vb:List JT):Prop:=∀(H:Hp) (ha r1 r2:Nat) (es1 es2:Array MapEntry) (ck1 ck2:Nat) (w:World),Imm H w→Cw H r1 ka va es1 ck1→Cw H r2 kb vb es2 ck2→
  Calls Tryz.prog 327 #[.map (some r1), .iface 185 (.pointer (some ⟨ha,0,none⟩)), .iface 446 (.map (some r2))] w (Pur w (.bool (decide (ka.length=kb.length) && eqJm ka va kb vb)))
theorem mapEq_c (ka:List ByteArray)(va:List JT)(kb:List ByteArray)(vb:List JT)(hc:∀t ∈ va,∀u ∈ vb,CEqu t u):CMapEq ka va kb vb:=by
 intro H ha r1 r2 es1 es2 ck1 ck2 w hi h1 h2
 have HA:=Lib.hid (And.intro hi (And.intro h1 (And.intro h2 hc)))
 have hla:=h1.lim_
 have hlb:=h2.lim_
 unfold lim at hla hlb
 have m1:=fun w=>methm_Length (some r2) w
 have m2:=fun w=>D9 (some r2) w
 have m3:=fun w=>Fm ⟨ha,0,none⟩ w
 have m7:=fun a w=>Bq a w
 have hmf:∀(fn:Fn) (first cap:Array Value) (w:World),(Instr.makeFunc fn first cap).run Tryz.prog w= .ok (.func fn first cap) w:=fun _ _ _ _=>rfl
 clear hi h1 h2 hc
 obtain⟨wb,hwb⟩:∃wb,wb=(w.alloc (.cells #[.map (some r1)] 446)).alloc (.cells #[.iface 185 (.pointer (some ⟨ha,0,none⟩))] 143):=⟨_,rfl⟩
 have HB:Hid (Bw w wb∧wb.heap[w.heap.size]?=some (.cells #[.map (some r1)] 446)∧wb.heap[w.heap.size+1]?=some (.cells #[.iface 185 (.pointer (some ⟨ha,0,none⟩))] 143)):=by
  subst hwb;exact⟨Am,Cs,BF⟩
 have HWB:=Lib.hid hwb.symm
 clear hwb
 by_cases hne:ka.length=kb.length
 ·have hne2:(ka.length:Int)=(kb.length:Int):=by omega
  rw [decide_eq_true hne,Bool.true_and]
  by_cases h0:ka.length=0
  ·have hz:((ka.length:Int)==0)=true:=by simp [h0]
   have hzz:Hid (eqJm ka va kb vb=true):=by
    have:=HA.out.2.2.1.len
    have e1:kb=[]:=List.length_eq_zero_iff.1 (by omega)
    subst e1
    simp [Hid,eqJm]
   clear h0 hne
   go_enter_defers Tryz.func327,Tryz.ntmps327
   go_wp2_with fail
   rw [HWB.out]
   refine(Et HA.out.2.1 wb (HA.out.1.below HB.out.1)).mono ?_
   rintro _ w1 ⟨rfl,hb1⟩
   go_wp2_with fail
   refine(Et HA.out.2.2.1 w1 (HA.out.1.below (HB.out.1.tr hb1))).mono ?_
   rintro _ w2 ⟨rfl,hb2⟩
   go_wp2_with fail
   exact⟨.bool true,(by simp [results,Tryz.results327,go_sem]),AQ hzz.out.symm,(HB.out.1.tr hb1).tr hb2⟩
  ·have hz:((kb.length:Int)==0)=false:=by have:¬(kb.length:Int)=0:=(by omega);simpa using this
   have hz2:((ka.length:Int)==0)=false:=by have:¬(ka.length:Int)=0:=(by omega);simpa using this
   have hlt1:=A0 HB.out.2.2
   clear h0 hne
   go_enter_defers Tryz.func327,Tryz.ntmps327
   go_wp2_with fail
   rw [HWB.out]
   refine(Et HA.out.2.1 wb (HA.out.1.below HB.out.1)).mono ?_
   rintro _ w1 ⟨rfl,hb1⟩
   go_wp2_with fail
   refine(Et HA.out.2.2.1 w1 (HA.out.1.below (HB.out.1.tr hb1))).mono ?_
   rintro _ w2 ⟨rfl,hb2⟩
   obtain⟨q1,f1⟩:=A1 (A2 (Bw.tr hb1 hb2) HB.out.2.2)
   have hlt2:w.heap.size+1<w2.heap.size:=A0 (A2 (Bw.tr hb1 hb2) HB.out.2.2)
   have HB2:=Lib.hid (And.intro (HB.out.1.tr (Bw.tr hb1 hb2)) (And.intro (A2 (Bw.tr hb1 hb2) HB.out.2.1) (A2 (Bw.tr hb1 hb2) HB.out.2.2)))
   clear hb1 hb2
   go_wp2_with fail
   refine(allocVU_c _ w2).mono ?_
   rintro _ w3 ⟨rfl,rfl⟩
   go_wp2_with fail
   obtain⟨wv,hwv⟩:∃wv,wv=(w2.alloc (.cells #[.nilIface] 244)).alloc (.cells #[.pointer (some ⟨w2.heap.size,0,none⟩)] 184):=⟨_,rfl⟩
   have HV:Hid (Bw w wv∧Bw w2 wv∧wv.heap.size=w2.heap.size+2∧wv.heap[w2.heap.size]?=some (.cells #[.nilIface] 244)∧wv.heap[w2.heap.size+1]?=some (.cells #[.pointer (some ⟨w2.heap.size,0,none⟩)] 184)):=by
    subst hwv;exact⟨HB2.out.1.tr Am,Am,by simp,Cs,BF⟩
   rw [←hwv]
   clear hwv q1 f1
   obtain⟨q1,f1⟩:=A1 (A2 HV.out.2.1 HB2.out.2.2)
   obtain⟨q2,f2⟩:=A1 HV.out.2.2.2.2
   have k1:wv.cell? ⟨w.heap.size+1,0,none⟩=some (.iface 185 (.pointer (some ⟨ha,0,none⟩))):=q1 0
   have k2:wv.cell? ⟨w2.heap.size+1,0,none⟩=some (.pointer (some ⟨w2.heap.size,0,none⟩)):=q2 0
   clear q1 q2 f1 f2
   go_region_held3 (fun w'=>w'.cell? ⟨w.heap.size+1,0,none⟩=some (.iface 185 (.pointer (some ⟨ha,0,none⟩)))∧w'.cell? ⟨w2.heap.size+1,0,none⟩=some (.pointer (some ⟨w2.heap.size,0,none⟩))) (first|exact⟨k1,k2⟩|go_keep) ((fail))
   obtain⟨wd,hwd⟩:∃wd,wd=wv.drew:=⟨_,rfl⟩
   have HD:Hid (Bw wv wd∧wd.heap=wv.heap):=by subst hwd;exact⟨Bw.rfl.dr,rfl⟩
   have d1:wd.cell? ⟨w.heap.size+1,0,none⟩=some (.iface 185 (.pointer (some ⟨ha,0,none⟩))):=cell_later HD.out.1 k1
   have hsz:wd.heap.size=w2.heap.size+2:=by rw [HD.out.2];exact HV.out.2.2.1
   have IC:Hid (Calls Tryz.prog 332 #[.map (some r2), .iface 185 (.pointer (some ⟨ha,0,none⟩)), .func (.func 337) #[] #[.pointer (some ⟨w.heap.size,0,none⟩), .pointer (some ⟨w.heap.size+1,0,none⟩), .pointer (some ⟨w2.heap.size+1,0,none⟩)]] wd
     (IterEnd (fun k=>k=w2.heap.size) (fun _ K=>∃y,K w2.heap.size=some (.cells #[y] 244)) (pEq ka va kb vb) vb.length wd)):=by
    have hid:=HA.out.1.below (HV.out.1.tr HD.out.1)
    have hnoneL:H w2.heap.size=none:=by
     cases hh:H w2.heap.size with
     |none=>rfl
     |some o=>have:=A0 (HA.out.1 _ _ hh);have:=HB2.out.1.size;omega
    refine iterate_c HA.out.2.2.1 ⟨ha,0,none⟩ 337 _ (enters_of Tryz.func337 (by kernel_rfl) rfl) _ _ _ wd hid (fun k hk=>⟨by omega,by rw [hk];exact hnoneL⟩) ⟨_,by show wd.heap[_]?=_;rw [HD.out.2];exact HV.out.2.2.2.1⟩ ?_
    ·rintro L j hj k w3 x hk hfr hbig hbx hx ⟨y,hy⟩ hnd hlt hjl
     replace hy:=Be hy
     have hk3:∀b o,b<w2.heap.size+2→b≠w2.heap.size→wv.heap[b]?=some o→w3.heap[b]?=some o:=fun b o hb hne ho=>by
      rw [hfr.block b (by omega) hne,HD.out.2];exact ho
     have g0:=hk3 _ _ (by omega) (by omega) (A2 HV.out.2.1 HB2.out.2.1)
     have g1:=hk3 _ _ (by omega) (by omega) (A2 HV.out.2.1 HB2.out.2.2)
     have g2:=hk3 _ _ (by omega) (by omega) HV.out.2.2.2.2
     refine(mapEqFn_c HA.out.2.1 ha kb vb j hj k hk w.heap.size (w.heap.size+1) (w2.heap.size+1) w2.heap.size wd.heap.size x y w3 (hfr.imm hid (fun k hk=>by rw [hk];exact hnoneL)) hx (by omega) hnoneL ((A1 g0).1 0) ((A1 g1).1 0) ((A1 g2).1 0) hy hbx (by omega) (by omega) fun t ht=>HA.out.2.2.2 t ht _ (List.getElem_mem hj)).mono ?_
     rintro _ w4 ⟨rfl,h1,y2,h2⟩
     exact⟨rfl,⟨h1.os,h1.tape,h1.output,h1.size,fun k hk hx=>h1.block k (by omega) hx⟩,y2,mask_in h2 (by omega) (by omega)⟩
   rw [←hwd]
   clear hwd k1 k2
   go_wp2_with fail
   refine IC.out.mono ?_
   rintro _ w5 ⟨hfr,L,b,rfl,hinv,hnd,hlt,hyes,hno⟩
   have HF:=Lib.hid (And.intro hfr (And.intro hyes hno))
   clear hfr hyes hno IC hinv hnd
   replace hlt:=Lib.hid hlt
   go_wp2_with fail
   refine leaves_cons (f:=274) (args:= #[.pointer (some ⟨ha,0,none⟩), .iface 184 (.pointer (some ⟨w2.heap.size,0,none⟩))]) (by simp) (by simp [go_sem,m7]) ?_
   refine(Bn _ _ _ _).mono ?_
   rintro _ _ _ ⟨rfl,rfl,rfl⟩
   refine⟨.bool b,(by simp [results,Tryz.results327,go_sem]),AQ ?_,Fr.bw ⟨HF.out.1.os,HF.out.1.tape,HF.out.1.output,HF.out.1.size,fun k hk hx=>HF.out.1.block k (by have:=HB2.out.1.size;omega) hx⟩ (HV.out.1.tr HD.out.1) fun k hk=>by have:=HB2.out.1.size;omega⟩
   have hl:=HA.out.2.2.1.len
   cases b
   ·obtain⟨j,hj,hp⟩:=HF.out.2.2 rfl
    cases he:eqJm ka va kb vb
    ·rfl
    ·exfalso
     have:=(pEq_all hl).1 he j (hlt.out j hj)
     rw [this]at hp;cases hp
   ·exact((pEq_all hl).2 fun j hj=>(HF.out.2.1 rfl j hj).2).symm
 ·have hne2:¬(ka.length:Int)=(kb.length:Int):=by omega
  rw [decide_eq_false hne,Bool.false_and]
  clear hne
  go_enter_defers Tryz.func327,Tryz.ntmps327
  go_wp2_with fail
  rw [HWB.out]
  refine(Et HA.out.2.1 wb (HA.out.1.below HB.out.1)).mono ?_
  rintro _ w1 ⟨rfl,hb1⟩
  go_wp2_with fail
  refine(Et HA.out.2.2.1 w1 (HA.out.1.below (HB.out.1.tr hb1))).mono ?_
  rintro _ w2 ⟨rfl,hb2⟩
  go_wp2_with fail
  exact⟨.bool false,(by simp [results,Tryz.results327,go_sem]),rfl,(HB.out.1.tr hb1).tr hb2⟩
end
section
open Go Go.RowKit Go.MapKept
theorem equ_list (a b:List JT)(hc:∀j (h1:j<a.length) (h2:j<b.length),CEqu a[j] b[j]):CEqu (.list a) (.list b):=by
 have HE:=Lib.hid (listEq_c a b hc)
 clear hc
 intro H ha bx bY x y w hi cx cy hx hy
 have hx':=hx
 have hy':=hy
 simp only [RJ]at hx' hy'
 obtain⟨a1,c1,rfl,n1,l1,k1,at1⟩:=hx'
 obtain⟨a2,c2,rfl,n2,l2,k2,at2⟩:=hy'
 have HL:=Lib.hid (And.intro hi (And.intro n1 (And.intro n2 (And.intro l1 (And.intro l2 (And.intro at1 at2))))))
 have kx:=hi.cell cx
 have ky:=hi.cell cy
 have m7:=fun a w=>Bq a w
 have m8:=fun w=>methl_EqualsUsing a1 a.length c1 w
 replace hx:=Lib.hid hx
 replace hy:=Lib.hid hy
 clear n1 n2 l1 l2 at1 at2
 have hiw:=hi
 have hBw:Bw w w:=Bw.rfl
 have e0:(JT.list a).isFlt=false:=rfl
 have e1:(JT.list b).isFlt=false:=rfl
 have e2:(JT.list a).isInt=false:=rfl
 have e3:(JT.list b).isInt=false:=rfl
 have e4:(JT.list a).isStr=false:=rfl
 have e5:(JT.list b).isStr=false:=rfl
 have e6:(JT.list a).isBool=false:=rfl
 have e7:(JT.list b).isBool=false:=rfl
 have e8:(JT.list a).isList=true:=rfl
 have e9:(JT.list b).isList=true:=rfl
 clear hi
 go_enter_defers Tryz.func206,Tryz.ntmps206
 have mm:=Af kx
 have CC:=AA (.list a) H _ w hx.out
 rw [e0]at CC
 go_wp2_with fail
 refine CC.mono ?_
 rintro _ wa ⟨rfl,hwa⟩
 clear mm kx ky CC
 have hiwa:=hiw.below hwa
 have hBwa:=hBw.tr hwa
 have kx:=hiwa.cell cx
 have ky:=hiwa.cell cy
 clear hwa
 have mm:=Af ky
 have CC:=AA (.list b) H _ wa hy.out
 rw [e1]at CC
 go_wp2_with fail
 refine CC.mono ?_
 rintro _ wb ⟨rfl,hwb⟩
 clear mm kx ky CC
 have hiwb:=hiwa.below hwb
 have hBwb:=hBwa.tr hwb
 have kx:=hiwb.cell cx
 have ky:=hiwb.cell cy
 clear hwb
 have mm:=Aq kx
 have CC:=AM (.list a) H _ wb hx.out
 rw [e2]at CC
 go_wp2_with fail
 refine CC.mono ?_
 rintro _ wc ⟨rfl,hwc⟩
 clear mm kx ky CC
 have hiwc:=hiwb.below hwc
 have hBwc:=hBwb.tr hwc
 have kx:=hiwc.cell cx
 have ky:=hiwc.cell cy
 clear hwc
 have mm:=Aq ky
 have CC:=AM (.list b) H _ wc hy.out
 rw [e3]at CC
 go_wp2_with fail
 refine CC.mono ?_
 rintro _ wd ⟨rfl,hwd⟩
 clear mm kx ky CC
 have hiwd:=hiwc.below hwd
 have hBwd:=hBwc.tr hwd
 have kx:=hiwd.cell cx
 have ky:=hiwd.cell cy
 clear hwd
 have mm:=Ao kx
 have CC:=B5 (.list a) H _ wd hx.out
 rw [e4]at CC
 go_wp2_with fail
 refine CC.mono ?_
 rintro _ we ⟨rfl,hwe⟩
 clear mm kx ky CC
 have hiwe:=hiwd.below hwe
 have hBwe:=hBwd.tr hwe
 have kx:=hiwe.cell cx
 have ky:=hiwe.cell cy
 clear hwe
 have mm:=Ao ky
 have CC:=B5 (.list b) H _ we hy.out
 rw [e5]at CC
 go_wp2_with fail
 refine CC.mono ?_
 rintro _ wf ⟨rfl,hwf⟩
 clear mm kx ky CC
 have hiwf:=hiwe.below hwf
 have hBwf:=hBwe.tr hwf
 have kx:=hiwf.cell cx
 have ky:=hiwf.cell cy
 clear hwf
 have mm:=AD kx
 have CC:=B6 (.list a) H _ wf hx.out
 rw [e6]at CC
 go_wp2_with fail
 refine CC.mono ?_
 rintro _ wg ⟨rfl,hwg⟩
 clear mm kx ky CC
 have hiwg:=hiwf.below hwg
 have hBwg:=hBwf.tr hwg
 have kx:=hiwg.cell cx
 have ky:=hiwg.cell cy
 clear hwg
 have mm:=AD ky
 have CC:=B6 (.list b) H _ wg hy.out
 rw [e7]at CC
 go_wp2_with fail
 refine CC.mono ?_
 rintro _ wh ⟨rfl,hwh⟩
 clear mm kx ky CC
 have hiwh:=hiwg.below hwh
 have hBwh:=hBwg.tr hwh
 have kx:=hiwh.cell cx
 have ky:=hiwh.cell cy
 clear hwh
 have mm:=AT kx
 have CC:=Bx (.list a) H _ wh hx.out
 rw [e8]at CC
 go_wp2_with fail
 refine CC.mono ?_
 rintro _ wi ⟨rfl,hwi⟩
 clear mm kx ky CC
 have hiwi:=hiwh.below hwi
 have hBwi:=hBwh.tr hwi
 have kx:=hiwi.cell cx
 have ky:=hiwi.cell cy
 clear hwi
 have mm:=AT ky
 have CC:=Bx (.list b) H _ wi hy.out
 rw [e9]at CC
 go_wp2_with fail
 refine CC.mono ?_
 rintro _ wj ⟨rfl,hwj⟩
 clear mm kx ky CC
 have hiwj:=hiwi.below hwj
 have hBwj:=hBwi.tr hwj
 have kx:=hiwj.cell cx
 have ky:=hiwj.cell cy
 clear hwj
 have mm:=Ch kx
 go_wp2_with fail
 refine(asList_c _ _ _ _ wj).mono ?_
 rintro _ wk ⟨rfl,hwk⟩
 have hBwk:=hBwj.tr hwk
 have kz:=(HL.out.1.below hBwk).cell cy
 clear mm kx ky
 have mm:=Ch kz
 go_wp2_with fail
 refine(asList_c _ _ _ _ wk).mono ?_
 rintro _ wl ⟨rfl,hwl⟩
 have hBwl:=hBwk.tr hwl
 clear mm kz
 have CC:=HE.out H ha a1 a2 c1 c2 wl (HL.out.1.below hBwl) HL.out.2.1 HL.out.2.2.1 HL.out.2.2.2.1 HL.out.2.2.2.2.1 HL.out.2.2.2.2.2.1 HL.out.2.2.2.2.2.2
 replace CC:=Lib.hid CC
 go_wp2_with fail
 refine CC.out.mono ?_
 rintro _ wm ⟨rfl,hwm⟩
 have hBwm:=hBwl.tr hwm
 go_wp2_with fail
 refine leaves_cons (f:=274) (args:= #[.pointer (some ⟨ha,0,none⟩), .iface 445 (.slice a2 b.length c2)]) (by simp) (by simp [go_sem,m7]) ?_
 refine(Bn _ _ _ _).mono ?_
 rintro _ _ _ ⟨rfl,rfl,rfl⟩
 refine leaves_cons (f:=274) (args:= #[.pointer (some ⟨ha,0,none⟩), .iface 445 (.slice a1 a.length c1)]) (by simp [settle]) (by simp [go_sem,m7]) ?_
 refine(Bn _ _ _ _).mono ?_
 rintro _ _ _ ⟨rfl,rfl,rfl⟩
 exact⟨.bool (decide (a.length=b.length) && eqJs a b),(by simp [results,Tryz.results206,go_sem]),AQ (by simp only [eqJ]),hBwm⟩
theorem equ_map (ka:List ByteArray)(va:List JT)(kb:List ByteArray)(vb:List JT)(hc:∀t ∈ va,∀u ∈ vb,CEqu t u):CEqu (.map ka va) (.map kb vb):=by
 have HE:=Lib.hid (mapEq_c ka va kb vb hc)
 clear hc
 intro H ha bx bY x y w hi cx cy hx hy
 obtain⟨r1,es1,ck1,rfl,hm1⟩:=hx.mapAt
 obtain⟨r2,es2,ck2,rfl,hm2⟩:=hy.mapAt
 have HL:=Lib.hid (And.intro hi (And.intro hm1 hm2))
 have kx:=hi.cell cx
 have ky:=hi.cell cy
 have m7:=fun a w=>Bq a w
 have m8:=fun w=>methm_EqualsUsing (some r1) w
 replace hx:=Lib.hid hx
 replace hy:=Lib.hid hy
 clear hm1 hm2
 have hiw:=hi
 have hBw:Bw w w:=Bw.rfl
 have e0:(JT.map ka va).isFlt=false:=rfl
 have e1:(JT.map kb vb).isFlt=false:=rfl
 have e2:(JT.map ka va).isInt=false:=rfl
 have e3:(JT.map kb vb).isInt=false:=rfl
 have e4:(JT.map ka va).isStr=false:=rfl
 have e5:(JT.map kb vb).isStr=false:=rfl
 have e6:(JT.map ka va).isBool=false:=rfl
 have e7:(JT.map kb vb).isBool=false:=rfl
 have e8:(JT.map ka va).isList=false:=rfl
 have e9:(JT.map kb vb).isList=false:=rfl
 have e10:(JT.map ka va).isMap=true:=rfl
 have e11:(JT.map kb vb).isMap=true:=rfl
 clear hi
 go_enter_defers Tryz.func206,Tryz.ntmps206
 have mm:=Af kx
 have CC:=AA (.map ka va) H _ w hx.out
 rw [e0]at CC
 go_wp2_with fail
 refine CC.mono ?_
 rintro _ wa ⟨rfl,hwa⟩
 clear mm kx ky CC
 have hiwa:=hiw.below hwa
 have hBwa:=hBw.tr hwa
 have kx:=hiwa.cell cx
 have ky:=hiwa.cell cy
 clear hwa
 have mm:=Af ky
 have CC:=AA (.map kb vb) H _ wa hy.out
 rw [e1]at CC
 go_wp2_with fail
 refine CC.mono ?_
 rintro _ wb ⟨rfl,hwb⟩
 clear mm kx ky CC
 have hiwb:=hiwa.below hwb
 have hBwb:=hBwa.tr hwb
 have kx:=hiwb.cell cx
 have ky:=hiwb.cell cy
 clear hwb
 have mm:=Aq kx
 have CC:=AM (.map ka va) H _ wb hx.out
 rw [e2]at CC
 go_wp2_with fail
 refine CC.mono ?_
 rintro _ wc ⟨rfl,hwc⟩
 clear mm kx ky CC
 have hiwc:=hiwb.below hwc
 have hBwc:=hBwb.tr hwc
 have kx:=hiwc.cell cx
 have ky:=hiwc.cell cy
 clear hwc
 have mm:=Aq ky
 have CC:=AM (.map kb vb) H _ wc hy.out
 rw [e3]at CC
 go_wp2_with fail
 refine CC.mono ?_
 rintro _ wd ⟨rfl,hwd⟩
 clear mm kx ky CC
 have hiwd:=hiwc.below hwd
 have hBwd:=hBwc.tr hwd
 have kx:=hiwd.cell cx
 have ky:=hiwd.cell cy
 clear hwd
 have mm:=Ao kx
 have CC:=B5 (.map ka va) H _ wd hx.out
 rw [e4]at CC
 go_wp2_with fail
 refine CC.mono ?_
 rintro _ we ⟨rfl,hwe⟩
 clear mm kx ky CC
 have hiwe:=hiwd.below hwe
 have hBwe:=hBwd.tr hwe
 have kx:=hiwe.cell cx
 have ky:=hiwe.cell cy
 clear hwe
 have mm:=Ao ky
 have CC:=B5 (.map kb vb) H _ we hy.out
 rw [e5]at CC
 go_wp2_with fail
 refine CC.mono ?_
 rintro _ wf ⟨rfl,hwf⟩
 clear mm kx ky CC
 have hiwf:=hiwe.below hwf
 have hBwf:=hBwe.tr hwf
 have kx:=hiwf.cell cx
 have ky:=hiwf.cell cy
 clear hwf
 have mm:=AD kx
 have CC:=B6 (.map ka va) H _ wf hx.out
 rw [e6]at CC
 go_wp2_with fail
 refine CC.mono ?_
 rintro _ wg ⟨rfl,hwg⟩
 clear mm kx ky CC
 have hiwg:=hiwf.below hwg
 have hBwg:=hBwf.tr hwg
 have kx:=hiwg.cell cx
 have ky:=hiwg.cell cy
 clear hwg
 have mm:=AD ky
 have CC:=B6 (.map kb vb) H _ wg hy.out
 rw [e7]at CC
 go_wp2_with fail
 refine CC.mono ?_
 rintro _ wh ⟨rfl,hwh⟩
 clear mm kx ky CC
 have hiwh:=hiwg.below hwh
 have hBwh:=hBwg.tr hwh
 have kx:=hiwh.cell cx
 have ky:=hiwh.cell cy
 clear hwh
 have mm:=AT kx
 have CC:=Bx (.map ka va) H _ wh hx.out
 rw [e8]at CC
 go_wp2_with fail
 refine CC.mono ?_
 rintro _ wi ⟨rfl,hwi⟩
 clear mm kx ky CC
 have hiwi:=hiwh.below hwi
 have hBwi:=hBwh.tr hwi
 have kx:=hiwi.cell cx
 have ky:=hiwi.cell cy
 clear hwi
 have mm:=AT ky
 have CC:=Bx (.map kb vb) H _ wi hy.out
 rw [e9]at CC
 go_wp2_with fail
 refine CC.mono ?_
 rintro _ wj ⟨rfl,hwj⟩
 clear mm kx ky CC
 have hiwj:=hiwi.below hwj
 have hBwj:=hBwi.tr hwj
 have kx:=hiwj.cell cx
 have ky:=hiwj.cell cy
 clear hwj
 have mm:=Bm kx
 have CC:=CH (.map ka va) H _ wj hx.out
 rw [e10]at CC
 go_wp2_with fail
 refine CC.mono ?_
 rintro _ wn ⟨rfl,hwn⟩
 clear mm kx ky CC
 have hiwn:=hiwj.below hwn
 have hBwn:=hBwj.tr hwn
 have kx:=hiwn.cell cx
 have ky:=hiwn.cell cy
 clear hwn
 have mm:=Bm ky
 have CC:=CH (.map kb vb) H _ wn hy.out
 rw [e11]at CC
 go_wp2_with fail
 refine CC.mono ?_
 rintro _ wo ⟨rfl,hwo⟩
 clear mm kx ky CC
 have hiwo:=hiwn.below hwo
 have hBwo:=hBwn.tr hwo
 have kx:=hiwo.cell cx
 have ky:=hiwo.cell cy
 clear hwo
 have mm:=Ct kx
 go_wp2_with fail
 refine(asMap_c _ _ wo).mono ?_
 rintro _ wk ⟨rfl,hwk⟩
 have hBwk:=hBwo.tr hwk
 have kz:=(HL.out.1.below hBwk).cell cy
 clear mm kx ky
 have mm:=Ct kz
 go_wp2_with fail
 refine(asMap_c _ _ wk).mono ?_
 rintro _ wl ⟨rfl,hwl⟩
 have hBwl:=hBwk.tr hwl
 clear mm kz
 have CC:=HE.out H ha r1 r2 es1 es2 ck1 ck2 wl (HL.out.1.below hBwl) HL.out.2.1 HL.out.2.2
 replace CC:=Lib.hid CC
 go_wp2_with fail
 refine CC.out.mono ?_
 rintro _ wm ⟨rfl,hwm⟩
 have hBwm:=hBwl.tr hwm
 go_wp2_with fail
 refine leaves_cons (f:=274) (args:= #[.pointer (some ⟨ha,0,none⟩), .iface 446 (.map (some r2))]) (by simp) (by simp [go_sem,m7]) ?_
 refine(Bn _ _ _ _).mono ?_
 rintro _ _ _ ⟨rfl,rfl,rfl⟩
 refine leaves_cons (f:=274) (args:= #[.pointer (some ⟨ha,0,none⟩), .iface 446 (.map (some r1))]) (by simp [settle]) (by simp [go_sem,m7]) ?_
 refine(Bn _ _ _ _).mono ?_
 rintro _ _ _ ⟨rfl,rfl,rfl⟩
 exact⟨.bool (decide (ka.length=kb.length) && eqJm ka va kb vb),(by simp [results,Tryz.results206,go_sem]),AQ (by simp only [eqJ]),hBwm⟩
theorem szJs_mem {l:List JT}{t:JT}(h:t ∈ l):t.sz≤szJs l:=by
 obtain⟨j,hj,rfl⟩:=List.mem_iff_getElem.1 h;exact CJ hj
theorem equ_c:∀(z:Nat) (t u:JT),t.sz≤z→CEqu t u
 |0,t,u,h=>by cases t<;>simp [JT.sz]at h
 |z+1,t,u,h=>by
  cases htF:t.isFlt
  ·cases huF:u.isFlt
   ·by_cases hl:t.isList=true∧u.isList=true
    ·cases t<;>simp [JT.isList]at hl
     cases u<;>simp [JT.isList]at hl
     simp only [JT.sz]at h
     exact equ_list _ _ fun j h1 h2=>equ_c z _ _ (by have:=CJ h1;omega)
    ·by_cases hm:t.isMap=true∧u.isMap=true
     ·cases t<;>simp [JT.isMap]at hm
      cases u<;>simp [JT.isMap]at hm
      simp only [JT.sz]at h
      exact equ_map _ _ _ _ fun t ht u hu=>equ_c z _ _ (by have:=szJs_mem ht;omega)
     ·exact equ_rest t u htF huF hl hm
   ·exact equ_flt t u (.inr huF)
  ·exact equ_flt t u (.inl htF)
end
end Go.Proofs.YtmghkmhgpmcoaaaGreat
