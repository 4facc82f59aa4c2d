/- What the claim's theorem 'proved' rests on: ListF. -/
import Derived.Test.YtmghkmhgpmcoaaaGreatP13
import Derived.Test.YtmghkmhgpmcoaaaGreatP14
set_option linter.unusedVariables false
set_option linter.unusedSimpArgs false
set_option maxRecDepth 100000
set_option maxHeartbeats 10000000
namespace Go.Proofs.YtmghkmhgpmcoaaaGreat
section
open Go Go.RowKit
theorem BC.base {w w0 w':World}{rb vb:Nat}{a:Option Addr}{n c:Nat}{i:Int}{x:Value}(h:BC w w' rb vb a n c i x)(hs:w0.heap.size≤w.heap.size):BC w0 w' rb vb a n c i x:=
 ⟨Nat.le_trans hs h.1,Nat.le_trans hs h.2.1,h.2.2⟩
theorem rangeNext_yes (w w0:World)(rb vb:Nat)(a:Option Addr)(n c j:Nat)(x:Value)(hj:j<n)(hn:n≤lim)(h:BC w w0 rb vb a n c ((j:Int) - 1) x):Calls Tryz.prog 346 #[.pointer (some ⟨rb,0,none⟩)] w0
  (fun e w'=>e= .returned (.bool true)∧(Bw w w0→Bw w w')∧(∀k,k<w0.heap.size→k≠rb→w'.heap[k]?=w0.heap[k]?)∧BC w w' rb vb a n c j x):=by
 refine(rangeNext_c w w0 rb vb a n c _ x (by omega) (by omega) hn h).mono ?_
 rintro _ w' ⟨rfl,h1,h2,h3⟩
 exact⟨by rw [decide_eq_true (by omega)],h1,h2,by rw [show(j:Int) - 1+1=j by omega]at h3;exact h3⟩
theorem rangeNext_no (w w0:World)(rb vb:Nat)(a:Option Addr)(n c:Nat)(x:Value)(hn0:0<n)(hn:n≤lim)(h:BC w w0 rb vb a n c ((n:Int) - 1) x):Calls Tryz.prog 346 #[.pointer (some ⟨rb,0,none⟩)] w0
  (fun e w'=>e= .returned (.bool false)∧(Bw w w0→Bw w w')):=by
 refine(rangeNext_c w w0 rb vb a n c _ x (by omega) (by omega) hn h).mono ?_
 rintro _ w' ⟨rfl,h1,h2,h3⟩
 exact⟨by rw [decide_eq_false (by omega)],h1⟩
theorem listEq_n (l m:List JT)(n:Nat)(hl:l.length=n)(hm:m.length=n)(h0:0<n)(hlim:n≤lim)(hc:∀j (h1:j<l.length)(h2:j<m.length),CEqu l[j] m[j])
  (H:Hp) (bl:Nat) (ha:Nat) (a b:Option Addr) (c d:Nat) (w:World) (hi:Imm H w) (hbl:A8 H bl 0=some (.slice a n c)) (hal:Ef H a 0 l) (hbm:Ef H b 0 m):
  Calls Tryz.prog 323 #[.iface 185 (.pointer (some ⟨ha,0,none⟩)), .iface 486 (.pointer (some ⟨bl,0,none⟩)), .iface 445 (.slice b n d)] w (Pur w (.bool (eqJs l m))):=by
 obtain⟨ab,ao,_,rfl, -⟩:=hal.get 0 (by omega)
 obtain⟨bb,bo,_,rfl, -⟩:=hbm.get 0 (by omega)
 have HA:=Lib.hid (And.intro hi (And.intro hbl (And.intro hal (And.intro hbm (And.intro hl (And.intro hm hc))))))
 have HL:=Lib.hid hlim
 have k:=hi.cell hbl
 have m1:=Fl k
 have m2:=fun w=>Du (some ⟨bb,bo,none⟩) n d w
 have m4:=fun w=>F6 (some ⟨bb,bo,none⟩) n d w
 have m5:=fun a w=>methr_Next a w
 have m6:=fun a w=>methr_Item a w
 have m7:=fun a w=>Bq a w
 have hne:¬n=0:=by omega
 clear hi hbl hal hbm hl hm hc hlim
 go_enter_defers Tryz.func323,Tryz.ntmps323
 go_wp2_with fail
 refine(Dh _ n c w).mono ?_
 rintro _ w1 ⟨rfl,h1⟩
 clear m1 k
 go_wp2_with fail
 refine(Dh _ n d w1).mono ?_
 rintro _ w2 ⟨rfl,h2⟩
 have hB2:=Bw.tr h1 h2
 have k:=(HA.out.1.below hB2).cell HA.out.2.1
 have m3:=F5 k
 clear h1 h2
 go_wp2_with fail
 refine(listRange_c ⟨ha,0,none⟩ _ n c h0 w2).mono ?_
 rintro _ w3 ⟨h3,rb1,vb1,rfl,hr1⟩
 have HR1:=Lib.hid (And.intro (hr1.base hB2.size) (And.intro (A0 hr1.2.2.2.1) (A0 hr1.2.2.2.2)))
 have hB3:=hB2.tr h3
 clear m3 k hr1 hB2 h3
 go_wp2_with fail
 refine(listRange_c ⟨ha,0,none⟩ _ n d h0 w3).mono ?_
 rintro _ w4 ⟨h4,rb2,vb2,rfl,hr2⟩
 have HB4:=Lib.hid (hB3.tr h4)
 have HQ:Hid (BC w w4 rb1 vb1 (some ⟨ab,ao,none⟩) n c ((0:Nat) - 1:Int) .nilIface∧BC w w4 rb2 vb2 (some ⟨bb,bo,none⟩) n d ((0:Nat) - 1:Int) .nilIface∧(rb2≠rb1∧vb2≠rb1∧rb1≠rb2∧vb1≠rb2)∧rb1≠vb1∧rb2≠vb1∧vb2≠vb1∧rb1≠vb2∧vb1≠vb2∧rb2≠vb2):=by
  obtain⟨q1,q2,q3⟩:=HR1.out
  have p1:=hr2.1
  have p2:=hr2.2.1
  refine⟨by simpa using q1.keep (A2 h4 q1.2.2.2.1|>.trans q1.2.2.2.1.symm) (A2 h4 q1.2.2.2.2|>.trans q1.2.2.2.2.symm),by simpa using hr2.base hB3.size,⟨by omega,by omega,by omega,by omega⟩,q1.2.2.1,by omega,by omega,by omega,by omega,hr2.2.2.1⟩
 clear hr2 HR1 hB3 h4
 go_wp2_with fail
 go_loopw [] (fun wr=>∃(j:Nat) (x1 x2:Value),j≤n∧Bw w wr∧BC w wr rb1 vb1 (some ⟨ab,ao,none⟩) n c ((j:Int) - 1) x1∧BC w wr rb2 vb2 (some ⟨bb,bo,none⟩) n d ((j:Int) - 1) x2∧Hid (eqJs l m=eqJs (l.drop j) (m.drop j)))
  (fun wr=>((n:Int) - rangePos wr rb1).toNat)
 case atStart=>exact⟨0,_,_,Nat.zero_le _,HB4.out,HQ.out.1,HQ.out.2.1,by simp [Hid]⟩
 case round=>
  rename_i wr
  obtain⟨j,x1,x2,hj,hb,hr1,hr2,he⟩:=hrel
  have HR:=Lib.hid (And.intro hb (And.intro hr1 hr2))
  have HP:=Lib.hid hr1.pos
  clear hb hr1 hr2
  by_cases hjn:j<n
  ·go_wp2_with fail
   refine(rangeNext_yes w wr rb1 vb1 _ n c j x1 hjn HL.out HR.out.2.1).mono ?_
   rintro _ w5 ⟨rfl,f1,f2,f3⟩
   have HR5:=Lib.hid (And.intro (f1 HR.out.1) (And.intro f3 (HR.out.2.2.keep (f2 _ (A0 HR.out.2.2.2.2.2.1) HQ.out.2.2.1.1) (f2 _ (A0 HR.out.2.2.2.2.2.2) HQ.out.2.2.1.2.1))))
   clear f1 f2 f3
   go_wp2_with fail
   refine(rangeNext_yes w w5 rb2 vb2 _ n d j x2 hjn HL.out HR5.out.2.2).mono ?_
   rintro _ w6 ⟨rfl,f1,f2,f3⟩
   have HR6:=Lib.hid (And.intro (f1 HR5.out.1) (And.intro (HR5.out.2.1.keep (f2 _ (A0 HR5.out.2.1.2.2.2.1) HQ.out.2.2.1.2.2.1) (f2 _ (A0 HR5.out.2.1.2.2.2.2) HQ.out.2.2.1.2.2.2)) f3))
   clear f1 f2 f3 HR5
   obtain⟨ab2,ao2,u,e1,hu,hru⟩:=HA.out.2.2.1.get j (by have:=HA.out.2.2.2.2.1;omega)
   obtain⟨bb2,bo2,v,e2,hv,hrv⟩:=HA.out.2.2.2.1.get j (by have:=HA.out.2.2.2.2.2.1;omega)
   cases e1
   cases e2
   rw [Nat.zero_add]at hu hv
   have HU:=Lib.hid (And.intro hu (And.intro hru (And.intro hv hrv)))
   clear hu hru hv hrv
   go_wp2_with fail
   refine(rangeItem_c w w6 rb1 vb1 ab ao n c j u x1 hjn HL.out HU.out.2.1.isAny (Ah (HA.out.1.cell HU.out.1)) ((HA.out.1.below HR6.out.1).cell HU.out.1) HR6.out.2.1).mono ?_
   rintro _ w7 ⟨rfl,f1,f2,f3⟩
   have HR7:=Lib.hid (And.intro (f1 HR6.out.1) (And.intro f3 (HR6.out.2.2.keep (f2 _ (A0 HR6.out.2.2.2.2.2.1) HQ.out.2.2.2.2.1) (f2 _ (A0 HR6.out.2.2.2.2.2.2) HQ.out.2.2.2.2.2.1))))
   clear f1 f2 f3 HR6
   go_wp2_with fail
   refine(rangeItem_c w w7 rb2 vb2 bb bo n d j v x2 hjn HL.out HU.out.2.2.2.isAny (Ah (HA.out.1.cell HU.out.2.2.1)) ((HA.out.1.below HR7.out.1).cell HU.out.2.2.1) HR7.out.2.2).mono ?_
   rintro _ w8 ⟨rfl,f1,f2,f3⟩
   have HR8:=Lib.hid (And.intro (f1 HR7.out.1) (And.intro (HR7.out.2.1.keep (f2 _ (A0 HR7.out.2.1.2.2.2.1) HQ.out.2.2.2.2.2.2.1) (f2 _ (A0 HR7.out.2.1.2.2.2.2) HQ.out.2.2.2.2.2.2.2.1)) f3))
   clear f1 f2 f3 HR7
   have CE:Hid (Calls Tryz.prog 206 #[.iface 185 (.pointer (some ⟨ha,0,none⟩)), .iface 184 (.pointer (some ⟨vb1,0,none⟩)), .iface 184 (.pointer (some ⟨vb2,0,none⟩))] w8 (Pur w8 (.bool (eqJ (l[j]'(by have:=HA.out.2.2.2.2.1;omega)) (m[j]'(by have:=HA.out.2.2.2.2.2.1;omega)))))):=by
    refine HA.out.2.2.2.2.2.2 j _ _ (A6 H w w8) ha vb1 vb2 u v w8 (HA.out.1.grow HR8.out.1) ?_ ?_ (HU.out.2.1.mono (AY HA.out.1)) (HU.out.2.2.2.mono (AY HA.out.1))
    ·rw [Bh HR8.out.2.1.2.1];exact(A1 HR8.out.2.1.2.2.2.2).1 0
    ·rw [Bh HR8.out.2.2.2.1];exact(A1 HR8.out.2.2.2.2.2.2).1 0
   have HD:=Lib.hid (eqJs_drop l m j (by have:=HA.out.2.2.2.2.1;omega) (by have:=HA.out.2.2.2.2.2.1;omega))
   go_wp2_with fail
   refine CE.out.mono ?_
   rintro _ w9 ⟨rfl,h9⟩
   have HR9:=Lib.hid (And.intro (HR8.out.1.tr h9) (And.intro (HR8.out.2.1.keep ((A2 h9 HR8.out.2.1.2.2.2.1).trans HR8.out.2.1.2.2.2.1.symm) ((A2 h9 HR8.out.2.1.2.2.2.2).trans HR8.out.2.1.2.2.2.2.symm)) (HR8.out.2.2.keep ((A2 h9 HR8.out.2.2.2.2.2.1).trans HR8.out.2.2.2.2.2.1.symm) ((A2 h9 HR8.out.2.2.2.2.2.2).trans HR8.out.2.2.2.2.2.2.symm))))
   clear h9 CE HR8
   cases hq:eqJ (l[j]'(by have:=HA.out.2.2.2.2.1;omega)) (m[j]'(by have:=HA.out.2.2.2.2.2.1;omega))
   ·go_wp2_with fail
    refine leaves_cons (f:=274) (args:= #[.pointer (some ⟨ha,0,none⟩), .iface 484 (.pointer (some ⟨rb2,0,none⟩))]) (by simp) (by simp [go_sem,m7]) ?_
    refine(Bn _ _ _ _).mono ?_
    rintro _ _ _ ⟨rfl,rfl,rfl⟩
    refine leaves_cons (f:=274) (args:= #[.pointer (some ⟨ha,0,none⟩), .iface 484 (.pointer (some ⟨rb1,0,none⟩))]) (by simp [settle]) (by simp [go_sem,m7]) ?_
    refine(Bn _ _ _ _).mono ?_
    rintro _ _ _ ⟨rfl,rfl,rfl⟩
    refine⟨.bool false,(by simp [results,Tryz.results323,go_sem]), ?_⟩
    exact⟨AQ (by rw [he.out,HD.out,hq];rfl),HR9.out.1⟩
   ·go_wp2_with fail
    go_roundw
    case rel=>exact⟨j+1,_,_,by omega,HR9.out.1,by simpa using HR9.out.2.1,by simpa using HR9.out.2.2,by unfold Hid;rw [he.out,HD.out,hq,Bool.true_and]⟩
    case measure=>rw [HR9.out.2.1.pos,HP.out];omega
  ·obtain rfl:j=n:=by omega
   go_wp2_with fail
   refine(rangeNext_no w wr rb1 vb1 _ j c x1 h0 HL.out HR.out.2.1).mono ?_
   rintro _ w5 ⟨rfl,f1⟩
   have HB5:=Lib.hid (f1 HR.out.1)
   clear f1
   go_wp2_with fail
   refine leaves_cons (f:=274) (args:= #[.pointer (some ⟨ha,0,none⟩), .iface 484 (.pointer (some ⟨rb2,0,none⟩))]) (by simp) (by simp [go_sem,m7]) ?_
   refine(Bn _ _ _ _).mono ?_
   rintro _ _ _ ⟨rfl,rfl,rfl⟩
   refine leaves_cons (f:=274) (args:= #[.pointer (some ⟨ha,0,none⟩), .iface 484 (.pointer (some ⟨rb1,0,none⟩))]) (by simp [settle]) (by simp [go_sem,m7]) ?_
   refine(Bn _ _ _ _).mono ?_
   rintro _ _ _ ⟨rfl,rfl,rfl⟩
   refine⟨.bool true,(by simp [results,Tryz.results323,go_sem]), ?_⟩
   exact⟨AQ (by rw [he.out,List.drop_of_length_le (by have:=HA.out.2.2.2.2.1;omega)];simp [eqJs]),HB5.out⟩
def CListEq (l m:List JT):Prop:=∀(H:Hp) (ha:Nat) (a b:Option Addr) (c d:Nat) (w:World),Imm H w→(a=none→c=0∧l.length=0)→(b=none→d=0∧m.length=0)→l.length≤lim→m.length≤lim→Ef H a 0 l→Ef H b 0 m→
  Calls Tryz.prog 319 #[.slice a l.length c, .iface 185 (.pointer (some ⟨ha,0,none⟩)), .iface 445 (.slice b m.length d)] w (Pur w (.bool (decide (l.length=m.length) && eqJs l m)))
theorem listEq_c (l m:List JT)(hc:∀j (h1:j<l.length)(h2:j<m.length),CEqu l[j] m[j]):CListEq l m:=by
 intro H ha a b c d w hi hna hnb hla hlb hal hbm
 have CE:Hid (∀w1:World,Imm H w1→∀bl,w1.heap[bl]?=some (.cells #[.slice a l.length c] 445)→Calls Tryz.prog 323 #[.iface 185 (.pointer (some ⟨ha,0,none⟩)), .iface 486 (.pointer (some ⟨bl,0,none⟩)), .iface 445 (.slice b m.length d)] w1 (Pur w1 (.bool (decide (l.length=m.length) && eqJs l m)))):=by
  intro w1 h1 bl hbx
  have hk:Imm (At w1) w1:=Imm.self w1
  have hcell:A8 (At w1) bl 0=some (.slice a l.length c):=by rw [Ai];exact(A1 hbx).1 0
  by_cases hne:l.length=m.length
  ·by_cases h0:l.length=0
   ·have e1:l=[]:=List.length_eq_zero_iff.1 h0
    have e2:m=[]:=List.length_eq_zero_iff.1 (by omega)
    subst e1;subst e2
    simpa [eqJs]using listEq_00 (At w1) bl ha a b c d w1 hk hcell
   ·rw [decide_eq_true hne,Bool.true_and,←hne]
    exact listEq_n l m l.length rfl hne.symm (by omega) hla hc (At w1) bl ha a b c d w1 hk hcell (hal.mono h1) (hbm.mono h1)
  ·rw [decide_eq_false hne,Bool.false_and]
   exact listEq_ne (At w1) bl ha a b l.length m.length c d hne hla hlb w1 hk hcell
 clear hc hal hbm hna hnb
 have HI:=Lib.hid hi
 clear hi
 unfold lim at hla hlb
 go_enter Tryz.func319,Tryz.ntmps319
 go_wp2_with fail
 refine(CE.out _ (HI.out.below A5) w.heap.size A4).mono ?_
 rintro _ w1 ⟨rfl,h1⟩
 go_wp2_with fail
 go_ret
 exact⟨rfl,Bw.tr A5 h1⟩
end
end Go.Proofs.YtmghkmhgpmcoaaaGreat
