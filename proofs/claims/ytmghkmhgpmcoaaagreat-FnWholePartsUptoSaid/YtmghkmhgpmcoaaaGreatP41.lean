/- What the claim's theorem 'proved' rests on: ItemElem. -/
import Derived.Test.YtmghkmhgpmcoaaaGreatP26
import Derived.Test.YtmghkmhgpmcoaaaGreatP39
set_option linter.unusedVariables false
set_option linter.unusedSimpArgs false
set_option maxRecDepth 100000
set_option maxHeartbeats 10000000
namespace Go.Proofs.YtmghkmhgpmcoaaaGreat
section
open Go Go.RowKit
def RetEB (H:Hp)(w:World):Ending→World→Prop:=fun e w'=>Bw w w'∧∃u x2 x3 y4 y5 ok,e= .returned (.tuple #[Dl u x2 x3 y4 y5, .bool ok])∧RE (A6 H w w') u x2 x3 y4 y5
theorem RE.zero {H:Hp}{v:GV}{k:Int}{y4 y5:Value}(hk:I64 k)(hv:RV H v y4 y5):RE H ⟨k,⟨#[]⟩,[],[],v,0⟩ (.slice none 0 0) (.slice none 0 0) y4 y5:=
 ⟨hk,AR (by simp) (by simp),Nat.zero_le _,Cv.nil,RVs.nil,hv⟩
theorem itemElem_w (s:List Ax)(l:B3)(v:GV)(H:Hp)(xs x1 x2 xk x4 x5:Value)(w:World)(hi:Imm H w)(hs:DH H s xs)(hl:D4 H l x1 x2 xk)(hv:RV H v x4 x5)(hso:v.k=6→AN v.ks∧v.ks.length=v.l.length):
  Calls Tryz.prog 109 #[E1 xs,aggL l x1 x2 xk,Ar v x4 x5] w (RetEB H w):=by
 have HA:=Lib.hid (And.intro hi (And.intro hs (And.intro hl hv)))
 have HSO:=Lib.hid hso
 obtain⟨aq,cq,rfl,_⟩:=hs
 obtain⟨_,hk,hr⟩:=C8.1 hl
 obtain⟨a1,c1,a2,c2,rfl,rfl⟩:=hr.open
 obtain⟨ak,ck,rfl,_,hkl,_,hka⟩:=hk
 obtain⟨p4,e4,p5,e5,rfl,rfl⟩:=hv.open
 have HK:=Lib.hid (And.intro hka hkl)
 unfold lim at hkl
 clear hi hl hr hv hso hka
 unfold Ar
 go_enter Tryz.func109,Tryz.ntmps109
 go_upto_region 1 with(fail)
 obtain⟨w0,hw0⟩:∃x,x=(((w.alloc (.cells #[.slice aq s.length cq] 24)).alloc (.cells #[.bool l.elem.named, .string l.elem.name, .string l.elem.atom.sc, .slice a1 l.elem.atom.li.length c1, .slice a2 l.elem.atom.ma.length c2, .string l.elem.rel, .string l.rel, .slice ak l.keys.length ck] 67)).alloc (.cells #[.int .i64 v.k, .int .i64 v.n, .float .f64 v.f, .string v.s, .slice p4 v.ks.length e4, .slice p5 v.l.length e5] 35)).alloc eZero:=⟨_,rfl⟩
 have H0:Hid (Bw w w0∧w0.heap.size=w.heap.size+1+1+1+1∧w0.heap[w.heap.size]?=some (.cells #[.slice aq s.length cq] 24)∧w0.heap[w.heap.size+1]?=some (.cells #[.bool l.elem.named, .string l.elem.name, .string l.elem.atom.sc, .slice a1 l.elem.atom.li.length c1, .slice a2 l.elem.atom.ma.length c2, .string l.elem.rel, .string l.rel, .slice ak l.keys.length ck] 67)∧w0.heap[w.heap.size+1+1]?=some (.cells #[.int .i64 v.k, .int .i64 v.n, .float .f64 v.f, .string v.s, .slice p4 v.ks.length e4, .slice p5 v.l.length e5] 35)∧w0.heap[w.heap.size+1+1+1]?=some eZero):=by
  subst hw0;exact⟨(((Bw.rfl.al _).al _).al _).al _,by simp,b4_0,b4_1,b4_2,b4_3⟩
 unfold eZero at hw0
 rw [←hw0]
 clear hw0
 obtain⟨q0,f0⟩:=A1 H0.out.2.2.1
 obtain⟨q1,f1⟩:=A1 H0.out.2.2.2.1
 obtain⟨q2,f2⟩:=A1 H0.out.2.2.2.2.1
 have hz:=H0.out.2.2.2.2.2
 unfold eZero at hz
 obtain⟨q3,f3⟩:=A1 hz
 have hl0:=A0 H0.out.2.2.1
 have hl1:=A0 H0.out.2.2.2.1
 have hl2:=A0 H0.out.2.2.2.2.1
 have hl3:=A0 hz
 clear hz
 by_cases hn:l.keys.length=0
 ·have hn1:((l.keys.length:Int)==0)=true:=by rw [hn];rfl
  have hn2:(l.keys.length:Int)=0:=by omega
  go_wp2_with fail
  have S1:w0.drew.cell? ⟨w.heap.size+1+1,0,none⟩=some (.int .i64 v.k)∧w0.drew.cell? ⟨w.heap.size+1+1,1,none⟩=some (.int .i64 v.n)∧w0.drew.cell? ⟨w.heap.size+1+1,2,none⟩=some (.float .f64 v.f)∧w0.drew.cell? ⟨w.heap.size+1+1,3,none⟩=some (.string v.s)∧w0.drew.cell? ⟨w.heap.size+1+1,4,none⟩=some (.slice p4 v.ks.length e4)∧w0.drew.cell? ⟨w.heap.size+1+1,5,none⟩=some (.slice p5 v.l.length e5):=⟨q2 0,q2 1,q2 2,q2 3,q2 4,q2 5⟩
  refine wp_region_held_drew (S:=fun w'=>w'.cell? ⟨w.heap.size+1+1,0,none⟩=some (.int .i64 v.k)∧w'.cell? ⟨w.heap.size+1+1,1,none⟩=some (.int .i64 v.n)∧w'.cell? ⟨w.heap.size+1+1,2,none⟩=some (.float .f64 v.f)∧w'.cell? ⟨w.heap.size+1+1,3,none⟩=some (.string v.s)∧w'.cell? ⟨w.heap.size+1+1,4,none⟩=some (.slice p4 v.ks.length e4)∧w'.cell? ⟨w.heap.size+1+1,5,none⟩=some (.slice p5 v.l.length e5)) (by kernel_rfl) S1 (fun hHeld=> ?_)
  refine tk 0 ?_
  try simp only [Act.put,tka,tkb,tkc]
  refine tk 1 ?_
  try simp only [Act.put,tka,tkb,tkc]
  refine tk 2 ?_
  try simp only [Act.put,tka,tkb,tkc]
  refine wpAnyH_ready (rs:=[3]) (by kernel_rfl) (by simp) ?_
  refine AllReadyH.cons rfl (fun Kq hKq=> ?_) AllReadyH.nil
  go_simp
  refine(scalar_c v _ _ w0.drew).mono ?_
  rintro _ w1 ⟨rfl,hb1'⟩
  have hb1:Bw w0 w1:=Bw.rfl.dr.tr hb1'
  have S2:w1.cell? ⟨w.heap.size+1+1,0,none⟩=some (.int .i64 v.k)∧w1.cell? ⟨w.heap.size+1+1,1,none⟩=some (.int .i64 v.n)∧w1.cell? ⟨w.heap.size+1+1,2,none⟩=some (.float .f64 v.f)∧w1.cell? ⟨w.heap.size+1+1,3,none⟩=some (.string v.s)∧w1.cell? ⟨w.heap.size+1+1,4,none⟩=some (.slice p4 v.ks.length e4)∧w1.cell? ⟨w.heap.size+1+1,5,none⟩=some (.slice p5 v.l.length e5):=by
   obtain⟨h1,h2,h3,h4,h5,h6⟩:=S1
   exact⟨cell_later hb1' h1,cell_later hb1' h2,cell_later hb1' h3,cell_later hb1' h4,cell_later hb1' h5,cell_later hb1' h6⟩
  refine hKq.out _ _ S2 (fun hHeld=> ?_)
  clear hKq Kq S1 q0 f0 q1 f1 q2 f2 hl0 hl1 hl2
  try simp only [Act.put,tka,tkb,tkc]
  have hz:=A2 hb1 H0.out.2.2.2.2.2
  unfold eZero at hz
  clear q3 f3 hl3
  obtain⟨q3,f3⟩:=A1 hz
  have hl3:=A0 hz
  have HB:=Lib.hid hb1
  clear hz hb1 hb1'
  refine wpAnyH_ready (rs:=[4]) (by kernel_rfl) (by simp) ?_
  refine AllReadyH.cons rfl (fun Kq hKq=> ?_) AllReadyH.nil
  go_simp
  have S3:∀(i0 i1 i2 i3 i4 i5 i6 i7 i8 i9 i10:Nat) (x0 x1 x2 x3 x4 x5 x6 x7 x8 x9 x10:Value),(fun w':World=>w'.cell? ⟨w.heap.size+1+1,0,none⟩=some (.int .i64 v.k)∧w'.cell? ⟨w.heap.size+1+1,1,none⟩=some (.int .i64 v.n)∧w'.cell? ⟨w.heap.size+1+1,2,none⟩=some (.float .f64 v.f)∧w'.cell? ⟨w.heap.size+1+1,3,none⟩=some (.string v.s)∧w'.cell? ⟨w.heap.size+1+1,4,none⟩=some (.slice p4 v.ks.length e4)∧w'.cell? ⟨w.heap.size+1+1,5,none⟩=some (.slice p5 v.l.length e5)) (((((((((((w1.setCell ⟨w.heap.size+1+1+1,i0,none⟩ x0).setCell ⟨w.heap.size+1+1+1,i1,none⟩ x1).setCell ⟨w.heap.size+1+1+1,i2,none⟩ x2).setCell ⟨w.heap.size+1+1+1,i3,none⟩ x3).setCell ⟨w.heap.size+1+1+1,i4,none⟩ x4).setCell ⟨w.heap.size+1+1+1,i5,none⟩ x5).setCell ⟨w.heap.size+1+1+1,i6,none⟩ x6).setCell ⟨w.heap.size+1+1+1,i7,none⟩ x7).setCell ⟨w.heap.size+1+1+1,i8,none⟩ x8).setCell ⟨w.heap.size+1+1+1,i9,none⟩ x9).setCell ⟨w.heap.size+1+1+1,i10,none⟩ x10):=by
   intros
   obtain⟨h1,h2,h3,h4,h5,h6⟩:=S2
   refine⟨?_, ?_, ?_, ?_, ?_, ?_⟩
   all_goals repeat refine B0 ?_ (by simp;done)
   ·exact h1
   ·exact h2
   ·exact h3
   ·exact h4
   ·exact h5
   ·exact h6
  refine hKq.out _ _ (S3 _ _ _ _ _ _ _ _ _ _ _ _ _ _ _ _ _ _ _ _ _ _) (fun hHeld=> ?_)
  clear hKq Kq
  try simp only [Act.put,tka,tkb,tkc]
  refine wpAnyH_ready (rs:=[5]) (by kernel_rfl) (by simp) ?_
  refine AllReadyH.cons rfl (fun Kq hKq=> ?_) AllReadyH.nil
  go_simp
  refine hKq.out _ _ (S3 _ _ _ _ _ _ _ _ _ _ _ _ _ _ _ _ _ _ _ _ _ _) (fun hHeld=> ?_)
  clear hKq Kq S2 S3
  try simp only [Act.put,tka,tkb,tkc]
  refine wpAnyH_done (by kernel_rfl) ?_ _
  clear hHeld
  go_wp2_with fail
  refine bodyPost_ret (v:= .tuple #[Dl ⟨2,⟨#[]⟩,[],[],v,0⟩ (.slice none 0 0) (.slice none 0 0) (.slice p4 v.ks.length e4) (.slice p5 v.l.length e5), .bool (D6 v)]) (by simp [results,Tryz.results109,go_sem,q3,Dl,hl3]) rfl ⟨?_,_,_,_,_,_,_,rfl,RE.zero (AR (by simp) (by simp)) (HA.out.2.2.2.mono (AY HA.out.1))⟩
  have h1:=H0.out.1.tr HB.out
  repeat with_reducible (first|exact h1|refine Bw.al ?_ _|refine Bw.dr ?_|refine Bw.set ?_ (by omega) _ _)
 ·have hn1:((l.keys.length:Int)==0)=false:=pos_ne (by omega)
  have hn2:¬(l.keys.length:Int)=0:=by omega
  by_cases h6:v.k=6
  ·have h61:(v.k !=6)=false:=by rw [h6];rfl
   have HH6:=Lib.hid h6
   clear h6
   go_wp2_with fail
   obtain⟨wz,hwz⟩:∃x,x=w0.alloc (CK (.slice none 0 0) (.slice none 0 0)):=⟨_,rfl⟩
   have HS:Hid (SK H w0 w0.heap.size (.slice none 0 0) (.slice none 0 0) [] [] wz):=by subst hwz;exact SK.start rfl
   unfold CK at hwz
   rw [←hwz]
   clear hwz q0 f0 q1 f1 q2 f2 q3 f3 hl0 hl1 hl2 hl3
   go_loopw [29] (fun i wr=>∃(j:Nat) (K:List ByteArray) (L:List VC) (vk vl:Value),i= .int .i64 (j:Int)∧j≤l.keys.length∧K.length≤j∧L.length=K.length∧SK H w0 w0.heap.size vk vl K L wr) (fun i _=>l.keys.length - (intOf i).toNat)
   case atStart=>exact⟨0,[],[],_,_,rfl,Nat.zero_le _,Nat.le_refl _,rfl,HS.out⟩
   case round=>
    obtain⟨j,K,L,vk,vl,rfl,hj,hKj,hLK,hs⟩:=hrel
    obtain⟨gk,ek,gl,el,rfl,rfl⟩:=hs.open
    obtain⟨wq,hwq⟩:∃x:World,x=wr:=⟨_,rfl⟩
    rw [←hwq]at hs⊢
    clear hwq
    have HSK:=Lib.hid (And.intro hs hLK)
    have hiq:=HA.out.1.below (H0.out.1.tr hs.bw)
    have hbS:=A2 hs.bw H0.out.2.2.1
    have hbL:=A2 hs.bw H0.out.2.2.2.1
    have hbV:=A2 hs.bw H0.out.2.2.2.2.1
    have hbO:=hs.out
    unfold CK at hbO
    obtain⟨q0,f0⟩:=A1 hbS
    obtain⟨q1,f1⟩:=A1 hbL
    obtain⟨q2,f2⟩:=A1 hbV
    obtain⟨q4,f4⟩:=A1 hbO
    have hl0:=A0 hbS
    have hl1:=A0 hbL
    have hl2:=A0 hbV
    have hl4:=A0 hbO
    clear hs hLK hbS hbL hbV hbO
    by_cases hjn:j<l.keys.length
    ·have p1:(j:Int)<(l.keys.length:Int):=by omega
     obtain⟨bk,ok,e0,c0,hks⟩:=HK.out.1.look hiq hjn
     cases e0
     have HV:=Lib.hid (And.intro hks hiq)
     clear hks hiq
     go_wp2_with fail
     refine(field_c v (l.keys[j]) H _ _ wq HV.out.2 HA.out.2.2.2 (HSO.out HH6.out).1 (HSO.out HH6.out).2).mono ?_
     rintro en w1 ⟨hb1,hpost⟩
     have hx:∃cu y4 y5 ok1,en= .returned (.tuple #[Ar cu y4 y5, .bool ok1])∧RV H cu y4 y5:=by
      cases hg:getF v (l.keys[j])with
      |none=>rw [hg]at hpost;exact⟨_,_,_,_,hpost,RV.zero⟩
      |some u=>rw [hg]at hpost;obtain⟨x4,x5,e1,h1⟩:=hpost;exact⟨_,_,_,_,e1,h1⟩
     obtain⟨cu,y4,y5,ok1,rfl,hcu⟩:=hx
     obtain⟨z4,g4,z5,g5,rfl,rfl⟩:=hcu.open
     unfold Ar
     have H1:=Lib.hid (And.intro hb1 hcu)
     clear hb1 hpost hcu q0 f0 q1 f1 q2 f2 q4 f4 hl0 hl1 hl2 hl4 c0
     go_upto_if 40 with(fail)
     obtain⟨wd,hwd⟩:∃x,x=w1.alloc (.cells #[.int .i64 cu.k, .int .i64 cu.n, .float .f64 cu.f, .string cu.s, .slice z4 cu.ks.length g4, .slice z5 cu.l.length g5] 35):=⟨_,rfl⟩
     have HD:Hid (Bw wq wd∧wq.heap.size≤w1.heap.size∧wd.heap.size=w1.heap.size+1∧wd.heap[w1.heap.size]?=some (.cells #[.int .i64 cu.k, .int .i64 cu.n, .float .f64 cu.f, .string cu.s, .slice z4 cu.ks.length g4, .slice z5 cu.l.length g5] 35)):=by
      subst hwd;exact⟨H1.out.1.al _,H1.out.1.size,by simp,b1_0⟩
     rw [←hwd]
     clear hwd
     go_cut [12] (fun s12 wx=>∃(ok2:Bool) (c2:GV) (z4:Option Addr) (g4:Nat) (z5:Option Addr) (g5:Nat),s12= .bool ok2∧Bw wq wx∧wx.heap[w1.heap.size]?=some (.cells #[.int .i64 c2.k, .int .i64 c2.n, .float .f64 c2.f, .string c2.s, .slice z4 c2.ks.length g4, .slice z5 c2.l.length g5] 35)∧RV (gXX H w0.heap.size (Value.slice gk K.length ek).ownBlock (Value.slice gl L.length el).ownBlock wx) c2 (.slice z4 c2.ks.length g4) (.slice z5 c2.l.length g5))
     case first=>
      cases ok1
      ·obtain⟨q0,f0⟩:=A1 (A2 (HSK.out.1.bw.tr HD.out.1) H0.out.2.2.1)
       obtain⟨q1,f1⟩:=A1 (A2 (HSK.out.1.bw.tr HD.out.1) H0.out.2.2.2.1)
       have hl0:=A0 (A2 (HSK.out.1.bw.tr HD.out.1) H0.out.2.2.1)
       have hl1:=A0 (A2 (HSK.out.1.bw.tr HD.out.1) H0.out.2.2.2.1)
       go_wp2_with fail
       refine(keyDefault_c s l (l.keys[j]) H _ _ _ _ wd (HV.out.2.below HD.out.1) HA.out.2.1 HA.out.2.2.1).mono ?_
       rintro _ w2 ⟨hb2,c2,y4,y5,ok2,rfl,hc2⟩
       obtain⟨z6,g6,z7,g7,rfl,rfl⟩:=hc2.open
       unfold Ar
       have H2:=Lib.hid (And.intro hb2 hc2)
       have hbx:=A2 hb2 HD.out.2.2.2
       clear hb2 hc2 q0 f0 q1 f1 hl0 hl1
       obtain⟨q5,f5⟩:=A1 hbx
       have hl5:=A0 hbx
       have HBX:=Lib.hid hbx
       clear hbx
       go_wp2_with fail
       go_meet
       refine⟨ok2,c2,z6,g6,z7,g7,rfl, ?_, ?_,H2.out.2.mono (hle_gXX_far (HA.out.1.below H0.out.1) rfl ?_ ?_ ?_ ?_)⟩
       ·have h1:=HD.out.1.tr H2.out.1
        have h2:=HD.out.2.1
        repeat with_reducible (first|exact h1|refine Bw.set ?_ (by omega) _ _)
       ·have:=Ae (Ae (Ae (Ae (Ae (Ae HBX.out 0 (.int .i64 c2.k)) 1 (.int .i64 c2.n)) 2 (.float .f64 c2.f)) 3 (.string c2.s)) 4 (.slice z6 c2.ks.length g6)) 5 (.slice z7 c2.l.length g7)
        simpa using this
       ·have:=HSK.out.1.size;have:=HD.out.2;omega
       ·intro k hk;have:=(HSK.out.1.rk.lt k hk).2;have:=HD.out.2;omega
       ·intro k hk;have:=(HSK.out.1.rl.lt k hk).2;have:=HD.out.2;omega
       ·intro k o hk he
        have hk1:¬k=w1.heap.size:=by have:=HD.out.2;omega
        rw [Ag _ _ _ _ _ hk1,Ag _ _ _ _ _ hk1,Ag _ _ _ _ _ hk1,Ag _ _ _ _ _ hk1,Ag _ _ _ _ _ hk1,Ag _ _ _ _ _ hk1];exact he
      ·go_wp2_with fail
       go_meet
       exact⟨true,cu,z4,g4,z5,g5,rfl,HD.out.1,HD.out.2.2.2,H1.out.2.mono (hle_gXX0 (HA.out.1.below H0.out.1) rfl)⟩
     case rest=>
      obtain⟨ok2,c2,z6,g6,z7,g7,rfl,hby,hbx,hc2⟩:=hcut
      obtain⟨wy,hwy⟩:∃x:World,x=wc:=⟨_,rfl⟩
      rw [←hwy]at hby hbx hc2⊢
      clear hwy
      have HY:=Lib.hid (And.intro (HSK.out.1.later hby) (And.intro hbx hc2))
      clear hby hbx hc2
      cases ok2
      ·go_wp2_with fail
       go_roundw
       case rel=>exact⟨j+1,K,L,_,_,by go_num,by omega,by omega,HSK.out.2,HY.out.1⟩
       case measure=>simp [intOf];omega
      ·have hbO:=HY.out.1.out
       unfold CK at hbO
       obtain⟨q4,f4⟩:=A1 hbO
       have hl4:=A0 hbO
       have hlk:K.length+1≤lim:=by have:=HK.out.2;omega
       have HLK:=Lib.hid hlk
       clear hbO hlk
       go_wp2_with (at_builtin;refine AF _ rfl (.tmp 50) (.tmp 52) 32 rfl (w0.heap.size+1) 9 (.string ⟨#[]⟩) 1 16 und_strs info_str rfl (by decide) (by decide) (.slice gk K.length ek) K.length (K.map Value.string) rfl ((HY.out.1.later A5).rk) wy.heap.size _ 9 rfl A4 rfl (by simp [Value.oneCell']) (by exact HLK.out) (by simp;omega) ?_)
       intro v' w2 ho2 hg2 hwh2
       obtain⟨ao,co,rfl⟩:=Aj ho2
       have hsk:=(HY.out.1.later (A5 (w:=wy) (o:= .cells #[.string l.keys[j]] 9))).key (s:=l.keys[j]) HV.out.1 ho2 hg2 (by rcases hwh2 with h|h;exact .inl h;exact .inr ⟨_,h,by simp⟩)
       have hbO:=(HY.out.1.later (A5 (w:=wy) (o:= .cells #[.string l.keys[j]] 9))).key_box hg2
       have hbX:w2.heap[w1.heap.size]?=some (.cells #[.int .i64 c2.k, .int .i64 c2.n, .float .f64 c2.f, .string c2.s, .slice z6 c2.ks.length g6, .slice z7 c2.l.length g7] 35):=(hg2.block _ (by have:=A0 HY.out.2.1;simp;omega) (fun e=>by
        have h1:=(HSK.out.1.rk.lt _ e.symm).2
        have:=HD.out.2.1;omega)).trans (A3 HY.out.2.1)
       have hneX:¬w1.heap.size=w0.heap.size:=by have h1:=HSK.out.1.size;have:=HD.out.2.1;omega
       have hvx:=(HY.out.2.2).mono (DY (X':=(Value.slice ao (K.length+1) co).ownBlock) (Y':=(Value.slice gl L.length el).ownBlock) (wr':=w2.setCell ⟨w0.heap.size,2,none⟩ (.slice ao (K.length+1) co)) fun k o hk e hx hy=>⟨by
        rcases hwh2 with e1|e1
        ·rw [e1];exact hx
        ·rw [e1];intro hh;cases hh;have:=A0 e;omega,hy,by
        rw [Ag _ _ _ _ _ (by omega),hg2.block k (by have:=A0 e;simp;omega) (fun e=>hx e.symm)];exact A3 e⟩)
       unfold CK at hbO
       clear q4 f4 hl4
       obtain⟨q4,f4⟩:=A1 hbO
       have hl4:=A0 hbO
       have HKy:=Lib.hid (And.intro hsk (And.intro (Cd hbX hneX 2 (.slice ao (K.length+1) co)) hvx))
       clear hsk hbO ho2 hg2 hwh2 hbX hneX hvx
       go_upto_region 14 with(fail)
       obtain⟨wk,hwk⟩:∃x,x=w2.setCell ⟨w0.heap.size,2,none⟩ (.slice ao (K.length+1) co):=⟨_,rfl⟩
       rw [←hwk]at HKy⊢
       clear hwk q4 f4 hl4
       have hbO:=HKy.out.1.out
       unfold CK at hbO
       obtain⟨q4,f4⟩:=A1 hbO
       obtain⟨q5,f5⟩:=A1 HKy.out.2.1
       have hl4:=A0 hbO
       have hl5:=A0 HKy.out.2.1
       clear hbO
       go_wp2_with (at_builtin;refine AF _ rfl (.tmp 56) (.tmp 58) 33 rfl (w0.heap.size+1) 35 CQ 6 88 DN DX rfl (by decide) (by decide) (.slice gl L.length el) L.length (AL L) rfl ((HKy.out.1.later A5).rl) wk.heap.size _ 35 rfl A4 rfl (by simp [Value.oneCell']) (by have:=HLK.out;have:=HSK.out.2;omega) (by simp;omega) ?_)
       intro v' w3 ho2 hg2 hwh2
       obtain⟨ao3,co3,rfl⟩:=Aj ho2
       have hsk:=(HKy.out.1.later (A5 (w:=wk) (o:= .cells #[.int .i64 c2.k, .int .i64 c2.n, .float .f64 c2.f, .string c2.s, .slice z6 c2.ks.length g6, .slice z7 c2.l.length g7] 35))).val (t:=⟨c2, .slice z6 c2.ks.length g6, .slice z7 c2.l.length g7⟩) (HKy.out.2.2.mono (DY fun k o hk e hx hy=>⟨hx,hy,A3 e⟩)) ho2 hg2 (by rcases hwh2 with h|h;exact .inl h;exact .inr ⟨_,h,by simp⟩)
       have hbO:=(HKy.out.1.later (A5 (w:=wk) (o:= .cells #[.int .i64 c2.k, .int .i64 c2.n, .float .f64 c2.f, .string c2.s, .slice z6 c2.ks.length g6, .slice z7 c2.l.length g7] 35))).val_box hg2
       unfold CK at hbO
       clear q4 f4 hl4 q5 f5 hl5
       obtain⟨q4,f4⟩:=A1 hbO
       have hl4:=A0 hbO
       have HW:=Lib.hid hsk
       clear hsk hbO ho2 hg2 hwh2
       go_wp2_with fail
       go_roundw
       case rel=>exact⟨j+1,_,_,_,_,by go_num,by omega,by rw [List.length_append];simp;omega,by rw [List.length_append,List.length_append,HSK.out.2];rfl,HW.out⟩
       case measure=>simp [intOf];omega
    ·have p1:¬(j:Int)<(l.keys.length:Int):=by omega
     go_upto_region 16 with(fail)
     have hre:=HSK.out.1.shutN (w:=w) (by have:=HK.out.2;omega) (by have:=HK.out.2;have:=HSK.out.2;omega)
     have HRE:=Lib.hid (And.intro hre (growN_imm (n:=w0.heap.size) HA.out.1 (H0.out.1.tr HSK.out.1.bw)))
     have S1:wq.drew.cell? ⟨w0.heap.size,0,none⟩=some (.int .i64 1)∧wq.drew.cell? ⟨w0.heap.size,1,none⟩=some (.string ⟨#[]⟩)∧wq.drew.cell? ⟨w0.heap.size,2,none⟩=some (.slice gk K.length ek)∧wq.drew.cell? ⟨w0.heap.size,3,none⟩=some (.slice gl L.length el)∧wq.drew.cell? ⟨w0.heap.size,4,none⟩=some (.int .i64 0)∧wq.drew.cell? ⟨w0.heap.size,5,none⟩=some (.int .i64 0)∧wq.drew.cell? ⟨w0.heap.size,6,none⟩=some (.float .f64 0)∧wq.drew.cell? ⟨w0.heap.size,7,none⟩=some (.string ⟨#[]⟩)∧wq.drew.cell? ⟨w0.heap.size,8,none⟩=some (.slice none 0 0)∧wq.drew.cell? ⟨w0.heap.size,9,none⟩=some (.slice none 0 0)∧wq.drew.cell? ⟨w0.heap.size,10,none⟩=some (.int .i64 0):=⟨q4 0,q4 1,q4 2,q4 3,q4 4,q4 5,q4 6,q4 7,q4 8,q4 9,q4 10⟩
     clear hre
     refine wp_region_held_drew (S:=(fun w'=>w'.cell? ⟨w0.heap.size,0,none⟩=some (.int .i64 1)∧w'.cell? ⟨w0.heap.size,1,none⟩=some (.string ⟨#[]⟩)∧w'.cell? ⟨w0.heap.size,2,none⟩=some (.slice gk K.length ek)∧w'.cell? ⟨w0.heap.size,3,none⟩=some (.slice gl L.length el)∧w'.cell? ⟨w0.heap.size,4,none⟩=some (.int .i64 0)∧w'.cell? ⟨w0.heap.size,5,none⟩=some (.int .i64 0)∧w'.cell? ⟨w0.heap.size,6,none⟩=some (.float .f64 0)∧w'.cell? ⟨w0.heap.size,7,none⟩=some (.string ⟨#[]⟩)∧w'.cell? ⟨w0.heap.size,8,none⟩=some (.slice none 0 0)∧w'.cell? ⟨w0.heap.size,9,none⟩=some (.slice none 0 0)∧w'.cell? ⟨w0.heap.size,10,none⟩=some (.int .i64 0))) (by kernel_rfl) S1 (fun hHeld=> ?_)
     refine tk 0 ?_
     try simp only [Act.put,tka,tkb,tkc]
     refine tk 2 ?_
     try simp only [Act.put,tka,tkb,tkc]
     refine tk 3 ?_
     try simp only [Act.put,tka,tkb,tkc]
     refine tk 4 ?_
     try simp only [Act.put,tka,tkb,tkc]
     refine tk 5 ?_
     try simp only [Act.put,tka,tkb,tkc]
     refine wpAnyH_ready (rs:=[1]) (by kernel_rfl) (by simp) ?_
     refine AllReadyH.cons rfl (fun Kq hKq=> ?_) AllReadyH.nil
     go_simp
     refine(sortKeys_w (skE K L) (BU H w0.heap.size wq) _ _ _ _ wq.drew (HRE.out.2.below Bw.rfl.dr) HRE.out.1).mono ?_
     rintro _ w5 ⟨hb5,u,x2,x3,y4,y5,rfl,hu⟩
     obtain⟨b2,e2,b3,e3,b4,e4,b5,e5,rfl,rfl,rfl,rfl⟩:=hu.open
     unfold Dl
     have H5:=Lib.hid (And.intro hb5 hu)
     have S2:w5.cell? ⟨w0.heap.size,0,none⟩=some (.int .i64 1)∧w5.cell? ⟨w0.heap.size,1,none⟩=some (.string ⟨#[]⟩)∧w5.cell? ⟨w0.heap.size,2,none⟩=some (.slice gk K.length ek)∧w5.cell? ⟨w0.heap.size,3,none⟩=some (.slice gl L.length el)∧w5.cell? ⟨w0.heap.size,4,none⟩=some (.int .i64 0)∧w5.cell? ⟨w0.heap.size,5,none⟩=some (.int .i64 0)∧w5.cell? ⟨w0.heap.size,6,none⟩=some (.float .f64 0)∧w5.cell? ⟨w0.heap.size,7,none⟩=some (.string ⟨#[]⟩)∧w5.cell? ⟨w0.heap.size,8,none⟩=some (.slice none 0 0)∧w5.cell? ⟨w0.heap.size,9,none⟩=some (.slice none 0 0)∧w5.cell? ⟨w0.heap.size,10,none⟩=some (.int .i64 0):=by
      obtain⟨h1,h2,h3,h4,h5,h6,h7,h8,h9,h10,h11⟩:=S1
      exact⟨cell_later hb5 h1,cell_later hb5 h2,cell_later hb5 h3,cell_later hb5 h4,cell_later hb5 h5,cell_later hb5 h6,cell_later hb5 h7,cell_later hb5 h8,cell_later hb5 h9,cell_later hb5 h10,cell_later hb5 h11⟩
     refine hKq.out _ _ S2 (fun hHeld=> ?_)
     clear hKq Kq S1 q0 f0 q1 f1 q2 f2 q4 f4 hl0 hl1 hl2 hl4 hb5 hu
     try simp only [Act.put,tka,tkb,tkc]
     have hz:=A2 H5.out.1 (show(wq.drew).heap[w.heap.size+1+1+1]?=some eZero from A2 HSK.out.1.bw.dr H0.out.2.2.2.2.2)
     unfold eZero at hz
     obtain⟨q3,f3⟩:=A1 hz
     have hl3:=A0 hz
     have hne:¬w0.heap.size=w.heap.size+1+1+1:=by have:=H0.out.2.1;omega
     have S3:∀(i0 i1 i2 i3 i4 i5 i6 i7 i8 i9 i10:Nat) (x0 x1 x2 x3 x4 x5 x6 x7 x8 x9 x10:Value),(fun w'=>w'.cell? ⟨w0.heap.size,0,none⟩=some (.int .i64 1)∧w'.cell? ⟨w0.heap.size,1,none⟩=some (.string ⟨#[]⟩)∧w'.cell? ⟨w0.heap.size,2,none⟩=some (.slice gk K.length ek)∧w'.cell? ⟨w0.heap.size,3,none⟩=some (.slice gl L.length el)∧w'.cell? ⟨w0.heap.size,4,none⟩=some (.int .i64 0)∧w'.cell? ⟨w0.heap.size,5,none⟩=some (.int .i64 0)∧w'.cell? ⟨w0.heap.size,6,none⟩=some (.float .f64 0)∧w'.cell? ⟨w0.heap.size,7,none⟩=some (.string ⟨#[]⟩)∧w'.cell? ⟨w0.heap.size,8,none⟩=some (.slice none 0 0)∧w'.cell? ⟨w0.heap.size,9,none⟩=some (.slice none 0 0)∧w'.cell? ⟨w0.heap.size,10,none⟩=some (.int .i64 0)) (((((((((((w5.setCell ⟨w.heap.size+1+1+1,i0,none⟩ x0).setCell ⟨w.heap.size+1+1+1,i1,none⟩ x1).setCell ⟨w.heap.size+1+1+1,i2,none⟩ x2).setCell ⟨w.heap.size+1+1+1,i3,none⟩ x3).setCell ⟨w.heap.size+1+1+1,i4,none⟩ x4).setCell ⟨w.heap.size+1+1+1,i5,none⟩ x5).setCell ⟨w.heap.size+1+1+1,i6,none⟩ x6).setCell ⟨w.heap.size+1+1+1,i7,none⟩ x7).setCell ⟨w.heap.size+1+1+1,i8,none⟩ x8).setCell ⟨w.heap.size+1+1+1,i9,none⟩ x9).setCell ⟨w.heap.size+1+1+1,i10,none⟩ x10):=by
      intros
      obtain⟨h1,h2,h3,h4,h5,h6,h7,h8,h9,h10,h11⟩:=S2
      refine⟨?_, ?_, ?_, ?_, ?_, ?_, ?_, ?_, ?_, ?_, ?_⟩
      all_goals repeat refine B0 ?_ (by simp [hne];done)
      ·exact h1
      ·exact h2
      ·exact h3
      ·exact h4
      ·exact h5
      ·exact h6
      ·exact h7
      ·exact h8
      ·exact h9
      ·exact h10
      ·exact h11
     clear hz hne
     refine wpAnyH_ready (rs:=[6]) (by kernel_rfl) (by simp) ?_
     refine AllReadyH.cons rfl (fun Kq hKq=> ?_) AllReadyH.nil
     go_simp
     refine hKq.out _ _ (S3 _ _ _ _ _ _ _ _ _ _ _ _ _ _ _ _ _ _ _ _ _ _) (fun hHeld=> ?_)
     clear hKq Kq
     try simp only [Act.put,tka,tkb,tkc]
     refine wpAnyH_ready (rs:=[7]) (by kernel_rfl) (by simp) ?_
     refine AllReadyH.cons rfl (fun Kq hKq=> ?_) AllReadyH.nil
     go_simp
     refine hKq.out _ _ (S3 _ _ _ _ _ _ _ _ _ _ _ _ _ _ _ _ _ _ _ _ _ _) (fun hHeld=> ?_)
     clear hKq Kq S2 S3
     try simp only [Act.put,tka,tkb,tkc]
     refine wpAnyH_done (by kernel_rfl) ?_ _
     clear hHeld
     go_wp2_with fail
     refine bodyPost_ret (v:= .tuple #[Dl u (.slice b2 u.ks.length e2) (.slice b3 u.l.length e3) (.slice b4 u.v.ks.length e4) (.slice b5 u.v.l.length e5), .bool (decide ((0:Int)<(K.length:Int)))]) (by simp [results,Tryz.results109,go_sem,q3,Dl,hl3]) rfl ⟨?_,_,_,_,_,_,_,rfl,H5.out.2.mono (growN_far HA.out.1 (by have:=H0.out.2.1;omega) Bw.rfl.dr H5.out.1 (fun k o hk he=> ?_) (by have:=HSK.out.1.size;omega))⟩
     ·have h1:=(H0.out.1.tr HSK.out.1.bw).dr.tr H5.out.1
      repeat with_reducible (first|exact h1|refine Bw.al ?_ _|refine Bw.dr ?_|refine Bw.set ?_ (by omega) _ _)
     ·have hk1:¬k=w.heap.size+1+1+1:=by have:=H0.out.2.1;omega
      rw [Ag _ _ _ _ _ hk1,Ag _ _ _ _ _ hk1,Ag _ _ _ _ _ hk1,Ag _ _ _ _ _ hk1,Ag _ _ _ _ _ hk1,Ag _ _ _ _ _ hk1,Ag _ _ _ _ _ hk1,Ag _ _ _ _ _ hk1,Ag _ _ _ _ _ hk1,Ag _ _ _ _ _ hk1,Ag _ _ _ _ _ hk1];exact he
  ·have h61:(v.k !=6)=true:=by simpa using h6
   go_wp2_with fail
   refine bodyPost_ret (v:= .tuple #[Dl ⟨0,⟨#[]⟩,[],[],Ay,0⟩ (.slice none 0 0) (.slice none 0 0) (.slice none 0 0) (.slice none 0 0), .bool false]) (by simp [results,Tryz.results109,go_sem,q3,Dl,Ay,hl3]) rfl ⟨?_,_,_,_,_,_,_,rfl,RE.zero (AR (by simp) (by simp)) RV.zero⟩
   have h1:=H0.out.1
   repeat with_reducible (first|exact h1|refine Bw.al ?_ _|refine Bw.dr ?_|refine Bw.set ?_ (by omega) _ _)
end
end Go.Proofs.YtmghkmhgpmcoaaaGreat
