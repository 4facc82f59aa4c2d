/- What the claim's theorem 'proved' rests on: LawW. -/
import Derived.Test.YtmghkmhgpmcoaaaGreatP38
import Derived.Test.YtmghkmhgpmcoaaaGreatP43
import Derived.Test.YtmghkmhgpmcoaaaGreatP47
set_option linter.unusedVariables false
set_option linter.unusedSimpArgs false
set_option maxRecDepth 100000
set_option maxHeartbeats 10000000
namespace Go.Proofs.YtmghkmhgpmcoaaaGreat
section
open Go Go.RowKit
abbrev oR (r:As)(x1 x2:Value):Obj:= .cells #[.bool r.named, .string r.name, .string r.atom.sc,x1,x2, .string r.rel] 30
abbrev oS (x:Value):Obj:= .cells #[x] 24
abbrev oA (a:Ap)(x1 x2:Value):Obj:= .cells #[.string a.sc,x1,x2] 28
def LB (w:World)(xs:Value)(r:As)(x1 x2:Value)(a:GV)(a4 a5:Value)(b:GV)(b4 b5:Value)(wx:World):Prop:=
 Bw w wx∧wx.heap[w.heap.size]?=some (oS xs)∧wx.heap[w.heap.size+1]?=some (oR r x1 x2)∧wx.heap[w.heap.size+1+1]?=some (oV a a4 a5)∧wx.heap[w.heap.size+1+1+1]?=some (oV b b4 b5)
theorem LB.later {w wx wy:World}{xs:Value}{r:As}{x1 x2:Value}{a:GV}{a4 a5:Value}{b:GV}{b4 b5:Value}(h:LB w xs r x1 x2 a a4 a5 b b4 b5 wx)(hb:Bw wx wy):LB w xs r x1 x2 a a4 a5 b b4 b5 wy:=
 ⟨h.1.tr hb,A2 hb h.2.1,A2 hb h.2.2.1,A2 hb h.2.2.2.1,A2 hb h.2.2.2.2⟩
theorem two_vals {w:World}{B:Nat}{a b:GV}{a4 a5 b4 b5:Value}(h:w.heap[B]?=some (.cells #[.int .i64 a.k, .int .i64 a.n, .float .f64 a.f, .string a.s,a4,a5, .int .i64 b.k, .int .i64 b.n, .float .f64 b.f, .string b.s,b4,b5] 35))(ha:RV (At w) a a4 a5)(hb:RV (At w) b b4 b5):
  RVs (At w) [a,b] (.slice (some ⟨B,0,none⟩) 2 2):=by
 obtain⟨q,_⟩:=A1 h
 refine⟨some ⟨B,0,none⟩,2,rfl,by simp,by simp [lim],Nat.le_refl _,CX.mk fun j hj=> ?_⟩
 match j,hj with
 |0,_=>exact⟨B,0,a4,a5,rfl,⟨Ai.trans (q 0),Ai.trans (q 1),Ai.trans (q 2),Ai.trans (q 3),Ai.trans (q 4),Ai.trans (q 5)⟩,ha⟩
 |1,_=>exact⟨B,0,b4,b5,rfl,⟨Ai.trans (q 6),Ai.trans (q 7),Ai.trans (q 8),Ai.trans (q 9),Ai.trans (q 10),Ai.trans (q 11)⟩,hb⟩
theorem root_rep {w:World}{B1 B2:Nat}{name:ByteArray}{r:As}{x1 x2:Value}(h1:w.heap[B1]?=some (.cells #[.string name, .bool r.named, .string r.name, .string r.atom.sc,x1,x2, .string r.rel, .slice none 0 0] 45))
  (h2:w.heap[B2]?=some (.cells #[.slice (some ⟨B1,0,none⟩) 1 1, .bool false, .string ⟨#[]⟩, .string ⟨#[]⟩, .slice none 0 0, .slice none 0 0, .string ⟨#[]⟩, .string ⟨#[]⟩] 48)) (hn:name.size≤lim) (hr:Cy (At w) r x1 x2):
  Cy (At w) (Ep name r) (.slice none 0 0) (.slice (some ⟨B2,0,none⟩) 1 1):=by
 obtain⟨q1,_⟩:=A1 h1
 obtain⟨q2,_⟩:=A1 h2
 have c1:=fun i=>(Ai (w:=w) (b:=B1) (o:=i)).trans (q1 i)
 have c2:=fun i=>(Ai (w:=w) (b:=B2) (o:=i)).trans (q2 i)
 have hl:E9 (At w) [] (.slice none 0 0):=⟨none,0,rfl,by simp,Nat.zero_le _,Nat.le_refl _,by simp only [Bb]⟩
 have hm:RMaps (At w) [] (.slice none 0 0):=⟨none,0,rfl,by simp,Nat.zero_le _,Nat.le_refl _,by simp only [Bu]⟩
 refine BP.2 ⟨Nat.zero_le _,Nat.zero_le _,Bd.2 ⟨Nat.zero_le _,hl,some ⟨B2,0,none⟩,1,rfl,by simp,by simp [lim,Ep],by simp [Ep],Bu.mk fun j hj=> ?_⟩⟩
 have hj0:j=0:=by simp [Ep]at hj;omega
 subst hj0
 refine⟨B2,0, .slice (some ⟨B1,0,none⟩) 1 1, .slice none 0 0, .slice none 0 0,rfl,⟨c2 0,⟨c2 1,c2 2,c2 3,c2 4,c2 5,c2 6⟩,c2 7⟩,Cl.2 ⟨Nat.zero_le _,⟨some ⟨B1,0,none⟩,1,rfl,by simp,by simp [lim,Ep],by simp [Ep],B8.mk fun i hi=> ?_⟩,BP.2 ⟨Nat.zero_le _,Nat.zero_le _,Bd.2 ⟨Nat.zero_le _,hl,hm⟩⟩⟩⟩
 have hi0:i=0:=by simp [Ep]at hi;omega
 subst hi0
 exact⟨B1,0,x1,x2, .slice none 0 0,rfl,⟨c1 0,⟨c1 1,c1 2,c1 3,c1 4,c1 5,c1 6⟩,c1 7⟩,C3.2 ⟨hn,hr,RVs.nil⟩⟩
theorem keepC {w13 W1:World}{p0 p1 p2 p3 p4 p5 p6 p7 p8 p9 p10 p11:Addr}{u0 u1 u2 u3 u4 u5 u6 u7 u8 u9 u10 u11:Value}(h:w13.cell? p0=some u0∧w13.cell? p1=some u1∧w13.cell? p2=some u2∧w13.cell? p3=some u3∧w13.cell? p4=some u4∧w13.cell? p5=some u5∧w13.cell? p6=some u6∧w13.cell? p7=some u7∧w13.cell? p8=some u8∧w13.cell? p9=some u9∧w13.cell? p10=some u10∧w13.cell? p11=some u11)(hb:Bw w13 W1):W1.cell? p0=some u0∧W1.cell? p1=some u1∧W1.cell? p2=some u2∧W1.cell? p3=some u3∧W1.cell? p4=some u4∧W1.cell? p5=some u5∧W1.cell? p6=some u6∧W1.cell? p7=some u7∧W1.cell? p8=some u8∧W1.cell? p9=some u9∧W1.cell? p10=some u10∧W1.cell? p11=some u11:=by
 obtain⟨h0,h1,h2,h3,h4,h5,h6,h7,h8,h9,h10,h11⟩:=h
 exact⟨cell_later hb h0,cell_later hb h1,cell_later hb h2,cell_later hb h3,cell_later hb h4,cell_later hb h5,cell_later hb h6,cell_later hb h7,cell_later hb h8,cell_later hb h9,cell_later hb h10,cell_later hb h11⟩
abbrev zeroM:Value:= .agg #[.int .i64 6, .int .i64 0, .float .f64 0, .string ⟨#[]⟩, .slice none 0 0, .slice none 0 0]
theorem jt_mapV (name:ByteArray)(a:GV):Ak (BD name a)= .map [name] [Ak a]:=by simp [BD,Ak,Cu,D3,E4,putV]
theorem one_str {w:World}{B:Nat}{name:ByteArray}(h:w.heap[B]?=some (.cells #[.string name] 9))(hn:name.size≤lim):Cv (At w) [name] (.slice (some ⟨B,0,none⟩) 1 1):=by
 obtain⟨q,_⟩:=A1 h
 refine⟨some ⟨B,0,none⟩,1,rfl,by simp,by simp [lim],Nat.le_refl _,Bt.mk fun j hj=> ?_⟩
 have hj0:j=0:=by simp at hj;omega
 subst hj0
 exact⟨B,0,rfl,Ai.trans (q 0),hn⟩
theorem modP_opt (name:ByteArray)(same:Bool):modP name same=DC (if same then none else some name):=by cases same<;>rfl
theorem Fg (o:Option ByteArray):sameO o o=true:=by cases o<;>simp [sameO]
theorem ho_same {o:Option ByteArray}{name:ByteArray}(h:o=if false=true then none else some name):sameO o (some name)=true:=by rw [h];exact Fg _
theorem ho_none {o:Option ByteArray}{name:ByteArray}(h:o=if true=true then none else some name):sameO o none=true:=by rw [h];exact Fg _
theorem lists_t (o1 o2:Option ByteArray)(h:sameO o1 o2=true)(H:Hp)(x y:Value)(w:World)(hi:Imm H w)(hv:Bz H (DC o1) x)(hu:Bz H (DC o2) y):
  Calls Tryz.prog 20 #[x,y] w (Pur w (.bool true)):=by
 have:=lists_c o1 o2 H x y w hi hv hu
 rw [h]at this;exact this
theorem nil_paths {K:Hp}:Bz K (DC none) (.slice none 0 0):=⟨none,0,rfl,fun _=>⟨rfl,rfl⟩,Nat.zero_le _,Nat.le_refl _,by simp only [DC,BI]⟩
theorem emp_nil:(⟨#[]⟩:ByteArray).toList=[]:=by first|rfl|decide|simp
theorem emp_is:(⟨#[]⟩:ByteArray).toList.isEmpty=true:=by rw [emp_nil];rfl
theorem emp_not:((⟨#[]⟩:ByteArray).toList==An)=false:=by rw [emp_nil];rfl
theorem eq_turn (a b:GV):eqJ (Ak b) (Ak a)=eqP (Aa a) (Aa b):=by rw [eq_plain,eqP_symm]
theorem clean_same (name:ByteArray)(b:GV):Aa (AE (.map [name] [Ak b]))=Aa (BD name b):=by rw [←jt_mapV,Fs,clean_idem]
theorem law_w (s:List Ax)(r:As)(name:ByteArray)(a b:GV)(H:Hp)(xs x1 x2 a4 a5 b4 b5:Value)(w:World)(hi:Imm H w)(hs:DH H s xs)(hr:Cy H r x1 x2)(hn:name.size≤lim)(ha:RV H a a4 a5)(hb:RV H b b4 b5):
  Calls Tryz.prog 3 #[E1 xs,E8 r x1 x2, .string name,Ar a a4 a5,Ar b b4 b5] w (Pur w (.bool true)):=by
 have HA:=Lib.hid (And.intro hi (And.intro hs (And.intro hr (And.intro hn (And.intro ha hb)))))
 obtain⟨aq,cq,rfl,_⟩:=hs
 obtain⟨a1,c1,a2,c2,rfl,rfl⟩:=hr.open
 obtain⟨p4,e4,p5,e5,rfl,rfl⟩:=ha.open
 obtain⟨s4,g4,s5,g5,rfl,rfl⟩:=hb.open
 clear hi hr hn ha hb
 unfold Ar
 go_enter Tryz.func3,Tryz.ntmps3
 go_upto_region 1 with(fail)
 obtain⟨w0,hw0⟩:∃x,x=(((w.alloc (oS (.slice aq s.length cq))).alloc (oR r (.slice a1 r.atom.li.length c1) (.slice a2 r.atom.ma.length c2))).alloc (oV a (.slice p4 a.ks.length e4) (.slice p5 a.l.length e5))).alloc (oV b (.slice s4 b.ks.length g4) (.slice s5 b.l.length g5)):=⟨_,rfl⟩
 have H0:Hid (LB w (.slice aq s.length cq) r (.slice a1 r.atom.li.length c1) (.slice a2 r.atom.ma.length c2) a (.slice p4 a.ks.length e4) (.slice p5 a.l.length e5) b (.slice s4 b.ks.length g4) (.slice s5 b.l.length g5) w0):=by
  subst hw0;exact⟨(((Bw.rfl.al _).al _).al _).al _,b4_0,b4_1,b4_2,b4_3⟩
 rw [←hw0]
 clear hw0
 obtain⟨q0,f0⟩:=A1 H0.out.2.1
 obtain⟨q1,f1⟩:=A1 H0.out.2.2.1
 obtain⟨q2,f2⟩:=A1 H0.out.2.2.2.1
 obtain⟨q3,f3⟩:=A1 H0.out.2.2.2.2
 have hl0:=A0 H0.out.2.1
 have hl1:=A0 H0.out.2.2.1
 have hl2:=A0 H0.out.2.2.2.1
 have hl3:=A0 H0.out.2.2.2.2
 go_wp2_with fail
 refine(fits6_c s H _ w0 HA.out.2.1).mono ?_
 rintro _ w1 ⟨⟨z,rfl⟩,hb1⟩
 have H1:=Lib.hid (H0.out.later hb1)
 clear hb1
 clear q0 f0 q1 f1 q2 f2 q3 f3 hl0 hl1 hl2 hl3
 obtain⟨q0,f0⟩:=A1 H1.out.2.1
 obtain⟨q1,f1⟩:=A1 H1.out.2.2.1
 obtain⟨q2,f2⟩:=A1 H1.out.2.2.2.1
 obtain⟨q3,f3⟩:=A1 H1.out.2.2.2.2
 have hl0:=A0 H1.out.2.1
 have hl1:=A0 H1.out.2.2.1
 have hl2:=A0 H1.out.2.2.2.1
 have hl3:=A0 H1.out.2.2.2.2
 cases z
 ·go_wp2_with fail
  go_ret
  exact⟨rfl,H1.out.1⟩
 go_wp2_with fail
 refine(fits7_c r H _ _ w1 HA.out.2.2.1).mono ?_
 rintro _ w2 ⟨⟨z,rfl⟩,hb2⟩
 have H2:=Lib.hid (H1.out.later hb2)
 clear hb2
 clear q0 f0 q1 f1 q2 f2 q3 f3 hl0 hl1 hl2 hl3
 obtain⟨q0,f0⟩:=A1 H2.out.2.1
 obtain⟨q1,f1⟩:=A1 H2.out.2.2.1
 obtain⟨q2,f2⟩:=A1 H2.out.2.2.2.1
 obtain⟨q3,f3⟩:=A1 H2.out.2.2.2.2
 have hl0:=A0 H2.out.2.1
 have hl1:=A0 H2.out.2.2.1
 have hl2:=A0 H2.out.2.2.2.1
 have hl3:=A0 H2.out.2.2.2.2
 cases z
 ·go_wp2_with fail
  go_ret
  exact⟨rfl,H2.out.1⟩
 by_cases hnm:(2147483647:Int)<(name.size:Int)
 ·go_wp2_with fail
  go_ret
  exact⟨rfl,H2.out.1⟩
 go_wp2_with fail
 refine(fits5_c a H _ _ w2 (HA.out.1.below H2.out.1) HA.out.2.2.2.2.1).mono ?_
 rintro _ w3 ⟨⟨z,rfl⟩,hb3⟩
 have H3:=Lib.hid (H2.out.later hb3)
 clear hb3
 clear q0 f0 q1 f1 q2 f2 q3 f3 hl0 hl1 hl2 hl3
 obtain⟨q0,f0⟩:=A1 H3.out.2.1
 obtain⟨q1,f1⟩:=A1 H3.out.2.2.1
 obtain⟨q2,f2⟩:=A1 H3.out.2.2.2.1
 obtain⟨q3,f3⟩:=A1 H3.out.2.2.2.2
 have hl0:=A0 H3.out.2.1
 have hl1:=A0 H3.out.2.2.1
 have hl2:=A0 H3.out.2.2.2.1
 have hl3:=A0 H3.out.2.2.2.2
 cases z
 ·go_wp2_with fail
  go_ret
  exact⟨rfl,H3.out.1⟩
 go_wp2_with fail
 refine(fits5_c b H _ _ w3 (HA.out.1.below H3.out.1) HA.out.2.2.2.2.2).mono ?_
 rintro _ w4 ⟨⟨z,rfl⟩,hb4⟩
 have H4:=Lib.hid (H3.out.later hb4)
 clear hb4
 clear q0 f0 q1 f1 q2 f2 q3 f3 hl0 hl1 hl2 hl3
 obtain⟨q0,f0⟩:=A1 H4.out.2.1
 obtain⟨q1,f1⟩:=A1 H4.out.2.2.1
 obtain⟨q2,f2⟩:=A1 H4.out.2.2.2.1
 obtain⟨q3,f3⟩:=A1 H4.out.2.2.2.2
 have hl0:=A0 H4.out.2.1
 have hl1:=A0 H4.out.2.2.1
 have hl2:=A0 H4.out.2.2.2.1
 have hl3:=A0 H4.out.2.2.2.2
 cases z
 ·go_wp2_with fail
  go_ret
  exact⟨rfl,H4.out.1⟩
 go_wp2_with fail
 refine(Eg H s r _ _ _ w4 (HA.out.1.below H4.out.1) HA.out.2.1 HA.out.2.2.1).mono ?_
 rintro en w5 hpost
 unfold Cx at hpost
 obtain⟨hb5,hpost⟩:=hpost
 have H5:=Lib.hid (H4.out.later hb5)
 clear q0 f0 q1 f1 q2 f2 q3 f3 hl0 hl1 hl2 hl3
 obtain⟨q0,f0⟩:=A1 H5.out.2.1
 obtain⟨q1,f1⟩:=A1 H5.out.2.2.1
 obtain⟨q2,f2⟩:=A1 H5.out.2.2.2.1
 obtain⟨q3,f3⟩:=A1 H5.out.2.2.2.2
 have hl0:=A0 H5.out.2.1
 have hl1:=A0 H5.out.2.2.1
 have hl2:=A0 H5.out.2.2.2.1
 have hl3:=A0 H5.out.2.2.2.2
 rcases hqr:AJ s r with _|t
 ·rw [hqr]at hpost
  simp only at hpost
  subst hpost
  clear hqr hb5
  go_wp2_with fail
  go_ret
  exact⟨rfl,H5.out.1.al _⟩
 rw [hqr]at hpost
 obtain⟨z1,z2,rfl,ht⟩:=hpost
 obtain⟨k1,d1,k2,d2,rfl,rfl⟩:=ht.open
 obtain⟨w6,hw6⟩:∃x,x=w5.alloc (oA t (.slice k1 t.li.length d1) (.slice k2 t.ma.length d2)):=⟨_,rfl⟩
 have H6:Hid (LB w (.slice aq s.length cq) r (.slice a1 r.atom.li.length c1) (.slice a2 r.atom.ma.length c2) a (.slice p4 a.ks.length e4) (.slice p5 a.l.length e5) b (.slice s4 b.ks.length g4) (.slice s5 b.l.length g5) w6):=by
  subst hw6;exact H5.out.later A5
 have HT:Hid (w6.heap[w5.heap.size]?=some (oA t (.slice k1 t.li.length d1) (.slice k2 t.ma.length d2))∧BQ (At w6) t (.slice k1 t.li.length d1) (.slice k2 t.ma.length d2)∧AJ s r=some t):=by
  subst hw6;exact⟨b1_0,ht.mono ((Imm.grow (HA.out.1.below H4.out.1) hb5).below A5),hqr⟩
 clear hqr hb5 ht
 go_upto_region 4 with(fail)
 rw [←hw6]
 clear hw6
 clear q0 f0 q1 f1 q2 f2 q3 f3 hl0 hl1 hl2 hl3
 obtain⟨q0,f0⟩:=A1 H6.out.2.1
 obtain⟨q1,f1⟩:=A1 H6.out.2.2.1
 obtain⟨q2,f2⟩:=A1 H6.out.2.2.2.1
 obtain⟨q3,f3⟩:=A1 H6.out.2.2.2.2
 have hl0:=A0 H6.out.2.1
 have hl1:=A0 H6.out.2.2.1
 have hl2:=A0 H6.out.2.2.2.1
 have hl3:=A0 H6.out.2.2.2.2
 go_wp2_with fail
 obtain⟨w7,hw7⟩:∃x,x=w6.alloc (.cells #[.int .i64 a.k, .int .i64 a.n, .float .f64 a.f, .string a.s, .slice p4 a.ks.length e4, .slice p5 a.l.length e5, .int .i64 b.k, .int .i64 b.n, .float .f64 b.f, .string b.s, .slice s4 b.ks.length g4, .slice s5 b.l.length g5] 35):=⟨_,rfl⟩
 have H7:Hid (LB w (.slice aq s.length cq) r (.slice a1 r.atom.li.length c1) (.slice a2 r.atom.ma.length c2) a (.slice p4 a.ks.length e4) (.slice p5 a.l.length e5) b (.slice s4 b.ks.length g4) (.slice s5 b.l.length g5) w7):=by
  subst hw7;exact H6.out.later A5
 have hi7:Hle H (At w7):=HA.out.1.below H7.out.1
 have HV7:Hid (RVs (At w7) [a,b] (.slice (some ⟨w6.heap.size,0,none⟩) 2 2)∧Bw w6 w7):=by
  refine⟨two_vals ?_ (HA.out.2.2.2.2.1.mono hi7) (HA.out.2.2.2.2.2.mono hi7), ?_⟩
  ·rw [hw7];exact b1_0
  ·rw [hw7];exact A5
 rw [←hw7]
 clear hw7
 refine(sound_c s r [a,b] (At w7) _ _ _ _ w7 (Imm.self w7) (HA.out.2.1.mono hi7) (HA.out.2.2.1.mono hi7) HV7.out.1).mono ?_
 rintro _ w8 ⟨z,rfl,hb8,hz⟩
 have HB8:=Lib.hid (HV7.out.2.tr hb8)
 have HS8:=Lib.hid hz
 clear hi7 hz
 have H8:=Lib.hid (H7.out.later hb8)
 clear hb8
 clear q0 f0 q1 f1 q2 f2 q3 f3 hl0 hl1 hl2 hl3
 obtain⟨q0,f0⟩:=A1 H8.out.2.1
 obtain⟨q1,f1⟩:=A1 H8.out.2.2.1
 obtain⟨q2,f2⟩:=A1 H8.out.2.2.2.1
 obtain⟨q3,f3⟩:=A1 H8.out.2.2.2.2
 have hl0:=A0 H8.out.2.1
 have hl1:=A0 H8.out.2.2.1
 have hl2:=A0 H8.out.2.2.2.1
 have hl3:=A0 H8.out.2.2.2.2
 cases z
 ·go_wp2_with fail
  go_ret
  exact⟨rfl,H8.out.1⟩
 go_wp2_with fail
 refine(singleKinds_c H s r _ _ _ w8 (HA.out.1.below H8.out.1) HA.out.2.1 HA.out.2.2.1).mono ?_
 rintro _ w9 ⟨rfl,hb9⟩
 have HB9:=Lib.hid (HB8.out.tr hb9)
 have H9:=Lib.hid (H8.out.later hb9)
 obtain⟨z,hsk⟩:∃zq:Bool,zq=De s r:=⟨_,rfl⟩
 rw [←hsk]
 replace hsk:=Lib.hid hsk
 clear hb9
 clear q0 f0 q1 f1 q2 f2 q3 f3 hl0 hl1 hl2 hl3
 obtain⟨q0,f0⟩:=A1 H9.out.2.1
 obtain⟨q1,f1⟩:=A1 H9.out.2.2.1
 obtain⟨q2,f2⟩:=A1 H9.out.2.2.2.1
 obtain⟨q3,f3⟩:=A1 H9.out.2.2.2.2
 have hl0:=A0 H9.out.2.1
 have hl1:=A0 H9.out.2.2.1
 have hl2:=A0 H9.out.2.2.2.1
 have hl3:=A0 H9.out.2.2.2.2
 cases z
 ·go_wp2_with fail
  go_ret
  exact⟨rfl,H9.out.1⟩
 obtain⟨qt,ft⟩:=A1 (A2 HB9.out HT.out.1)
 have hlt:=A0 (A2 HB9.out HT.out.1)
 go_wp2_with fail
 refine(atomicOrScalar_c t (At w6) _ _ w9 ((Imm.self w6).below HB9.out) HT.out.2.1).mono ?_
 rintro _ w10 ⟨rfl,hb10⟩
 have H10:=Lib.hid (H9.out.later hb10)
 obtain⟨z,hat⟩:∃zq:Bool,zq=DZ t:=⟨_,rfl⟩
 rw [←hat]
 replace hat:=Lib.hid hat
 clear hb10
 clear q0 f0 q1 f1 q2 f2 q3 f3 hl0 hl1 hl2 hl3
 obtain⟨q0,f0⟩:=A1 H10.out.2.1
 obtain⟨q1,f1⟩:=A1 H10.out.2.2.1
 obtain⟨q2,f2⟩:=A1 H10.out.2.2.2.1
 obtain⟨q3,f3⟩:=A1 H10.out.2.2.2.2
 have hl0:=A0 H10.out.2.1
 have hl1:=A0 H10.out.2.2.1
 have hl2:=A0 H10.out.2.2.2.1
 have hl3:=A0 H10.out.2.2.2.2
 clear qt ft hlt
 cases z
 ·go_wp2_with fail
  go_ret
  exact⟨rfl,H10.out.1⟩
 go_wp2_with fail
 refine(bare_c a H _ _ w10 HA.out.2.2.2.2.1).mono ?_
 rintro _ w11 ⟨rfl,hb11⟩
 have H11:=Lib.hid (H10.out.later hb11)
 obtain⟨z,hba⟩:∃zq:Bool,zq=bareV a:=⟨_,rfl⟩
 rw [←hba]
 replace hba:=Lib.hid hba
 clear hb11
 clear q0 f0 q1 f1 q2 f2 q3 f3 hl0 hl1 hl2 hl3
 obtain⟨q0,f0⟩:=A1 H11.out.2.1
 obtain⟨q1,f1⟩:=A1 H11.out.2.2.1
 obtain⟨q2,f2⟩:=A1 H11.out.2.2.2.1
 obtain⟨q3,f3⟩:=A1 H11.out.2.2.2.2
 have hl0:=A0 H11.out.2.1
 have hl1:=A0 H11.out.2.2.1
 have hl2:=A0 H11.out.2.2.2.1
 have hl3:=A0 H11.out.2.2.2.2
 rcases hz:z with _|_
 rotate_left
 ·subst hz
  go_wp2_with fail
  go_ret
  exact⟨rfl,H11.out.1⟩
 subst hz
 go_wp2_with fail
 refine(bare_c b H _ _ w11 HA.out.2.2.2.2.2).mono ?_
 rintro _ w12 ⟨rfl,hb12⟩
 have H12:=Lib.hid (H11.out.later hb12)
 obtain⟨z,hbb⟩:∃zq:Bool,zq=bareV b:=⟨_,rfl⟩
 rw [←hbb]
 replace hbb:=Lib.hid hbb
 clear hb12
 clear q0 f0 q1 f1 q2 f2 q3 f3 hl0 hl1 hl2 hl3
 obtain⟨q0,f0⟩:=A1 H12.out.2.1
 obtain⟨q1,f1⟩:=A1 H12.out.2.2.1
 obtain⟨q2,f2⟩:=A1 H12.out.2.2.2.1
 obtain⟨q3,f3⟩:=A1 H12.out.2.2.2.2
 have hl0:=A0 H12.out.2.1
 have hl1:=A0 H12.out.2.2.1
 have hl2:=A0 H12.out.2.2.2.1
 have hl3:=A0 H12.out.2.2.2.2
 rcases hz:z with _|_
 rotate_left
 ·subst hz
  go_wp2_with fail
  go_ret
  exact⟨rfl,H12.out.1⟩
 subst hz
 go_upto_region 6 with(fail)
 go_cut [13] from 14 to 98 (fun s13 wx=>s13= .pointer (some ⟨w12.heap.size+1+1,0,none⟩)∧wx=((w12.alloc (.cells #[.string name, .bool r.named, .string r.name, .string r.atom.sc, .slice a1 r.atom.li.length c1, .slice a2 r.atom.ma.length c2, .string r.rel, .slice none 0 0] 45)).alloc (.cells #[.slice (some ⟨w12.heap.size,0,none⟩) 1 1, .bool false, .string ⟨#[]⟩, .string ⟨#[]⟩, .slice none 0 0, .slice none 0 0, .string ⟨#[]⟩, .string ⟨#[]⟩] 48)).alloc (.cells #[.bool false, .string ⟨#[]⟩, .string ⟨#[]⟩, .slice none 0 0, .slice (some ⟨w12.heap.size+1,0,none⟩) 1 1, .string ⟨#[]⟩] 30))
 case first=>
  go_wp2_with fail
  go_meet
  exact⟨rfl,rfl⟩
 obtain⟨rfl,rfl⟩:=hcut
 go_upto_region 7 with(fail)
 obtain⟨w13,hw13⟩:∃x,x=((w12.alloc (.cells #[.string name, .bool r.named, .string r.name, .string r.atom.sc, .slice a1 r.atom.li.length c1, .slice a2 r.atom.ma.length c2, .string r.rel, .slice none 0 0] 45)).alloc (.cells #[.slice (some ⟨w12.heap.size,0,none⟩) 1 1, .bool false, .string ⟨#[]⟩, .string ⟨#[]⟩, .slice none 0 0, .slice none 0 0, .string ⟨#[]⟩, .string ⟨#[]⟩] 48)).alloc (.cells #[.bool false, .string ⟨#[]⟩, .string ⟨#[]⟩, .slice none 0 0, .slice (some ⟨w12.heap.size+1,0,none⟩) 1 1, .string ⟨#[]⟩] 30):=⟨_,rfl⟩
 have H13:Hid (LB w (.slice aq s.length cq) r (.slice a1 r.atom.li.length c1) (.slice a2 r.atom.ma.length c2) a (.slice p4 a.ks.length e4) (.slice p5 a.l.length e5) b (.slice s4 b.ks.length g4) (.slice s5 b.l.length g5) w13):=by
  subst hw13;exact H12.out.later Co
 have HR13:Hid (Cy (At w13) (Ep name r) (.slice none 0 0) (.slice (some ⟨w12.heap.size+1,0,none⟩) 1 1)∧w13.heap[w12.heap.size+1+1]?=some (.cells #[.bool false, .string ⟨#[]⟩, .string ⟨#[]⟩, .slice none 0 0, .slice (some ⟨w12.heap.size+1,0,none⟩) 1 1, .string ⟨#[]⟩] 30)):=by
  have hr13:=HA.out.2.2.1.mono (HA.out.1.below H13.out.1)
  subst hw13
  exact⟨root_rep b3_0 b3_1 HA.out.2.2.2.1 hr13,ET⟩
 rw [←hw13]
 clear hw13
 clear q0 f0 q1 f1 q2 f2 q3 f3 hl0 hl1 hl2 hl3
 obtain⟨q0,f0⟩:=A1 H13.out.2.1
 obtain⟨q1,f1⟩:=A1 H13.out.2.2.1
 obtain⟨q2,f2⟩:=A1 H13.out.2.2.2.1
 obtain⟨q3,f3⟩:=A1 H13.out.2.2.2.2
 have hl0:=A0 H13.out.2.1
 have hl1:=A0 H13.out.2.2.1
 have hl2:=A0 H13.out.2.2.2.1
 have hl3:=A0 H13.out.2.2.2.2
 go_cut [14,15] (fun s14 s15 wx=>∃(bx bY:Nat) (n4:Option Addr) (l4:Nat) (n5:Option Addr) (l5:Nat) (n6:Option Addr) (l6:Nat) (n7:Option Addr) (l7:Nat),s14= .pointer (some ⟨bx,0,none⟩)∧s15= .pointer (some ⟨bY,0,none⟩)∧XYR name a b w13 wx bx bY n4 l4 n5 l5 n6 l6 n7 l7)
 case first=>
  have S13:(fun w'=>w'.cell? ⟨w.heap.size+1+1,0,none⟩=some (.int .i64 a.k)∧w'.cell? ⟨w.heap.size+1+1,1,none⟩=some (.int .i64 a.n)∧w'.cell? ⟨w.heap.size+1+1,2,none⟩=some (.float .f64 a.f)∧w'.cell? ⟨w.heap.size+1+1,3,none⟩=some (.string a.s)∧w'.cell? ⟨w.heap.size+1+1,4,none⟩=some (.slice p4 a.ks.length e4)∧w'.cell? ⟨w.heap.size+1+1,5,none⟩=some (.slice p5 a.l.length e5)∧w'.cell? ⟨w.heap.size+1+1+1,0,none⟩=some (.int .i64 b.k)∧w'.cell? ⟨w.heap.size+1+1+1,1,none⟩=some (.int .i64 b.n)∧w'.cell? ⟨w.heap.size+1+1+1,2,none⟩=some (.float .f64 b.f)∧w'.cell? ⟨w.heap.size+1+1+1,3,none⟩=some (.string b.s)∧w'.cell? ⟨w.heap.size+1+1+1,4,none⟩=some (.slice s4 b.ks.length g4)∧w'.cell? ⟨w.heap.size+1+1+1,5,none⟩=some (.slice s5 b.l.length g5)) w13:=⟨q2 0,q2 1,q2 2,q2 3,q2 4,q2 5,q3 0,q3 1,q3 2,q3 3,q3 4,q3 5⟩
  have HS13:=Lib.hid S13
  have S1:(fun w'=>w'.cell? ⟨w.heap.size+1+1,0,none⟩=some (.int .i64 a.k)∧w'.cell? ⟨w.heap.size+1+1,1,none⟩=some (.int .i64 a.n)∧w'.cell? ⟨w.heap.size+1+1,2,none⟩=some (.float .f64 a.f)∧w'.cell? ⟨w.heap.size+1+1,3,none⟩=some (.string a.s)∧w'.cell? ⟨w.heap.size+1+1,4,none⟩=some (.slice p4 a.ks.length e4)∧w'.cell? ⟨w.heap.size+1+1,5,none⟩=some (.slice p5 a.l.length e5)∧w'.cell? ⟨w.heap.size+1+1+1,0,none⟩=some (.int .i64 b.k)∧w'.cell? ⟨w.heap.size+1+1+1,1,none⟩=some (.int .i64 b.n)∧w'.cell? ⟨w.heap.size+1+1+1,2,none⟩=some (.float .f64 b.f)∧w'.cell? ⟨w.heap.size+1+1+1,3,none⟩=some (.string b.s)∧w'.cell? ⟨w.heap.size+1+1+1,4,none⟩=some (.slice s4 b.ks.length g4)∧w'.cell? ⟨w.heap.size+1+1+1,5,none⟩=some (.slice s5 b.l.length g5)) w13.drew:=S13
  clear S13
  have HI13:=Lib.hid (HA.out.1.below H13.out.1)
  have HCON:=Lib.hid (And.intro HA.out.2.2.2.1 (And.intro HA.out.2.2.2.2.1 HA.out.2.2.2.2.2))
  clear q0 f0 q1 f1 q2 f2 q3 f3 hl0 hl1 hl2 hl3
  clear H0 H1 H2 H3 H4 H5 H6 H7 H8 H9 H10 H11 H12 HT HV7 HB8 HB9 HS8 hsk hat hba hbb
  refine wp_region_held_drew (S:=(fun w'=>w'.cell? ⟨w.heap.size+1+1,0,none⟩=some (.int .i64 a.k)∧w'.cell? ⟨w.heap.size+1+1,1,none⟩=some (.int .i64 a.n)∧w'.cell? ⟨w.heap.size+1+1,2,none⟩=some (.float .f64 a.f)∧w'.cell? ⟨w.heap.size+1+1,3,none⟩=some (.string a.s)∧w'.cell? ⟨w.heap.size+1+1,4,none⟩=some (.slice p4 a.ks.length e4)∧w'.cell? ⟨w.heap.size+1+1,5,none⟩=some (.slice p5 a.l.length e5)∧w'.cell? ⟨w.heap.size+1+1+1,0,none⟩=some (.int .i64 b.k)∧w'.cell? ⟨w.heap.size+1+1+1,1,none⟩=some (.int .i64 b.n)∧w'.cell? ⟨w.heap.size+1+1+1,2,none⟩=some (.float .f64 b.f)∧w'.cell? ⟨w.heap.size+1+1+1,3,none⟩=some (.string b.s)∧w'.cell? ⟨w.heap.size+1+1+1,4,none⟩=some (.slice s4 b.ks.length g4)∧w'.cell? ⟨w.heap.size+1+1+1,5,none⟩=some (.slice s5 b.l.length g5))) (by kernel_rfl) S1 (fun hHeld=> ?_)
  refine tg 1 ?_
  try simp only [Act.put,tka,tkb,tkc]
  refine tg 2 ?_
  try simp only [Act.put,tka,tkb,tkc]
  refine tg 5 ?_
  try simp only [Act.put,tka,tkb,tkc]
  refine tg 6 ?_
  try simp only [Act.put,tka,tkb,tkc]
  clear hHeld S1
  refine EK (S':=fun w'=>Bw w13 w') (fun w' hb=>keepC HS13.out hb) _ _ _ _ ?_
  try dsimp only [Act.put]
  try simp only [tka,tkb,tkc]
  refine gen_list (fun L n W hL hn hW=> ?_)
  have hc:=And.intro hL (And.intro hn hW)
  clear hL hn hW
  revert hc
  revert u98 u95 u94 u91 u15 u14
  revert W n L
  refine name_it (fun Ψ hΨ=> ?_)
  have T411:∀(W:World) (b8 b9:Nat) (u14 u15 u91 u94 u95 u98:Value),INV H w13 (BD name a) (BD name b) zeroM 4 true true W b8 b9 u14 u15 u91 u94 u95 u98→Ψ #[true,true,true,true,true,true,true,true,true,true,false,false] 2 W u14 u15 u91 u94 u95 u98:=by
   intro W b8 b9 u14 u15 u91 u94 u95 u98 hv
   refine(hΨ _ _ _ _ _ _ _ _ _).2 ?_
   obtain⟨n4,l4,n5,l5,n6,l6,n7,l7,rfl,rfl,rfl,rfl,hx,hy,lx,ly,hne,hfin⟩:=INV.fin HA.out.1 H13.out.1 hv
   have HF:=Lib.hid hfin
   have HV:=Lib.hid (And.intro hv.bw (And.intro lx ly))
   obtain⟨W1,hW1⟩:∃x,x=six W b8 (BD name a) (.slice n4 (BD name a).ks.length l4) (.slice n5 (BD name a).l.length l5):=⟨_,rfl⟩
   have hy1:W1.heap[b9]?=some oZ:=by rw [hW1,six_far (fun e=>hne e.symm)];exact hy
   have HV1:Hid (Bw w13 W1):=by rw [hW1];exact six_bw HV.out.1 lx
   rw [←hW1]at HF
   unfold six at hW1
   replace hW1:=Lib.hid hW1
   clear hv hfin
   unfold Ar
   obtain⟨qx,fx⟩:=A1 hx
   have hbx:=A0 hx
   clear hx hy lx ly hne
   replace hy1:=Lib.hid hy1
   refine wpAnyH_ready (rs:=[10]) (by kernel_rfl) (by simp) ?_
   refine AllReadyH.cons rfl (fun Kq hKq=> ?_) AllReadyH.nil
   go_simp
   rw [←hW1.out]
   refine hKq.out _ _ HV1.out (fun _=> ?_)
   clear hKq Kq qx fx hbx
   obtain⟨qy,fy⟩:=A1 hy1.out
   have hby:=A0 hy1.out
   refine wpAnyH_ready (rs:=[11]) (by kernel_rfl) (by simp) ?_
   refine AllReadyH.cons rfl (fun Kq hKq=> ?_) AllReadyH.nil
   go_simp
   refine hKq.out _ _ (six_bw HV1.out HV.out.2.2) (fun _=> ?_)
   clear hKq Kq qy fy hby
   refine wpAnyH_done (by kernel_rfl) ?_ _
   go_wp2_with fail
   go_meet
   exact⟨b8,b9,n4,l4,n5,l5,n6,l6,n7,l7,rfl,rfl,HF.out⟩
  have T311:∀(W:World) (b8 b9:Nat) (u14 u15 u91 u94 u95 u98:Value),INV H w13 (BD name a) (BD name b) zeroM 3 true true W b8 b9 u14 u15 u91 u94 u95 u98→Ψ #[true,true,true,true,true,true,true,false,true,true,false,false] 3 W u14 u15 u91 u94 u95 u98:=by
   intro W b8 b9 u14 u15 u91 u94 u95 u98 hv
   refine(hΨ _ _ _ _ _ _ _ _ _).2 ?_
   obtain rfl:=hv.c3 (by omega)
   refine wpAnyH_ready (rs:=[7]) (by kernel_rfl) (by simp) ?_
   refine AllReadyH.cons rfl (fun Kq hKq=> ?_) ?_
   ·go_simp
    refine(put_c name b H _ _ W (HI13.out.below hv.bw) HCON.out.2.2 HCON.out.1).mono ?_
    rintro _ W2 ⟨hb,m4,m5,rfl,hm⟩
    obtain⟨n4,l4,n5,l5,rfl,rfl⟩:=hm.open
    exact hKq.out _ _ (hv.bw.tr hb) (fun _=>(hΨ _ _ _ _ _ _ _ _ _).1 (T411 W2 b8 b9 _ _ _ _ _ _ (hv.s4 hb hm)))
   exact AllReadyH.nil
  have T401:∀(W:World) (b8 b9:Nat) (u14 u15 u91 u94 u95 u98:Value),INV H w13 (BD name a) (BD name b) zeroM 4 false true W b8 b9 u14 u15 u91 u94 u95 u98→Ψ #[true,true,true,true,true,true,true,true,false,true,false,false] 3 W u14 u15 u91 u94 u95 u98:=by
   intro W b8 b9 u14 u15 u91 u94 u95 u98 hv
   refine(hΨ _ _ _ _ _ _ _ _ _).2 ?_
   refine wpAnyH_ready (rs:=[8]) (by kernel_rfl) (by simp) ?_
   refine AllReadyH.cons rfl (fun Kq hKq=> ?_) ?_
   ·go_simp
    exact hKq.out _ _ (hv.bw.al _) (fun _=>(hΨ _ _ _ _ _ _ _ _ _).1 (T411 (W.alloc oZ) W.heap.size b9 _ _ _ _ _ _ hv.al8))
   exact AllReadyH.nil
  have T410:∀(W:World) (b8 b9:Nat) (u14 u15 u91 u94 u95 u98:Value),INV H w13 (BD name a) (BD name b) zeroM 4 true false W b8 b9 u14 u15 u91 u94 u95 u98→Ψ #[true,true,true,true,true,true,true,true,true,false,false,false] 3 W u14 u15 u91 u94 u95 u98:=by
   intro W b8 b9 u14 u15 u91 u94 u95 u98 hv
   refine(hΨ _ _ _ _ _ _ _ _ _).2 ?_
   refine wpAnyH_ready (rs:=[9]) (by kernel_rfl) (by simp) ?_
   refine AllReadyH.cons rfl (fun Kq hKq=> ?_) ?_
   ·go_simp
    exact hKq.out _ _ (hv.bw.al _) (fun _=>(hΨ _ _ _ _ _ _ _ _ _).1 (T411 (W.alloc oZ) b8 W.heap.size _ _ _ _ _ _ hv.al9))
   exact AllReadyH.nil
  have T211:∀(W:World) (b8 b9:Nat) (u14 u15 u91 u94 u95 u98:Value),INV H w13 (BD name a) (BD name b) zeroM 2 true true W b8 b9 u14 u15 u91 u94 u95 u98→Ψ #[true,true,true,true,false,true,true,false,true,true,false,false] 4 W u14 u15 u91 u94 u95 u98:=by
   intro W b8 b9 u14 u15 u91 u94 u95 u98 hv
   refine(hΨ _ _ _ _ _ _ _ _ _).2 ?_
   refine wpAnyH_ready (rs:=[4]) (by kernel_rfl) (by simp) ?_
   refine AllReadyH.cons rfl (fun Kq hKq=> ?_) ?_
   ·go_simp
    refine(mapValue_c W).mono ?_
    rintro _ W2 ⟨rfl,hb⟩
    exact hKq.out _ _ (hv.bw.tr (bw_of hb)) (fun _=>(hΨ _ _ _ _ _ _ _ _ _).1 (T311 W2 b8 b9 _ _ _ _ _ _ (hv.s3 (bw_of hb))))
   exact AllReadyH.nil
  have T301:∀(W:World) (b8 b9:Nat) (u14 u15 u91 u94 u95 u98:Value),INV H w13 (BD name a) (BD name b) zeroM 3 false true W b8 b9 u14 u15 u91 u94 u95 u98→Ψ #[true,true,true,true,true,true,true,false,false,true,false,false] 4 W u14 u15 u91 u94 u95 u98:=by
   intro W b8 b9 u14 u15 u91 u94 u95 u98 hv
   refine(hΨ _ _ _ _ _ _ _ _ _).2 ?_
   obtain rfl:=hv.c3 (by omega)
   refine wpAnyH_ready (rs:=[7,8]) (by kernel_rfl) (by simp) ?_
   refine AllReadyH.cons rfl (fun Kq hKq=> ?_) ?_
   ·go_simp
    refine(put_c name b H _ _ W (HI13.out.below hv.bw) HCON.out.2.2 HCON.out.1).mono ?_
    rintro _ W2 ⟨hb,m4,m5,rfl,hm⟩
    obtain⟨n4,l4,n5,l5,rfl,rfl⟩:=hm.open
    exact hKq.out _ _ (hv.bw.tr hb) (fun _=>(hΨ _ _ _ _ _ _ _ _ _).1 (T401 W2 b8 b9 _ _ _ _ _ _ (hv.s4 hb hm)))
   refine AllReadyH.cons rfl (fun Kq hKq=> ?_) ?_
   ·go_simp
    exact hKq.out _ _ (hv.bw.al _) (fun _=>(hΨ _ _ _ _ _ _ _ _ _).1 (T311 (W.alloc oZ) W.heap.size b9 _ _ _ _ _ _ hv.al8))
   exact AllReadyH.nil
  have T310:∀(W:World) (b8 b9:Nat) (u14 u15 u91 u94 u95 u98:Value),INV H w13 (BD name a) (BD name b) zeroM 3 true false W b8 b9 u14 u15 u91 u94 u95 u98→Ψ #[true,true,true,true,true,true,true,false,true,false,false,false] 4 W u14 u15 u91 u94 u95 u98:=by
   intro W b8 b9 u14 u15 u91 u94 u95 u98 hv
   refine(hΨ _ _ _ _ _ _ _ _ _).2 ?_
   obtain rfl:=hv.c3 (by omega)
   refine wpAnyH_ready (rs:=[7,9]) (by kernel_rfl) (by simp) ?_
   refine AllReadyH.cons rfl (fun Kq hKq=> ?_) ?_
   ·go_simp
    refine(put_c name b H _ _ W (HI13.out.below hv.bw) HCON.out.2.2 HCON.out.1).mono ?_
    rintro _ W2 ⟨hb,m4,m5,rfl,hm⟩
    obtain⟨n4,l4,n5,l5,rfl,rfl⟩:=hm.open
    exact hKq.out _ _ (hv.bw.tr hb) (fun _=>(hΨ _ _ _ _ _ _ _ _ _).1 (T410 W2 b8 b9 _ _ _ _ _ _ (hv.s4 hb hm)))
   refine AllReadyH.cons rfl (fun Kq hKq=> ?_) ?_
   ·go_simp
    exact hKq.out _ _ (hv.bw.al _) (fun _=>(hΨ _ _ _ _ _ _ _ _ _).1 (T311 (W.alloc oZ) b8 W.heap.size _ _ _ _ _ _ hv.al9))
   exact AllReadyH.nil
  have T400:∀(W:World) (b8 b9:Nat) (u14 u15 u91 u94 u95 u98:Value),INV H w13 (BD name a) (BD name b) zeroM 4 false false W b8 b9 u14 u15 u91 u94 u95 u98→Ψ #[true,true,true,true,true,true,true,true,false,false,false,false] 4 W u14 u15 u91 u94 u95 u98:=by
   intro W b8 b9 u14 u15 u91 u94 u95 u98 hv
   refine(hΨ _ _ _ _ _ _ _ _ _).2 ?_
   refine wpAnyH_ready (rs:=[8,9]) (by kernel_rfl) (by simp) ?_
   refine AllReadyH.cons rfl (fun Kq hKq=> ?_) ?_
   ·go_simp
    exact hKq.out _ _ (hv.bw.al _) (fun _=>(hΨ _ _ _ _ _ _ _ _ _).1 (T410 (W.alloc oZ) W.heap.size b9 _ _ _ _ _ _ hv.al8))
   refine AllReadyH.cons rfl (fun Kq hKq=> ?_) ?_
   ·go_simp
    exact hKq.out _ _ (hv.bw.al _) (fun _=>(hΨ _ _ _ _ _ _ _ _ _).1 (T401 (W.alloc oZ) b8 W.heap.size _ _ _ _ _ _ hv.al9))
   exact AllReadyH.nil
  have T111:∀(W:World) (b8 b9:Nat) (u14 u15 u91 u94 u95 u98:Value),INV H w13 (BD name a) (BD name b) zeroM 1 true true W b8 b9 u14 u15 u91 u94 u95 u98→Ψ #[true,true,true,false,false,true,true,false,true,true,false,false] 5 W u14 u15 u91 u94 u95 u98:=by
   intro W b8 b9 u14 u15 u91 u94 u95 u98 hv
   refine(hΨ _ _ _ _ _ _ _ _ _).2 ?_
   obtain rfl:=hv.c1 (by omega)
   refine wpAnyH_ready (rs:=[3]) (by kernel_rfl) (by simp) ?_
   refine AllReadyH.cons rfl (fun Kq hKq=> ?_) ?_
   ·go_simp
    refine(put_c name a H _ _ W (HI13.out.below hv.bw) HCON.out.2.1 HCON.out.1).mono ?_
    rintro _ W2 ⟨hb,m4,m5,rfl,hm⟩
    obtain⟨n4,l4,n5,l5,rfl,rfl⟩:=hm.open
    exact hKq.out _ _ (hv.bw.tr hb) (fun _=>(hΨ _ _ _ _ _ _ _ _ _).1 (T211 W2 b8 b9 _ _ _ _ _ _ (hv.s2 hb hm)))
   exact AllReadyH.nil
  have T201:∀(W:World) (b8 b9:Nat) (u14 u15 u91 u94 u95 u98:Value),INV H w13 (BD name a) (BD name b) zeroM 2 false true W b8 b9 u14 u15 u91 u94 u95 u98→Ψ #[true,true,true,true,false,true,true,false,false,true,false,false] 5 W u14 u15 u91 u94 u95 u98:=by
   intro W b8 b9 u14 u15 u91 u94 u95 u98 hv
   refine(hΨ _ _ _ _ _ _ _ _ _).2 ?_
   refine wpAnyH_ready (rs:=[4,8]) (by kernel_rfl) (by simp) ?_
   refine AllReadyH.cons rfl (fun Kq hKq=> ?_) ?_
   ·go_simp
    refine(mapValue_c W).mono ?_
    rintro _ W2 ⟨rfl,hb⟩
    exact hKq.out _ _ (hv.bw.tr (bw_of hb)) (fun _=>(hΨ _ _ _ _ _ _ _ _ _).1 (T301 W2 b8 b9 _ _ _ _ _ _ (hv.s3 (bw_of hb))))
   refine AllReadyH.cons rfl (fun Kq hKq=> ?_) ?_
   ·go_simp
    exact hKq.out _ _ (hv.bw.al _) (fun _=>(hΨ _ _ _ _ _ _ _ _ _).1 (T211 (W.alloc oZ) W.heap.size b9 _ _ _ _ _ _ hv.al8))
   exact AllReadyH.nil
  have T210:∀(W:World) (b8 b9:Nat) (u14 u15 u91 u94 u95 u98:Value),INV H w13 (BD name a) (BD name b) zeroM 2 true false W b8 b9 u14 u15 u91 u94 u95 u98→Ψ #[true,true,true,true,false,true,true,false,true,false,false,false] 5 W u14 u15 u91 u94 u95 u98:=by
   intro W b8 b9 u14 u15 u91 u94 u95 u98 hv
   refine(hΨ _ _ _ _ _ _ _ _ _).2 ?_
   refine wpAnyH_ready (rs:=[4,9]) (by kernel_rfl) (by simp) ?_
   refine AllReadyH.cons rfl (fun Kq hKq=> ?_) ?_
   ·go_simp
    refine(mapValue_c W).mono ?_
    rintro _ W2 ⟨rfl,hb⟩
    exact hKq.out _ _ (hv.bw.tr (bw_of hb)) (fun _=>(hΨ _ _ _ _ _ _ _ _ _).1 (T310 W2 b8 b9 _ _ _ _ _ _ (hv.s3 (bw_of hb))))
   refine AllReadyH.cons rfl (fun Kq hKq=> ?_) ?_
   ·go_simp
    exact hKq.out _ _ (hv.bw.al _) (fun _=>(hΨ _ _ _ _ _ _ _ _ _).1 (T211 (W.alloc oZ) b8 W.heap.size _ _ _ _ _ _ hv.al9))
   exact AllReadyH.nil
  have T300:∀(W:World) (b8 b9:Nat) (u14 u15 u91 u94 u95 u98:Value),INV H w13 (BD name a) (BD name b) zeroM 3 false false W b8 b9 u14 u15 u91 u94 u95 u98→Ψ #[true,true,true,true,true,true,true,false,false,false,false,false] 5 W u14 u15 u91 u94 u95 u98:=by
   intro W b8 b9 u14 u15 u91 u94 u95 u98 hv
   refine(hΨ _ _ _ _ _ _ _ _ _).2 ?_
   obtain rfl:=hv.c3 (by omega)
   refine wpAnyH_ready (rs:=[7,8,9]) (by kernel_rfl) (by simp) ?_
   refine AllReadyH.cons rfl (fun Kq hKq=> ?_) ?_
   ·go_simp
    refine(put_c name b H _ _ W (HI13.out.below hv.bw) HCON.out.2.2 HCON.out.1).mono ?_
    rintro _ W2 ⟨hb,m4,m5,rfl,hm⟩
    obtain⟨n4,l4,n5,l5,rfl,rfl⟩:=hm.open
    exact hKq.out _ _ (hv.bw.tr hb) (fun _=>(hΨ _ _ _ _ _ _ _ _ _).1 (T400 W2 b8 b9 _ _ _ _ _ _ (hv.s4 hb hm)))
   refine AllReadyH.cons rfl (fun Kq hKq=> ?_) ?_
   ·go_simp
    exact hKq.out _ _ (hv.bw.al _) (fun _=>(hΨ _ _ _ _ _ _ _ _ _).1 (T310 (W.alloc oZ) W.heap.size b9 _ _ _ _ _ _ hv.al8))
   refine AllReadyH.cons rfl (fun Kq hKq=> ?_) ?_
   ·go_simp
    exact hKq.out _ _ (hv.bw.al _) (fun _=>(hΨ _ _ _ _ _ _ _ _ _).1 (T301 (W.alloc oZ) b8 W.heap.size _ _ _ _ _ _ hv.al9))
   exact AllReadyH.nil
  have T011:∀(W:World) (b8 b9:Nat) (u14 u15 u91 u94 u95 u98:Value),INV H w13 (BD name a) (BD name b) zeroM 0 true true W b8 b9 u14 u15 u91 u94 u95 u98→Ψ #[false,true,true,false,false,true,true,false,true,true,false,false] 6 W u14 u15 u91 u94 u95 u98:=by
   intro W b8 b9 u14 u15 u91 u94 u95 u98 hv
   refine(hΨ _ _ _ _ _ _ _ _ _).2 ?_
   refine wpAnyH_ready (rs:=[0]) (by kernel_rfl) (by simp) ?_
   refine AllReadyH.cons rfl (fun Kq hKq=> ?_) ?_
   ·go_simp
    refine(mapValue_c W).mono ?_
    rintro _ W2 ⟨rfl,hb⟩
    exact hKq.out _ _ (hv.bw.tr (bw_of hb)) (fun _=>(hΨ _ _ _ _ _ _ _ _ _).1 (T111 W2 b8 b9 _ _ _ _ _ _ (hv.s1 (bw_of hb))))
   exact AllReadyH.nil
  have T101:∀(W:World) (b8 b9:Nat) (u14 u15 u91 u94 u95 u98:Value),INV H w13 (BD name a) (BD name b) zeroM 1 false true W b8 b9 u14 u15 u91 u94 u95 u98→Ψ #[true,true,true,false,false,true,true,false,false,true,false,false] 6 W u14 u15 u91 u94 u95 u98:=by
   intro W b8 b9 u14 u15 u91 u94 u95 u98 hv
   refine(hΨ _ _ _ _ _ _ _ _ _).2 ?_
   obtain rfl:=hv.c1 (by omega)
   refine wpAnyH_ready (rs:=[3,8]) (by kernel_rfl) (by simp) ?_
   refine AllReadyH.cons rfl (fun Kq hKq=> ?_) ?_
   ·go_simp
    refine(put_c name a H _ _ W (HI13.out.below hv.bw) HCON.out.2.1 HCON.out.1).mono ?_
    rintro _ W2 ⟨hb,m4,m5,rfl,hm⟩
    obtain⟨n4,l4,n5,l5,rfl,rfl⟩:=hm.open
    exact hKq.out _ _ (hv.bw.tr hb) (fun _=>(hΨ _ _ _ _ _ _ _ _ _).1 (T201 W2 b8 b9 _ _ _ _ _ _ (hv.s2 hb hm)))
   refine AllReadyH.cons rfl (fun Kq hKq=> ?_) ?_
   ·go_simp
    exact hKq.out _ _ (hv.bw.al _) (fun _=>(hΨ _ _ _ _ _ _ _ _ _).1 (T111 (W.alloc oZ) W.heap.size b9 _ _ _ _ _ _ hv.al8))
   exact AllReadyH.nil
  have T110:∀(W:World) (b8 b9:Nat) (u14 u15 u91 u94 u95 u98:Value),INV H w13 (BD name a) (BD name b) zeroM 1 true false W b8 b9 u14 u15 u91 u94 u95 u98→Ψ #[true,true,true,false,false,true,true,false,true,false,false,false] 6 W u14 u15 u91 u94 u95 u98:=by
   intro W b8 b9 u14 u15 u91 u94 u95 u98 hv
   refine(hΨ _ _ _ _ _ _ _ _ _).2 ?_
   obtain rfl:=hv.c1 (by omega)
   refine wpAnyH_ready (rs:=[3,9]) (by kernel_rfl) (by simp) ?_
   refine AllReadyH.cons rfl (fun Kq hKq=> ?_) ?_
   ·go_simp
    refine(put_c name a H _ _ W (HI13.out.below hv.bw) HCON.out.2.1 HCON.out.1).mono ?_
    rintro _ W2 ⟨hb,m4,m5,rfl,hm⟩
    obtain⟨n4,l4,n5,l5,rfl,rfl⟩:=hm.open
    exact hKq.out _ _ (hv.bw.tr hb) (fun _=>(hΨ _ _ _ _ _ _ _ _ _).1 (T210 W2 b8 b9 _ _ _ _ _ _ (hv.s2 hb hm)))
   refine AllReadyH.cons rfl (fun Kq hKq=> ?_) ?_
   ·go_simp
    exact hKq.out _ _ (hv.bw.al _) (fun _=>(hΨ _ _ _ _ _ _ _ _ _).1 (T111 (W.alloc oZ) b8 W.heap.size _ _ _ _ _ _ hv.al9))
   exact AllReadyH.nil
  have T200:∀(W:World) (b8 b9:Nat) (u14 u15 u91 u94 u95 u98:Value),INV H w13 (BD name a) (BD name b) zeroM 2 false false W b8 b9 u14 u15 u91 u94 u95 u98→Ψ #[true,true,true,true,false,true,true,false,false,false,false,false] 6 W u14 u15 u91 u94 u95 u98:=by
   intro W b8 b9 u14 u15 u91 u94 u95 u98 hv
   refine(hΨ _ _ _ _ _ _ _ _ _).2 ?_
   refine wpAnyH_ready (rs:=[4,8,9]) (by kernel_rfl) (by simp) ?_
   refine AllReadyH.cons rfl (fun Kq hKq=> ?_) ?_
   ·go_simp
    refine(mapValue_c W).mono ?_
    rintro _ W2 ⟨rfl,hb⟩
    exact hKq.out _ _ (hv.bw.tr (bw_of hb)) (fun _=>(hΨ _ _ _ _ _ _ _ _ _).1 (T300 W2 b8 b9 _ _ _ _ _ _ (hv.s3 (bw_of hb))))
   refine AllReadyH.cons rfl (fun Kq hKq=> ?_) ?_
   ·go_simp
    exact hKq.out _ _ (hv.bw.al _) (fun _=>(hΨ _ _ _ _ _ _ _ _ _).1 (T210 (W.alloc oZ) W.heap.size b9 _ _ _ _ _ _ hv.al8))
   refine AllReadyH.cons rfl (fun Kq hKq=> ?_) ?_
   ·go_simp
    exact hKq.out _ _ (hv.bw.al _) (fun _=>(hΨ _ _ _ _ _ _ _ _ _).1 (T201 (W.alloc oZ) b8 W.heap.size _ _ _ _ _ _ hv.al9))
   exact AllReadyH.nil
  have T001:∀(W:World) (b8 b9:Nat) (u14 u15 u91 u94 u95 u98:Value),INV H w13 (BD name a) (BD name b) zeroM 0 false true W b8 b9 u14 u15 u91 u94 u95 u98→Ψ #[false,true,true,false,false,true,true,false,false,true,false,false] 7 W u14 u15 u91 u94 u95 u98:=by
   intro W b8 b9 u14 u15 u91 u94 u95 u98 hv
   refine(hΨ _ _ _ _ _ _ _ _ _).2 ?_
   refine wpAnyH_ready (rs:=[0,8]) (by kernel_rfl) (by simp) ?_
   refine AllReadyH.cons rfl (fun Kq hKq=> ?_) ?_
   ·go_simp
    refine(mapValue_c W).mono ?_
    rintro _ W2 ⟨rfl,hb⟩
    exact hKq.out _ _ (hv.bw.tr (bw_of hb)) (fun _=>(hΨ _ _ _ _ _ _ _ _ _).1 (T101 W2 b8 b9 _ _ _ _ _ _ (hv.s1 (bw_of hb))))
   refine AllReadyH.cons rfl (fun Kq hKq=> ?_) ?_
   ·go_simp
    exact hKq.out _ _ (hv.bw.al _) (fun _=>(hΨ _ _ _ _ _ _ _ _ _).1 (T011 (W.alloc oZ) W.heap.size b9 _ _ _ _ _ _ hv.al8))
   exact AllReadyH.nil
  have T010:∀(W:World) (b8 b9:Nat) (u14 u15 u91 u94 u95 u98:Value),INV H w13 (BD name a) (BD name b) zeroM 0 true false W b8 b9 u14 u15 u91 u94 u95 u98→Ψ #[false,true,true,false,false,true,true,false,true,false,false,false] 7 W u14 u15 u91 u94 u95 u98:=by
   intro W b8 b9 u14 u15 u91 u94 u95 u98 hv
   refine(hΨ _ _ _ _ _ _ _ _ _).2 ?_
   refine wpAnyH_ready (rs:=[0,9]) (by kernel_rfl) (by simp) ?_
   refine AllReadyH.cons rfl (fun Kq hKq=> ?_) ?_
   ·go_simp
    refine(mapValue_c W).mono ?_
    rintro _ W2 ⟨rfl,hb⟩
    exact hKq.out _ _ (hv.bw.tr (bw_of hb)) (fun _=>(hΨ _ _ _ _ _ _ _ _ _).1 (T110 W2 b8 b9 _ _ _ _ _ _ (hv.s1 (bw_of hb))))
   refine AllReadyH.cons rfl (fun Kq hKq=> ?_) ?_
   ·go_simp
    exact hKq.out _ _ (hv.bw.al _) (fun _=>(hΨ _ _ _ _ _ _ _ _ _).1 (T011 (W.alloc oZ) b8 W.heap.size _ _ _ _ _ _ hv.al9))
   exact AllReadyH.nil
  have T100:∀(W:World) (b8 b9:Nat) (u14 u15 u91 u94 u95 u98:Value),INV H w13 (BD name a) (BD name b) zeroM 1 false false W b8 b9 u14 u15 u91 u94 u95 u98→Ψ #[true,true,true,false,false,true,true,false,false,false,false,false] 7 W u14 u15 u91 u94 u95 u98:=by
   intro W b8 b9 u14 u15 u91 u94 u95 u98 hv
   refine(hΨ _ _ _ _ _ _ _ _ _).2 ?_
   obtain rfl:=hv.c1 (by omega)
   refine wpAnyH_ready (rs:=[3,8,9]) (by kernel_rfl) (by simp) ?_
   refine AllReadyH.cons rfl (fun Kq hKq=> ?_) ?_
   ·go_simp
    refine(put_c name a H _ _ W (HI13.out.below hv.bw) HCON.out.2.1 HCON.out.1).mono ?_
    rintro _ W2 ⟨hb,m4,m5,rfl,hm⟩
    obtain⟨n4,l4,n5,l5,rfl,rfl⟩:=hm.open
    exact hKq.out _ _ (hv.bw.tr hb) (fun _=>(hΨ _ _ _ _ _ _ _ _ _).1 (T200 W2 b8 b9 _ _ _ _ _ _ (hv.s2 hb hm)))
   refine AllReadyH.cons rfl (fun Kq hKq=> ?_) ?_
   ·go_simp
    exact hKq.out _ _ (hv.bw.al _) (fun _=>(hΨ _ _ _ _ _ _ _ _ _).1 (T110 (W.alloc oZ) W.heap.size b9 _ _ _ _ _ _ hv.al8))
   refine AllReadyH.cons rfl (fun Kq hKq=> ?_) ?_
   ·go_simp
    exact hKq.out _ _ (hv.bw.al _) (fun _=>(hΨ _ _ _ _ _ _ _ _ _).1 (T101 (W.alloc oZ) b8 W.heap.size _ _ _ _ _ _ hv.al9))
   exact AllReadyH.nil
  have T000:∀(W:World) (b8 b9:Nat) (u14 u15 u91 u94 u95 u98:Value),INV H w13 (BD name a) (BD name b) zeroM 0 false false W b8 b9 u14 u15 u91 u94 u95 u98→Ψ #[false,true,true,false,false,true,true,false,false,false,false,false] 8 W u14 u15 u91 u94 u95 u98:=by
   intro W b8 b9 u14 u15 u91 u94 u95 u98 hv
   refine(hΨ _ _ _ _ _ _ _ _ _).2 ?_
   refine wpAnyH_ready (rs:=[0,8,9]) (by kernel_rfl) (by simp) ?_
   refine AllReadyH.cons rfl (fun Kq hKq=> ?_) ?_
   ·go_simp
    refine(mapValue_c W).mono ?_
    rintro _ W2 ⟨rfl,hb⟩
    exact hKq.out _ _ (hv.bw.tr (bw_of hb)) (fun _=>(hΨ _ _ _ _ _ _ _ _ _).1 (T100 W2 b8 b9 _ _ _ _ _ _ (hv.s1 (bw_of hb))))
   refine AllReadyH.cons rfl (fun Kq hKq=> ?_) ?_
   ·go_simp
    exact hKq.out _ _ (hv.bw.al _) (fun _=>(hΨ _ _ _ _ _ _ _ _ _).1 (T010 (W.alloc oZ) W.heap.size b9 _ _ _ _ _ _ hv.al8))
   refine AllReadyH.cons rfl (fun Kq hKq=> ?_) ?_
   ·go_simp
    exact hKq.out _ _ (hv.bw.al _) (fun _=>(hΨ _ _ _ _ _ _ _ _ _).1 (T001 (W.alloc oZ) b8 W.heap.size _ _ _ _ _ _ hv.al9))
   exact AllReadyH.nil
  rintro L n W u14 u15 u91 u94 u95 u98 ⟨rfl,rfl,rfl⟩
  exact T000 _ 0 0 _ _ _ _ _ _ (INV.start Bw.rfl.dr)
 case rest=>
  obtain⟨bx,bY,n4,l4,n5,l5,n6,l6,n7,l7,rfl,rfl,hxy⟩:=hcut
  obtain⟨w14,hw14⟩:∃x:World,x=wc:=⟨_,rfl⟩
  rw [←hw14]at hxy⊢
  clear hw14 q0 f0 q1 f1 q2 f2 q3 f3 hl0 hl1 hl2 hl3
  have HXY:=Lib.hid hxy
  have H14:=Lib.hid (H13.out.later hxy.1)
  have HR14:=Lib.hid (And.intro (HR13.out.1.mono (AG hxy.1)) (A2 hxy.1 HR13.out.2))
  clear hxy
  obtain⟨sk1,sk2⟩:=HS8.out (by first|trivial|rfl)
  have hrt:=HT.out.2.2
  have hq:=resolve_same (by have:=sk1;unfold Dz at this;simp only [Bool.and_eq_true]at this;exact this.1) r
  rw [hrt]at hq
  have hv0:=sk2 0 (by simp)
  have hv1:=sk2 1 (by simp)
  simp only [List.getElem_cons_zero,List.getElem_cons_succ]at hv0 hv1
  have ho0:=hv0.1
  unfold ED at ho0
  simp only [Bool.and_eq_true]at ho0
  obtain⟨hpt,hnt⟩:=resolve_parts hrt hsk.out.symm ho0.1.1 ho0.1.2
  obtain⟨hwa,hna,hea⟩:=whole_of hrt hpt hat.out.symm hba.out.symm hv0.2
  obtain⟨hwb,hnb,heb⟩:=whole_of hrt hpt hat.out.symm hbb.out.symm hv1.2
  have hnr:=nn_ref ho0.1.2
  have HP:=Lib.hid (And.intro hq (And.intro hnt (And.intro hwa (And.intro hwb (And.intro hna (And.intro hea (root_nn name hnr)))))))
  clear sk1 sk2 hrt hq hv0 hv1 ho0 hpt hnt hwa hna hea hwb hnb heb hnr
  obtain⟨q0,f0⟩:=A1 H14.out.2.1
  obtain⟨q1,f1⟩:=A1 HR14.out.2
  obtain⟨q2,f2⟩:=A1 HXY.out.2.1
  obtain⟨q3,f3⟩:=A1 HXY.out.2.2.1
  have hl0:=A0 H14.out.2.1
  have hl1:=A0 HR14.out.2
  have hl2:=A0 HXY.out.2.1
  have hl3:=A0 HXY.out.2.2.1
  go_wp2_with fail
  refine(mergeAsIs_c s (Ep name r) ⟨#[]⟩ name r ⟨false,⟨#[]⟩,⟨⟨#[]⟩,[],[]⟩,⟨#[]⟩⟩ ⟨#[]⟩ [] t (Ak a) (Ak b) (BD name a) (BD name b) (jt_mapV name a) (jt_mapV name b) (Fh s name r) emp_not emp_is HP.out.2.2.2.2.2.2.1 HP.out.2.2.2.2.2.2.2 HP.out.1 HP.out.2.1 HP.out.2.2.1 HP.out.2.2.2.1 HA.out.2.2.2.1 (At w14) w14 _ _ _ _ _ _ _ (Imm.self w14) (HA.out.2.1.mono (HA.out.1.below H14.out.1)) HR14.out.1 HXY.out.2.2.2.1 HXY.out.2.2.2.2).mono ?_
  rintro _ w15 ⟨hb15,m4,m5,rfl,hm⟩
  obtain⟨mg,hmg⟩:∃g,g=AE (.map [name] [Ak b]):=⟨_,rfl⟩
  rw [←hmg]at hm⊢
  obtain⟨n8,l8,n9,l9,rfl,rfl⟩:=hm.open
  unfold Ar
  obtain⟨w16,hw16⟩:∃x,x=w15.alloc (oV mg (.slice n8 mg.ks.length l8) (.slice n9 mg.l.length l9)):=⟨_,rfl⟩
  have H16:Hid (Bw w14 w16∧w16.heap[w15.heap.size]?=some (oV mg (.slice n8 mg.ks.length l8) (.slice n9 mg.l.length l9))∧RV (At w16) mg (.slice n8 mg.ks.length l8) (.slice n9 mg.l.length l9)∧mg=AE (.map [name] [Ak b])):=by
   subst hw16;exact⟨hb15.al _,b1_0,hm.mono (AG (A5 (w:=w15))),hmg⟩
  clear hb15 hm hmg q0 f0 q1 f1 q2 f2 q3 f3 hl0 hl1 hl2 hl3
  go_upto_region 9 with(fail)
  rw [←hw16]
  clear hw16
  obtain⟨q0,f0⟩:=A1 (A2 H16.out.1 H14.out.2.1)
  obtain⟨q1,f1⟩:=A1 (A2 H16.out.1 HR14.out.2)
  obtain⟨q2,f2⟩:=A1 (A2 H16.out.1 HXY.out.2.1)
  obtain⟨q3,f3⟩:=A1 (A2 H16.out.1 HXY.out.2.2.1)
  have hl0:=A0 (A2 H16.out.1 H14.out.2.1)
  have hl1:=A0 (A2 H16.out.1 HR14.out.2)
  have hl2:=A0 (A2 H16.out.1 HXY.out.2.1)
  have hl3:=A0 (A2 H16.out.1 HXY.out.2.2.1)
  go_wp2_with fail
  have hle16:=AG H16.out.1
  refine(compareAsIs_c s (Ep name r) ⟨#[]⟩ name r ⟨false,⟨#[]⟩,⟨⟨#[]⟩,[],[]⟩,⟨#[]⟩⟩ ⟨#[]⟩ [] t (Ak a) (Ak b) (BD name a) (BD name b) (jt_mapV name a) (jt_mapV name b) (Fh s name r) emp_not emp_is HP.out.2.2.2.2.2.2.1 HP.out.2.2.2.2.2.2.2 HP.out.1 HP.out.2.1 HP.out.2.2.1 HP.out.2.2.2.1 HA.out.2.2.2.1 (At w16) w16 _ _ _ _ _ _ _ (Imm.self w16) (HA.out.2.1.mono (HA.out.1.below (H14.out.1.tr H16.out.1))) (HR14.out.1.mono hle16) (HXY.out.2.2.2.1.mono hle16) (HXY.out.2.2.2.2.mono hle16)).mono ?_
  rintro _ w17 ⟨hb17,v1,rfl,hv1⟩
  rw [eq_turn,modP_opt]at hv1
  obtain⟨eb,heb⟩:∃x:Bool,x=eqP (Aa a) (Aa b):=⟨_,rfl⟩
  rw [←heb]at hv1
  obtain⟨o1,ho1⟩:∃o:Option ByteArray,o=(if eb then none else some name):=⟨_,rfl⟩
  rw [←ho1]at hv1
  have HO1:=Lib.hid ho1
  clear ho1
  have hv2:=hv1
  obtain⟨av,cv,rfl,_⟩:=hv2
  obtain⟨w18,hw18⟩:∃x,x=w17.alloc (.cells #[.slice none 0 0, .slice av (DC o1).length cv, .slice none 0 0] 55):=⟨_,rfl⟩
  have H18:Hid (Bw w14 w18∧Bw w16 w18∧w18.heap[w17.heap.size]?=some (.cells #[.slice none 0 0, .slice av (DC o1).length cv, .slice none 0 0] 55)∧Bz (At w18) (DC o1) (.slice av (DC o1).length cv)∧eb=eqP (Aa a) (Aa b)):=by
   subst hw18;exact⟨H16.out.1.tr (hb17.al _),hb17.al _,b1_0,hv1.mono (AG (A5 (w:=w17))),heb⟩
  clear hb17 hv1 heb hle16 q0 f0 q1 f1 q2 f2 q3 f3 hl0 hl1 hl2 hl3
  go_upto_region 10 with(fail)
  rw [←hw18]
  clear hw18
  obtain⟨q0,f0⟩:=A1 (A2 H18.out.1 H14.out.2.1)
  obtain⟨q1,f1⟩:=A1 (A2 H18.out.1 HR14.out.2)
  obtain⟨q2,f2⟩:=A1 (A2 H18.out.1 HXY.out.2.1)
  have hl0:=A0 (A2 H18.out.1 H14.out.2.1)
  have hl1:=A0 (A2 H18.out.1 HR14.out.2)
  have hl2:=A0 (A2 H18.out.1 HXY.out.2.1)
  go_wp2_with fail
  have hle18:=AG H18.out.1
  refine(fieldSetAsIs_c s (Ep name r) ⟨#[]⟩ name r ⟨false,⟨#[]⟩,⟨⟨#[]⟩,[],[]⟩,⟨#[]⟩⟩ ⟨#[]⟩ [] t (Ak a) (BD name a) (jt_mapV name a) (Fh s name r) emp_not emp_is HP.out.1 HP.out.2.2.1 HP.out.2.2.2.2.1 HP.out.2.2.2.2.2.1 HA.out.2.2.2.1 (At w18) w18 _ _ _ _ _ (Imm.self w18) (HA.out.2.1.mono (HA.out.1.below (H14.out.1.tr H18.out.1))) (HR14.out.1.mono hle18) (HXY.out.2.2.2.1.mono hle18)).mono ?_
  rintro _ w19 ⟨hb19,v2,rfl,hv2⟩
  have hv3:=hv2
  obtain⟨af,cf,rfl,_⟩:=hv3
  have H19:=Lib.hid (And.intro (H18.out.1.tr hb19) (And.intro (H18.out.2.1.tr hb19) (And.intro hb19 hv2)))
  clear hb19 hv2 hle18 q0 f0 q1 f1 q2 f2 hl0 hl1 hl2
  go_wp2_with fail
  have hbS:Bw w19 (w19.alloc (.cells #[.string name] 9)):=A5
  refine(fieldPaths1_c name (At (w19.alloc (.cells #[.string name] 9))) _ _ (Imm.self _) (one_str b1_0 HA.out.2.2.2.1)).mono ?_
  rintro _ w20 ⟨hb20,v3,rfl,hv3⟩
  have hv4:=hv3
  obtain⟨ag,cg,rfl,_⟩:=hv4
  have hb920:Bw w19 w20:=hbS.tr hb20
  have H20:=Lib.hid (And.intro (H19.out.1.tr hb920) (And.intro (H19.out.2.1.tr hb920) (And.intro (H19.out.2.2.1.tr hb920) (And.intro (H19.out.2.2.2.mono (AG hb920)) (hv3.mono hle_E0)))))
  clear hb20 hv3 hbS hb920
  obtain⟨q2,f2⟩:=A1 (A2 H20.out.1 H14.out.2.2.2.1)
  obtain⟨q3,f3⟩:=A1 (A2 H20.out.1 H14.out.2.2.2.2)
  have hl2:=A0 (A2 H20.out.1 H14.out.2.2.2.1)
  have hl3:=A0 (A2 H20.out.1 H14.out.2.2.2.2)
  go_wp2_with fail
  have hi20:=HA.out.1.below (H14.out.1.tr H20.out.1)
  refine(ES a b H _ _ _ _ w20 hi20 HA.out.2.2.2.2.1 HA.out.2.2.2.2.2).mono ?_
  rintro _ w21 ⟨rfl,hb21⟩
  have H21:=Lib.hid (And.intro (H20.out.1.tr hb21) (And.intro (H20.out.2.1.tr hb21) (And.intro (H20.out.2.2.1.tr hb21) (And.intro (H20.out.2.2.2.1.mono (AG hb21)) (H20.out.2.2.2.2.mono (AG hb21))))))
  clear hb21 hi20 q2 f2 q3 f3 hl2 hl3
  rw [←H18.out.2.2.2.2]
  have hle21:=AG H21.out.1
  have HM:=Lib.hid (And.intro (H16.out.2.2.1.mono (AG (H18.out.2.1.tr H21.out.2.2.1))) (And.intro (HXY.out.2.2.2.2.mono hle21) (H18.out.2.2.2.1.mono (AG H21.out.2.2.1))))
  clear hle21
  obtain⟨q0,f0⟩:=A1 (A2 H21.out.1 HXY.out.2.2.1)
  obtain⟨q1,f1⟩:=A1 (A2 (H18.out.2.1.tr H21.out.2.2.1) H16.out.2.1)
  obtain⟨q2,f2⟩:=A1 (A2 H21.out.2.2.1 H18.out.2.2.1)
  have hl0:=A0 (A2 H21.out.1 HXY.out.2.2.1)
  have hl1:=A0 (A2 (H18.out.2.1.tr H21.out.2.2.1) H16.out.2.1)
  have hl2:=A0 (A2 H21.out.2.2.1 H18.out.2.2.1)
  cases eb
  ·have HS1:Hid (sameO o1 (some name)=true):=ho_same HO1.out
   go_wp2_with fail
   refine(sameValue_c mg (BD name b) (by rw [H16.out.2.2.2];exact clean_same name b) (At w21) _ _ _ _ w21 (Imm.self w21) HM.out.1 HM.out.2.1).mono ?_
   rintro _ w22 ⟨rfl,hb22⟩
   have H22:Hid (Bw w21 w22):=Lib.hid (bw_of hb22)
   clear hb22 q0 f0 q1 f1 q2 f2 hl0 hl1 hl2
   obtain⟨q2,f2⟩:=A1 (A2 (H21.out.2.2.1.tr H22.out) H18.out.2.2.1)
   have hl2:=A0 (A2 (H21.out.2.2.1.tr H22.out) H18.out.2.2.1)
   go_wp2_with fail
   refine(lists_t o1 (some name) HS1.out (At w22) _ _ w22 (Imm.self w22) (HM.out.2.2.mono (AG H22.out)) (H21.out.2.2.2.2.mono (AG H22.out))).mono ?_
   rintro _ w23 ⟨rfl,hb23⟩
   have H23:Hid (Bw w21 w23):=Lib.hid (H22.out.tr (bw_of hb23))
   clear HS1 hb23 q2 f2 hl2
   obtain⟨q2,f2⟩:=A1 (A2 (H21.out.2.2.1.tr H23.out) H18.out.2.2.1)
   have hl2:=A0 (A2 (H21.out.2.2.1.tr H23.out) H18.out.2.2.1)
   go_wp2_with fail
   refine(lists_t (some name) (some name) (Fg _) (At w23) _ _ w23 (Imm.self w23) (H21.out.2.2.2.1.mono (AG H23.out)) (H21.out.2.2.2.2.mono (AG H23.out))).mono ?_
   rintro _ w24 ⟨rfl,hb24⟩
   have H24:Hid (Bw w w24):=Lib.hid ((H14.out.1.tr H21.out.1).tr (H23.out.tr (bw_of hb24)))
   clear hb24 q2 f2 hl2
   go_wp2_with fail
   go_ret
   exact⟨rfl,H24.out⟩
  ·have HS1:Hid (sameO o1 none=true):=ho_none HO1.out
   go_wp2_with fail
   refine(sameValue_c mg (BD name b) (by rw [H16.out.2.2.2];exact clean_same name b) (At w21) _ _ _ _ w21 (Imm.self w21) HM.out.1 HM.out.2.1).mono ?_
   rintro _ w22 ⟨rfl,hb22⟩
   have H22:Hid (Bw w21 w22):=Lib.hid (bw_of hb22)
   clear hb22 q0 f0 q1 f1 q2 f2 hl0 hl1 hl2
   obtain⟨q2,f2⟩:=A1 (A2 (H21.out.2.2.1.tr H22.out) H18.out.2.2.1)
   have hl2:=A0 (A2 (H21.out.2.2.1.tr H22.out) H18.out.2.2.1)
   go_wp2_with fail
   refine(lists_t o1 none HS1.out (At w22) _ _ w22 (Imm.self w22) (HM.out.2.2.mono (AG H22.out)) nil_paths).mono ?_
   rintro _ w23 ⟨rfl,hb23⟩
   have H23:Hid (Bw w21 w23):=Lib.hid (H22.out.tr (bw_of hb23))
   clear HS1 hb23 q2 f2 hl2
   obtain⟨q2,f2⟩:=A1 (A2 (H21.out.2.2.1.tr H23.out) H18.out.2.2.1)
   have hl2:=A0 (A2 (H21.out.2.2.1.tr H23.out) H18.out.2.2.1)
   go_wp2_with fail
   refine(lists_t (some name) (some name) (Fg _) (At w23) _ _ w23 (Imm.self w23) (H21.out.2.2.2.1.mono (AG H23.out)) (H21.out.2.2.2.2.mono (AG H23.out))).mono ?_
   rintro _ w24 ⟨rfl,hb24⟩
   have H24:Hid (Bw w w24):=Lib.hid ((H14.out.1.tr H21.out.1).tr (H23.out.tr (bw_of hb24)))
   clear hb24 q2 f2 hl2
   go_wp2_with fail
   go_ret
   exact⟨rfl,H24.out⟩
end
end Go.Proofs.YtmghkmhgpmcoaaaGreat
