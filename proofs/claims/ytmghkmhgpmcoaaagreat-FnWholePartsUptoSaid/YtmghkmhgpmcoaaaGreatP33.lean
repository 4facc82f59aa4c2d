/- What the claim's theorem 'proved' rests on: TmVal, AsIs. -/
import Derived.Test.YtmghkmhgpmcoaaaGreatP22
import Derived.Test.YtmghkmhgpmcoaaaGreatP31
import Derived.Test.YtmghkmhgpmcoaaaGreatP32
set_option linter.unusedVariables false
set_option linter.unusedSimpArgs false
set_option maxRecDepth 100000
set_option maxHeartbeats 10000000
namespace Go.Proofs.YtmghkmhgpmcoaaaGreat
section
open Go Go.RowKit Go.MapKept
def EL (X:Value)(y:Six)(S:Option Addr):Obj:= .cells #[X, .pointer y.y0, .pointer y.y1, .pointer y.y2, .pointer y.y3, .pointer y.y4, .bool false, .pointer S] 124
theorem typedmerge_asTV (b:Nat)(y:Six)(S:Option Addr)(w:World):Calls Tryz.prog 31 #[Ab b, .pointer S,F9 y] w (fun e w'=>Bw w w'∧∃bo,e= .returned (.pointer (some ⟨bo,0,none⟩))∧w.heap.size≤bo∧w'.heap[bo]?=some (EL (Ab b) y S)):=by
 rcases y with⟨y0,y1,y2,y3,y4⟩
 go_enter Tryz.func31,Tryz.ntmps31
 go_wp2_with fail
 go_ret
 exact⟨Am,_,rfl,by omega,BF⟩
def B9 (X:Value)(y:Six)(S:Option Addr):Obj:= .cells #[X, .pointer y.y0, .pointer y.y1, .pointer y.y2, .pointer y.y3, .pointer y.y4, .bool false, .pointer S] 132
theorem typedcompare_asTV (b:Nat)(y:Six)(S:Option Addr)(w:World):Calls Tryz.prog 36 #[Ab b, .pointer S,F9 y] w (fun e w'=>Bw w w'∧∃bo,e= .returned (.pointer (some ⟨bo,0,none⟩))∧w.heap.size≤bo∧w'.heap[bo]?=some (B9 (Ab b) y S)):=by
 rcases y with⟨y0,y1,y2,y3,y4⟩
 go_enter Tryz.func36,Tryz.ntmps36
 go_wp2_with fail
 go_ret
 exact⟨Am,_,rfl,by omega,BF⟩
def BV (X:Value)(y:Six)(S:Option Addr):Obj:= .cells #[X, .pointer y.y0, .pointer y.y1, .pointer y.y2, .pointer y.y3, .pointer y.y4, .bool false, .pointer S] 153
theorem typedfieldset_asTV (b:Nat)(y:Six)(S:Option Addr)(w:World):Calls Tryz.prog 39 #[Ab b, .pointer S,F9 y] w (fun e w'=>Bw w w'∧∃bo,e= .returned (.pointer (some ⟨bo,0,none⟩))∧w.heap.size≤bo∧w'.heap[bo]?=some (BV (Ab b) y S)):=by
 rcases y with⟨y0,y1,y2,y3,y4⟩
 go_enter Tryz.func39,Tryz.ntmps39
 go_wp2_with fail
 go_ret
 exact⟨Am,_,rfl,by omega,BF⟩
theorem tm_asValue (b:Nat)(y:Six)(S:Option Addr)(w:World):Calls Tryz.prog 35 #[.agg #[Ab b, .pointer y.y0, .pointer y.y1, .pointer y.y2, .pointer y.y3, .pointer y.y4, .bool false, .pointer S]] w (fun e w'=>Bw w w'∧e= .returned (Ab b)):=by
 rcases y with⟨y0,y1,y2,y3,y4⟩
 go_enter Tryz.func35,Tryz.ntmps35
 go_wp2_with fail
 go_ret
 exact⟨A5,rfl⟩
theorem tm_Merge (s:List Ax)(rr:As)(sc:ByteArray)(key:ByteArray)(r fe:As)(rel:ByteArray)(rest:List Bp)(a:Ap)(t u:JT)(hres:Av s rr=some ⟨sc,[],⟨[⟨key,r,[]⟩],fe,rel⟩::rest⟩)(hrel:(rel.toList==An)=false)(hsc:sc.toList.isEmpty=true)(hnr:Bf ⟨sc,[],⟨[⟨key,r,[]⟩],fe,rel⟩::rest⟩=true)(hnq:Dt rr=true)
  (hrec:Av s r=some a) (hnn:Bf a=true) (h1:Ck a t) (h2:Ck a u) (hks:key.size≤lim) (bR bl br:Nat) (S:Option Addr) (y:Six)
  (H:Hp) (w:World) (hi:Imm H w) (hS:AO Ak H s (.pointer S)) (hr:BM Ak H rr y) (x yv:Value) (cx:A8 H bl 0=some x) (cy:A8 H br 0=some yv) (hx:RJ H (.map [key] [t]) x) (hy:RJ H (.map [key] [u]) yv)
  (hbR:w.heap[bR]?=some (tvM (Ab br) y S)):
  Calls Tryz.prog 33 #[.agg #[Ab bl, .pointer y.y0, .pointer y.y1, .pointer y.y2, .pointer y.y3, .pointer y.y4, .bool false, .pointer S], .pointer (some ⟨bR,0,none⟩)] w (fun e w'=>Bw w w'∧∃bo X,e= .returned (.tuple #[.pointer (some ⟨bo,0,none⟩), .nilIface])∧w'.heap[bo]?=some (tvM X y S)∧∃K,Hle H K∧Imm K w'∧RVal K (.map [key] [u]) X):=by
 have HC:=Lib.hid (tm_top s rr sc key r fe rel rest a t u hres hrel hsc hnr hnq hrec hnn h1 h2 hks w.heap.size bR bl br S y H (w.alloc (tvM (Ab bl) y S)) (hi.below A5) hS hr x yv cx cy hx hy A4 (A3 hbR))
 unfold tvM at HC
 rcases y with⟨y0,y1,y2,y3,y4⟩
 simp only at HC
 clear hi hS hr cx cy hx hy hbR
 go_enter Tryz.func33,Tryz.ntmps33
 go_wp2_with fail
 refine HC.out.mono ?_
 rintro _ w2 ⟨hb,bo,X,rfl,hx⟩
 have HX:=Lib.hid (And.intro hb hx)
 clear hb hx
 go_wp2_with fail
 go_ret2
 exact⟨A5.tr HX.out.1,bo,X,rfl,HX.out.2⟩
end
section
open Go Go.RowKit Go.MapKept
theorem EK {P:Program}{md:Region.Mode}{ops:Array Oper}{Q:Exit→Act→World→Prop}{S S':World→Prop}(h:∀w,S' w→S w):∀(fuel:Nat) (listed:Array Bool) (a:Act) (w:World),wpAnyH P md ops Q S' fuel listed a w→wpAnyH P md ops Q S fuel listed a w
 |0,_,_,_,hw=>hw
 |fuel+1,_,_,_,hw=>⟨hw.1,fun i hi=>wpOp_mono (fun a' w' h'=>⟨h w' h'.1,EK h fuel _ a' w' h'.2⟩) (hw.2 i hi)⟩
def SR (H:Hp)(s:List Ax)(rr:As)(wz wx:World)(S:Option Addr)(b11:Nat)(y:Six):Prop:=Bw wz wx∧wz.heap.size≤b11∧wx.heap[b11]?=some (.cells #[.pointer y.y0, .pointer y.y1, .pointer y.y2, .pointer y.y3, .pointer y.y4, .bool false] 83)∧
 ∃K,Hle H K∧Imm K wx∧AO Ak K s (.pointer S)∧BM Ak K rr y
theorem SR.mk' {H:Hp}{s:List Ax}{rr:As}{wz W w1 W2 w2 wx:World}{S:Option Addr}{y:Six}{b:Nat}(hi:Imm H wz)(h0:Bw wz W)(h1:Bw W w1)(hm:Bw w1 W2)(h2:Bw W2 w2)(hS:AO Ak (A6 H W w1) s (.pointer S))(hr:BM Ak (A6 H W2 w2) rr y)
  (hb:wz.heap.size≤b) (hb1:b<W.heap.size∨w1.heap.size≤b) (hb2:b<W2.heap.size∨w2.heap.size≤b) (hbx:Bw wz wx) (hk:∀k,k<w2.heap.size→k≠b→wx.heap[k]?=w2.heap[k]?)
  (hwx:wx.heap[b]?=some (.cells #[.pointer y.y0, .pointer y.y1, .pointer y.y2, .pointer y.y3, .pointer y.y4, .bool false] 83)):SR H s rr wz wx S b y:=by
 have s0:=h0.size;have s1:=h1.size;have s2:=hm.size;have s3:=h2.size
 refine⟨hbx,hb,hwx,AX H W w2 (some b),hle_growX (hi.below h0),fun k o e=> ?_,hS.mono fun k o e=> ?_,hr.mono fun k o e=> ?_⟩
 ·show wx.heap[k]?=some o
  unfold AX at e
  by_cases h:k<W.heap.size
  ·rw [if_pos h]at e
   have:=hi k o e
   exact(hi.below hbx) k o e
  ·rw [if_neg h]at e
   by_cases hx:some b=some k
   ·rw [if_pos hx]at e;cases e
   ·rw [if_neg hx]at e
    rw [hk k (A0 e) (fun e2=>hx (by rw [e2]))];exact e
 ·unfold A6 at e
  unfold AX
  by_cases h:k<W.heap.size
  ·rw [if_pos h]at e⊢;exact e
  ·rw [if_neg h]at e⊢
   have hl:=A0 e
   rw [if_neg (fun e2=>by cases e2;omega)]
   exact A2 h2 (A2 hm e)
 ·unfold A6 at e
  unfold AX
  by_cases h:k<W2.heap.size
  ·rw [if_pos h]at e
   rw [if_pos (Nat.lt_of_lt_of_le (A0 (hi k o e)) s0)];exact e
  ·rw [if_neg h]at e
   have hl:=A0 e
   rw [if_neg (by omega),if_neg (fun e2=>by cases e2;omega)];exact e
theorem SR.at_end {H:Hp}{s:List Ax}{rr:As}{wz W w1 W2 w2:World}{S:Option Addr}{y:Six}(hi:Imm H wz)(h0:Bw wz W)(h1:Bw W w1)(hm:Bw w1 W2)(h2:Bw W2 w2)(hS:AO Ak (A6 H W w1) s (.pointer S))(hr:BM Ak (A6 H W2 w2) rr y):
  SR H s rr wz (w2.alloc (.cells #[.pointer y.y0, .pointer y.y1, .pointer y.y2, .pointer y.y3, .pointer y.y4, .bool false] 83)) S w2.heap.size y:=
 SR.mk' hi h0 h1 hm h2 hS hr (by have:=h0.size;have:=h1.size;have:=hm.size;have:=h2.size;omega) (.inr (by have:=hm.size;have:=h2.size;omega)) (.inr (Nat.le_refl _)) ((((h0.tr h1).tr hm).tr h2).al _) (fun k hk _=>by rw [Ad,if_neg (by omega)]) A4
theorem SR.ahead {H:Hp}{s:List Ax}{rr:As}{wz W w1 W2 w2:World}{S:Option Addr}{y:Six}{b:Nat}(hi:Imm H wz)(h0:Bw wz W)(h1:Bw W w1)(hm:Bw w1 W2)(h2:Bw W2 w2)(hS:AO Ak (A6 H W w1) s (.pointer S))(hr:BM Ak (A6 H W2 w2) rr y)
  (hb:wz.heap.size≤b) (hb1:b<W.heap.size∨w1.heap.size≤b) (hbW:W2.heap[b]?=some (.cells #[.pointer none, .pointer none, .pointer none, .pointer none, .pointer none, .bool false] 83)):
  SR H s rr wz ((((((w2.setCell ⟨b,0,none⟩ (.pointer y.y0)).setCell ⟨b,1,none⟩ (.pointer y.y1)).setCell ⟨b,2,none⟩ (.pointer y.y2)).setCell ⟨b,3,none⟩ (.pointer y.y3)).setCell ⟨b,4,none⟩ (.pointer y.y4)).setCell ⟨b,5,none⟩ (.bool false)) S b y:=by
 have t:Az w2 ((((((w2.setCell ⟨b,0,none⟩ (.pointer y.y0)).setCell ⟨b,1,none⟩ (.pointer y.y1)).setCell ⟨b,2,none⟩ (.pointer y.y2)).setCell ⟨b,3,none⟩ (.pointer y.y3)).setCell ⟨b,4,none⟩ (.pointer y.y4)).setCell ⟨b,5,none⟩ (.bool false)) b:=((((((Az.refl w2 _).set _ _).set _ _).set _ _).set _ _).set _ _).set _ _
 refine SR.mk' hi h0 h1 hm h2 hS hr hb hb1 (.inl (A0 hbW)) ((((h0.tr h1).tr hm).tr h2).turn hb t) (fun k _ hk=>t.block k hk) ?_
 simpa using Ac (Ac (Ac (Ac (Ac (Ac (A2 h2 hbW) 0 (.pointer y.y0)) 1 (.pointer y.y1)) 2 (.pointer y.y2)) 3 (.pointer y.y3)) 4 (.pointer y.y4)) 5 (.bool false)
structure Prep (s:List Ax) (rr:As) (S:Option Addr) (y:Six) (key:ByteArray) (t u:JT) (bl br:Nat) (w4:World):Prop where
 sch:AO Ak (At w4) s (.pointer S)
 ref:BM Ak (At w4) rr y
 l:∃x,A8 (At w4) bl 0=some x∧RJ (At w4) (.map [key] [t]) x
 r:∃x,A8 (At w4) br 0=some x∧RJ (At w4) (.map [key] [u]) x
theorem RVal.at_ {H:Hp}{t:JT}{b:Nat}(h:RVal H t (.iface 184 (.pointer (some ⟨b,0,none⟩)))):∃x,A8 H b 0=some x∧RJ H t x:=by
 obtain⟨b',x,e,h1,h2⟩:=h
 cases e
 exact⟨x,h1,h2⟩
theorem asis_prep {H:Hp}{s:List Ax}{rr:As}{wz wx w1 w2 w3 w4:World}{S:Option Addr}{b11 bl br:Nat}{y:Six}{key:ByteArray}{t u:JT}{va vb:GV}(h:SR H s rr wz wx S b11 y)
  (h1:Bw wx w1∧RVal (At w1) (Ak va) (Ab bl)) (h2:Bw w1 w2) (h3:Bw w2 w3∧RVal (At w3) (Ak vb) (Ab br)) (h4:Bw w3 w4) (hta:Ak va= .map [key] [t]) (htb:Ak vb= .map [key] [u]):Prep s rr S y key t u bl br w4:=by
 obtain⟨_,_,_,K,hHK,hiK,hS,hr⟩:=h
 rw [hta]at h1
 rw [htb]at h3
 have hk:Hle K (At w4):=(hiK:Hle K (At wx)).trans (AG (((h1.1.tr h2).tr h3.1).tr h4))
 exact⟨hS.mono hk,hr.mono hk,(h1.2.mono (AG ((h2.tr h3.1).tr h4))).at_,(h3.2.mono (AG h4)).at_⟩
theorem keepB26 {w w1:World}(hb:Bw w w1){p0 p1 p2 p3 p4 p5 p6 p7 p8 p9 p10 p11 p12 p13 p14 p15 p16 p17 p18 p19 p20 p21 p22 p23 p24 p25:Addr}{u0 u1 u2 u3 u4 u5 u6 u7 u8 u9 u10 u11 u12 u13 u14 u15 u16 u17 u18 u19 u20 u21 u22 u23 u24 u25:Value}(h:w.cell? p0=some u0∧w.cell? p1=some u1∧w.cell? p2=some u2∧w.cell? p3=some u3∧w.cell? p4=some u4∧w.cell? p5=some u5∧w.cell? p6=some u6∧w.cell? p7=some u7∧w.cell? p8=some u8∧w.cell? p9=some u9∧w.cell? p10=some u10∧w.cell? p11=some u11∧w.cell? p12=some u12∧w.cell? p13=some u13∧w.cell? p14=some u14∧w.cell? p15=some u15∧w.cell? p16=some u16∧w.cell? p17=some u17∧w.cell? p18=some u18∧w.cell? p19=some u19∧w.cell? p20=some u20∧w.cell? p21=some u21∧w.cell? p22=some u22∧w.cell? p23=some u23∧w.cell? p24=some u24∧w.cell? p25=some u25):w1.cell? p0=some u0∧w1.cell? p1=some u1∧w1.cell? p2=some u2∧w1.cell? p3=some u3∧w1.cell? p4=some u4∧w1.cell? p5=some u5∧w1.cell? p6=some u6∧w1.cell? p7=some u7∧w1.cell? p8=some u8∧w1.cell? p9=some u9∧w1.cell? p10=some u10∧w1.cell? p11=some u11∧w1.cell? p12=some u12∧w1.cell? p13=some u13∧w1.cell? p14=some u14∧w1.cell? p15=some u15∧w1.cell? p16=some u16∧w1.cell? p17=some u17∧w1.cell? p18=some u18∧w1.cell? p19=some u19∧w1.cell? p20=some u20∧w1.cell? p21=some u21∧w1.cell? p22=some u22∧w1.cell? p23=some u23∧w1.cell? p24=some u24∧w1.cell? p25=some u25:=by
 obtain⟨h0,h1,h2,h3,h4,h5,h6,h7,h8,h9,h10,h11,h12,h13,h14,h15,h16,h17,h18,h19,h20,h21,h22,h23,h24,h25⟩:=h
 exact⟨cell_later hb h0,cell_later hb h1,cell_later hb h2,cell_later hb h3,cell_later hb h4,cell_later hb h5,cell_later hb h6,cell_later hb h7,cell_later hb h8,cell_later hb h9,cell_later hb h10,cell_later hb h11,cell_later hb h12,cell_later hb h13,cell_later hb h14,cell_later hb h15,cell_later hb h16,cell_later hb h17,cell_later hb h18,cell_later hb h19,cell_later hb h20,cell_later hb h21,cell_later hb h22,cell_later hb h23,cell_later hb h24,cell_later hb h25⟩
theorem keepB18 {w w1:World}(hb:Bw w w1){p0 p1 p2 p3 p4 p5 p6 p7 p8 p9 p10 p11 p12 p13 p14 p15 p16 p17:Addr}{u0 u1 u2 u3 u4 u5 u6 u7 u8 u9 u10 u11 u12 u13 u14 u15 u16 u17:Value}(h:w.cell? p0=some u0∧w.cell? p1=some u1∧w.cell? p2=some u2∧w.cell? p3=some u3∧w.cell? p4=some u4∧w.cell? p5=some u5∧w.cell? p6=some u6∧w.cell? p7=some u7∧w.cell? p8=some u8∧w.cell? p9=some u9∧w.cell? p10=some u10∧w.cell? p11=some u11∧w.cell? p12=some u12∧w.cell? p13=some u13∧w.cell? p14=some u14∧w.cell? p15=some u15∧w.cell? p16=some u16∧w.cell? p17=some u17):w1.cell? p0=some u0∧w1.cell? p1=some u1∧w1.cell? p2=some u2∧w1.cell? p3=some u3∧w1.cell? p4=some u4∧w1.cell? p5=some u5∧w1.cell? p6=some u6∧w1.cell? p7=some u7∧w1.cell? p8=some u8∧w1.cell? p9=some u9∧w1.cell? p10=some u10∧w1.cell? p11=some u11∧w1.cell? p12=some u12∧w1.cell? p13=some u13∧w1.cell? p14=some u14∧w1.cell? p15=some u15∧w1.cell? p16=some u16∧w1.cell? p17=some u17:=by
 obtain⟨h0,h1,h2,h3,h4,h5,h6,h7,h8,h9,h10,h11,h12,h13,h14,h15,h16,h17⟩:=h
 exact⟨cell_later hb h0,cell_later hb h1,cell_later hb h2,cell_later hb h3,cell_later hb h4,cell_later hb h5,cell_later hb h6,cell_later hb h7,cell_later hb h8,cell_later hb h9,cell_later hb h10,cell_later hb h11,cell_later hb h12,cell_later hb h13,cell_later hb h14,cell_later hb h15,cell_later hb h16,cell_later hb h17⟩
theorem mergeAsIs_c (s:List Ax)(rr:As)(sc:ByteArray)(key:ByteArray)(r fe:As)(rel:ByteArray)(rest:List Bp)(a:Ap)(t u:JT)(va vb:GV)(hta:Ak va= .map [key] [t])(htb:Ak vb= .map [key] [u])(hres:Av s rr=some ⟨sc,[],⟨[⟨key,r,[]⟩],fe,rel⟩::rest⟩)(hrel:(rel.toList==An)=false)(hsc:sc.toList.isEmpty=true)(hnr:Bf ⟨sc,[],⟨[⟨key,r,[]⟩],fe,rel⟩::rest⟩=true)(hnq:Dt rr=true)
  (hrec:Av s r=some a) (hnn:Bf a=true) (h1:Ck a t) (h2:Ck a u) (hks:key.size≤lim)
  (H:Hp) (w:World) (xs x1 x2 a4 a5 b4 b5:Value) (hi:Imm H w) (hS:DH H s xs) (hr:Cy H rr x1 x2) (hva:RV H va a4 a5) (hvb:RV H vb b4 b5):
  Calls Tryz.prog 14 #[E1 xs,E8 rr x1 x2,Ar va a4 a5,Ar vb b4 b5] w (fun e w'=>Bw w w'∧∃m4 m5,e= .returned (.tuple #[Ar (AE (.map [key] [u])) m4 m5, .bool true])∧RV (At w') (AE (.map [key] [u])) m4 m5):=by
 have HSC:=Lib.hid (fun w0 h0=>toSchema_c s H xs w0 h0 hS)
 have HRC:=Lib.hid (fun w0 h0=>toRef_c rr H x1 x2 w0 h0 hr)
 have HVA:=Lib.hid (fun w0 h0=>EZ va H a4 a5 w0 h0 hva)
 have HVB:=Lib.hid (fun w0 h0=>EZ vb H b4 b5 w0 h0 hvb)
 have HTM:=Lib.hid (fun bR bl br S y w4 (hp:Prep s rr S y key t u bl br w4) hbR=>by
  obtain⟨x,cx,hx⟩:=hp.l
  obtain⟨z,cz,hz⟩:=hp.r
  exact tm_Merge s rr sc key r fe rel rest a t u hres hrel hsc hnr hnq hrec hnn h1 h2 hks bR bl br S y (At w4) w4 (Imm.self w4) hp.sch hp.ref x z cx cz hx hz hbR)
 have HI:=Lib.hid hi
 obtain⟨as_,cs_,rfl,_⟩:=hS
 obtain⟨l1,d1,l2,d2,rfl,rfl⟩:=hr.open
 obtain⟨p4,e4,p5,e5,rfl,rfl⟩:=hva.open
 obtain⟨q4,g4,q5,g5,rfl,rfl⟩:=hvb.open
 clear hi hr hva hvb
 unfold E1 E8 at *
 unfold Ar at HVA HVB⊢
 go_enter Tryz.func14,Tryz.ntmps14
 go_upto_region 1 with(fail)
 obtain⟨wz,hwz⟩:∃wz,wz=((((w.alloc (.cells #[.slice as_ s.length cs_] 24)).alloc (.cells #[.bool rr.named, .string rr.name, .string rr.atom.sc, .slice l1 rr.atom.li.length d1, .slice l2 rr.atom.ma.length d2, .string rr.rel] 30)).alloc (.cells #[.int .i64 va.k, .int .i64 va.n, .float .f64 va.f, .string va.s, .slice p4 va.ks.length e4, .slice p5 va.l.length e5] 35)).alloc (.cells #[.int .i64 vb.k, .int .i64 vb.n, .float .f64 vb.f, .string vb.s, .slice q4 vb.ks.length g4, .slice q5 vb.l.length g5] 35)).alloc (CY 0 (.slice none 0 0) (.slice none 0 0)):=⟨_,rfl⟩
 have HZ:Hid (Bw w wz∧wz.heap.size=w.heap.size+5∧wz.heap[w.heap.size]?=some (.cells #[.slice as_ s.length cs_] 24)∧wz.heap[w.heap.size+1]?=some (.cells #[.bool rr.named, .string rr.name, .string rr.atom.sc, .slice l1 rr.atom.li.length d1, .slice l2 rr.atom.ma.length d2, .string rr.rel] 30)∧wz.heap[w.heap.size+1+1]?=some (.cells #[.int .i64 va.k, .int .i64 va.n, .float .f64 va.f, .string va.s, .slice p4 va.ks.length e4, .slice p5 va.l.length e5] 35)∧wz.heap[w.heap.size+1+1+1]?=some (.cells #[.int .i64 vb.k, .int .i64 vb.n, .float .f64 vb.f, .string vb.s, .slice q4 vb.ks.length g4, .slice q5 vb.l.length g5] 35)∧wz.heap[w.heap.size+1+1+1+1]?=some (CY 0 (.slice none 0 0) (.slice none 0 0))):=by
  subst hwz;exact⟨(Co.al _).al _,by simp,b5_0,b5_1,b5_2,b5_3,b5_4⟩
 unfold CY at hwz
 rw [←hwz]
 clear hwz
 obtain⟨q0,f0⟩:=A1 HZ.out.2.2.1
 obtain⟨q1,f1⟩:=A1 HZ.out.2.2.2.1
 have hl0:=A0 HZ.out.2.2.1
 have hl1:=A0 HZ.out.2.2.2.1
 have HIZ:=Lib.hid (HI.out.below HZ.out.1)
 go_cut [10,11] (fun s10 s11 wx=>∃S b11 y,s10= .pointer S∧s11= .pointer (some ⟨b11,0,none⟩)∧SR H s rr wz wx S b11 y)
 case first=>
  go_region_law
   (first
    |(go_simp;(refine(HSC.out _ (HIZ.out.below (by first|exact(Bw.rfl.al _).dr|exact Bw.rfl.al _|exact Bw.rfl.dr.al _))).mono ?_);rintro _ w1 ⟨hb1,X,rfl,hX⟩;have hX0:=hX;obtain⟨bs,xs_,rfl,_⟩:=hX0;obtain⟨W,hW0,hbW,hXW,hWb⟩:∃W,Bw wz W∧Bw W w1∧AO Ak (A6 H W w1) s (.pointer (some ⟨bs,0,none⟩))∧W.heap[wz.heap.size]?=some (.cells #[.pointer none, .pointer none, .pointer none, .pointer none, .pointer none, .bool false] 83):=⟨_,(by first|exact(Bw.rfl.al _).dr|exact Bw.rfl.al _|exact Bw.rfl.dr.al _),hb1,hX,by exact A4⟩;have H1:=Lib.hid (And.intro hW0 (And.intro hbW hXW));have HT:=Lib.hid hWb;have hq1:=A2 (hW0.tr hbW) HZ.out.2.2.2.1;obtain⟨q1a,f1a⟩:=A1 hq1;have hl1a:=A0 hq1;clear hX hb1 hW0 hbW hXW hq1)
    |(go_simp;(refine(HSC.out _ (HIZ.out.below (by first|exact Bw.rfl|exact Bw.rfl.dr))).mono ?_);rintro _ w1 ⟨hb1,X,rfl,hX⟩;have hX0:=hX;obtain⟨bs,xs_,rfl,_⟩:=hX0;obtain⟨W,hW0,hbW,hXW⟩:∃W,Bw wz W∧Bw W w1∧AO Ak (A6 H W w1) s (.pointer (some ⟨bs,0,none⟩)):=⟨_,(by first|exact Bw.rfl|exact Bw.rfl.dr),hb1,hX⟩;have H1:=Lib.hid (And.intro hW0 (And.intro hbW hXW));have hq1:=A2 (hW0.tr hbW) HZ.out.2.2.2.1;obtain⟨q1a,f1a⟩:=A1 hq1;have hl1a:=A0 hq1;clear hX hb1 hW0 hbW hXW hq1)
    |(go_simp;(refine(HRC.out _ (HIZ.out.below (Bw.tr (Bw.tr H1.out.1 H1.out.2.1) (by first|exact(Bw.rfl.al _).dr|exact Bw.rfl.al _|exact Bw.rfl.dr.al _)))).mono ?_);rintro _ w2 ⟨hb2,y,rfl,hY⟩;obtain⟨W2,hW2,hbW2,hYW⟩:∃W2,Bw w1 W2∧Bw W2 w2∧BM Ak (A6 H W2 w2) rr y∧W2.heap[w1.heap.size]?=some (.cells #[.pointer none, .pointer none, .pointer none, .pointer none, .pointer none, .bool false] 83):=⟨_,(by first|exact(Bw.rfl.al _).dr|exact Bw.rfl.al _|exact Bw.rfl.dr.al _),hb2,hY,by exact A4⟩;have H2:=Lib.hid (And.intro hW2 (And.intro hbW2 hYW));have hq2:=A2 hbW2 hYW.2;obtain⟨q2a,f2a⟩:=A1 hq2;have hl2a:=A0 hq2;clear hb2 hY hW2 hbW2 hYW hq2)
    |(go_simp;(refine(HRC.out _ (HIZ.out.below (Bw.tr (Bw.tr H1.out.1 H1.out.2.1) (by first|exact Bw.rfl|exact Bw.rfl.dr)))).mono ?_);rintro _ w2 ⟨hb2,y,rfl,hY⟩;obtain⟨W2,hW2,hbW2,hYW⟩:∃W2,Bw w1 W2∧Bw W2 w2∧BM Ak (A6 H W2 w2) rr y:=⟨_,(by first|exact Bw.rfl|exact Bw.rfl.dr),hb2,hY⟩;have H2:=Lib.hid (And.intro hW2 (And.intro hbW2 hYW));try(have hq2:=A2 ((H1.out.2.1.tr hW2).tr hbW2) HT.out;obtain⟨q2a,f2a⟩:=A1 hq2;have hl2a:=A0 hq2;clear hq2);clear hb2 hY hW2 hbW2 hYW))
  all_goals
   go_wp2_with fail
   go_meet
   refine⟨_,_,y,rfl,rfl, ?_⟩
   first
    |(with_reducible refine SR.at_end HIZ.out H1.out.1 H1.out.2.1 H2.out.1 H2.out.2.1 H1.out.2.2 ?_);first|exact H2.out.2.2|exact H2.out.2.2.1
    |(with_reducible refine SR.ahead HIZ.out H1.out.1 H1.out.2.1 H2.out.1 H2.out.2.1 H1.out.2.2 H2.out.2.2.1 ?_ (.inr (Nat.le_refl _)) H2.out.2.2.2);have:=H1.out.1.size;have:=H1.out.2.1.size;omega
    |(with_reducible refine SR.ahead HIZ.out H1.out.1 H1.out.2.1 H2.out.1 H2.out.2.1 H1.out.2.2 H2.out.2.2 (Nat.le_refl _) (.inl (A0 HT.out)) ?_);exact(A2 (H1.out.2.1.tr H2.out.1) HT.out)
 case rest=>
  obtain⟨S,b11,⟨y0,y1,y2,y3,y4⟩,rfl,rfl,hsr⟩:=hcut
  obtain⟨wx,hwx⟩:∃wx:World,wx=wc:=⟨_,rfl⟩
  subst hwx
  have HSR:=Lib.hid hsr
  have hl5:=A0 hsr.2.2.1
  clear hsr q0 f0 q1 f1 hl0 hl1
  go_upto_region 2 with(fail)
  have S0:wx.cell? ⟨b11,0,none⟩=some (.pointer y0)∧wx.cell? ⟨b11,1,none⟩=some (.pointer y1)∧wx.cell? ⟨b11,2,none⟩=some (.pointer y2)∧wx.cell? ⟨b11,3,none⟩=some (.pointer y3)∧wx.cell? ⟨b11,4,none⟩=some (.pointer y4)∧wx.cell? ⟨b11,5,none⟩=some (.bool false)∧wx.cell? ⟨w.heap.size+1+1,0,none⟩=some (.int .i64 va.k)∧wx.cell? ⟨w.heap.size+1+1,1,none⟩=some (.int .i64 va.n)∧wx.cell? ⟨w.heap.size+1+1,2,none⟩=some (.float .f64 va.f)∧wx.cell? ⟨w.heap.size+1+1,3,none⟩=some (.string va.s)∧wx.cell? ⟨w.heap.size+1+1,4,none⟩=some (.slice p4 va.ks.length e4)∧wx.cell? ⟨w.heap.size+1+1,5,none⟩=some (.slice p5 va.l.length e5)∧wx.cell? ⟨w.heap.size+1+1+1,0,none⟩=some (.int .i64 vb.k)∧wx.cell? ⟨w.heap.size+1+1+1,1,none⟩=some (.int .i64 vb.n)∧wx.cell? ⟨w.heap.size+1+1+1,2,none⟩=some (.float .f64 vb.f)∧wx.cell? ⟨w.heap.size+1+1+1,3,none⟩=some (.string vb.s)∧wx.cell? ⟨w.heap.size+1+1+1,4,none⟩=some (.slice q4 vb.ks.length g4)∧wx.cell? ⟨w.heap.size+1+1+1,5,none⟩=some (.slice q5 vb.l.length g5):=by
   have g0:=(A1 HSR.out.2.2.1).1
   have g1:=(A1 (A2 HSR.out.1 HZ.out.2.2.2.2.1)).1
   have g2:=(A1 (A2 HSR.out.1 HZ.out.2.2.2.2.2.1)).1
   exact⟨g0 0,g0 1,g0 2,g0 3,g0 4,g0 5,g1 0,g1 1,g1 2,g1 3,g1 4,g1 5,g2 0,g2 1,g2 2,g2 3,g2 4,g2 5⟩
  have S1:wx.drew.cell? ⟨b11,0,none⟩=some (.pointer y0)∧wx.drew.cell? ⟨b11,1,none⟩=some (.pointer y1)∧wx.drew.cell? ⟨b11,2,none⟩=some (.pointer y2)∧wx.drew.cell? ⟨b11,3,none⟩=some (.pointer y3)∧wx.drew.cell? ⟨b11,4,none⟩=some (.pointer y4)∧wx.drew.cell? ⟨b11,5,none⟩=some (.bool false)∧wx.drew.cell? ⟨w.heap.size+1+1,0,none⟩=some (.int .i64 va.k)∧wx.drew.cell? ⟨w.heap.size+1+1,1,none⟩=some (.int .i64 va.n)∧wx.drew.cell? ⟨w.heap.size+1+1,2,none⟩=some (.float .f64 va.f)∧wx.drew.cell? ⟨w.heap.size+1+1,3,none⟩=some (.string va.s)∧wx.drew.cell? ⟨w.heap.size+1+1,4,none⟩=some (.slice p4 va.ks.length e4)∧wx.drew.cell? ⟨w.heap.size+1+1,5,none⟩=some (.slice p5 va.l.length e5)∧wx.drew.cell? ⟨w.heap.size+1+1+1,0,none⟩=some (.int .i64 vb.k)∧wx.drew.cell? ⟨w.heap.size+1+1+1,1,none⟩=some (.int .i64 vb.n)∧wx.drew.cell? ⟨w.heap.size+1+1+1,2,none⟩=some (.float .f64 vb.f)∧wx.drew.cell? ⟨w.heap.size+1+1+1,3,none⟩=some (.string vb.s)∧wx.drew.cell? ⟨w.heap.size+1+1+1,4,none⟩=some (.slice q4 vb.ks.length g4)∧wx.drew.cell? ⟨w.heap.size+1+1+1,5,none⟩=some (.slice q5 vb.l.length g5):=S0
  have HIX:=Lib.hid (HIZ.out.below HSR.out.1)
  have HAT:Hid (∀b w,Calls Tryz.prog 31 #[Ab b, .pointer S, .agg #[.pointer y0, .pointer y1, .pointer y2, .pointer y3, .pointer y4, .bool false]] w (fun e w'=>Bw w w'∧∃bo,e= .returned (.pointer (some ⟨bo,0,none⟩))∧w.heap.size≤bo∧w'.heap[bo]?=some (EL (Ab b) ⟨y0,y1,y2,y3,y4⟩ S))):=fun b w=>typedmerge_asTV b ⟨y0,y1,y2,y3,y4⟩ S w
  have HTQ:Hid (∀bR bl br w4,Prep s rr S ⟨y0,y1,y2,y3,y4⟩ key t u bl br w4→w4.heap[bR]?=some (tvM (Ab br) ⟨y0,y1,y2,y3,y4⟩ S)→Calls Tryz.prog 33 #[.agg #[Ab bl, .pointer y0, .pointer y1, .pointer y2, .pointer y3, .pointer y4, .bool false, .pointer S], .pointer (some ⟨bR,0,none⟩)] w4 (fun e w'=>Bw w4 w'∧∃bo X,e= .returned (.tuple #[.pointer (some ⟨bo,0,none⟩), .nilIface])∧w'.heap[bo]?=some (tvM X ⟨y0,y1,y2,y3,y4⟩ S)∧∃K,Hle (At w4) K∧Imm K w'∧RVal K (.map [key] [u]) X)):=fun bR bl br w4 hp hb=>HTM.out bR bl br S ⟨y0,y1,y2,y3,y4⟩ w4 hp hb
  refine wp_region_held_drew (S:=fun w'=>w'.cell? ⟨b11,0,none⟩=some (.pointer y0)∧w'.cell? ⟨b11,1,none⟩=some (.pointer y1)∧w'.cell? ⟨b11,2,none⟩=some (.pointer y2)∧w'.cell? ⟨b11,3,none⟩=some (.pointer y3)∧w'.cell? ⟨b11,4,none⟩=some (.pointer y4)∧w'.cell? ⟨b11,5,none⟩=some (.bool false)∧w'.cell? ⟨w.heap.size+1+1,0,none⟩=some (.int .i64 va.k)∧w'.cell? ⟨w.heap.size+1+1,1,none⟩=some (.int .i64 va.n)∧w'.cell? ⟨w.heap.size+1+1,2,none⟩=some (.float .f64 va.f)∧w'.cell? ⟨w.heap.size+1+1,3,none⟩=some (.string va.s)∧w'.cell? ⟨w.heap.size+1+1,4,none⟩=some (.slice p4 va.ks.length e4)∧w'.cell? ⟨w.heap.size+1+1,5,none⟩=some (.slice p5 va.l.length e5)∧w'.cell? ⟨w.heap.size+1+1+1,0,none⟩=some (.int .i64 vb.k)∧w'.cell? ⟨w.heap.size+1+1+1,1,none⟩=some (.int .i64 vb.n)∧w'.cell? ⟨w.heap.size+1+1+1,2,none⟩=some (.float .f64 vb.f)∧w'.cell? ⟨w.heap.size+1+1+1,3,none⟩=some (.string vb.s)∧w'.cell? ⟨w.heap.size+1+1+1,4,none⟩=some (.slice q4 vb.ks.length g4)∧w'.cell? ⟨w.heap.size+1+1+1,5,none⟩=some (.slice q5 vb.l.length g5)) (by kernel_rfl) S1 (fun hHeld=> ?_)
  refine tk 0 ?_
  try simp only [Act.put,tka,tkb,tkc]
  refine tk 2 ?_
  try simp only [Act.put,tka,tkb,tkc]
  refine tk 3 ?_
  try simp only [Act.put,tka,tkb,tkc]
  refine tk 7 ?_
  try simp only [Act.put,tka,tkb,tkc]
  refine tk 9 ?_
  try simp only [Act.put,tka,tkb,tkc]
  refine tk 10 ?_
  try simp only [Act.put,tka,tkb,tkc]
  refine wpAnyH_ready (rs:=[1]) (by kernel_rfl) (by simp) ?_
  refine AllReadyH.cons rfl (fun K hK=> ?_) AllReadyH.nil
  go_simp
  refine(HVA.out _ (HIX.out.below Bw.rfl.dr)).mono ?_
  rintro _ w1 ⟨hb1',X1,rfl,hX1'⟩
  have hb1:Bw wx w1:=Bw.rfl.dr.tr hb1'
  have hX1:RVal (At w1) (Ak va) X1:=hX1'.mono (Imm.grow (HIX.out.below Bw.rfl.dr) hb1')
  have H1:=Lib.hid (And.intro hb1 hX1)
  obtain⟨bl,xl,rfl,_,_⟩:=hX1
  have S2:=keepB18 hb1 S0
  clear hb1' hX1' hb1
  refine hK.out _ _ S2 (fun hHeld=> ?_)
  clear hK K
  try simp only [Act.put,tka,tkb,tkc]
  refine wpAnyH_ready (rs:=[4]) (by kernel_rfl) (by simp) ?_
  refine AllReadyH.cons rfl (fun K hK=> ?_) AllReadyH.nil
  go_simp
  refine(HAT.out bl w1).mono ?_
  rintro _ w2 ⟨hb2,bo1,rfl,hlo1,hbo1⟩
  have H2:=Lib.hid (And.intro hb2 hbo1)
  have S3:=keepB18 hb2 S2
  unfold EL at hbo1
  obtain⟨r1,e1⟩:=A1 hbo1
  have T3:w2.cell? ⟨bo1,0,none⟩=some (Ab bl)∧w2.cell? ⟨bo1,1,none⟩=some (.pointer y0)∧w2.cell? ⟨bo1,2,none⟩=some (.pointer y1)∧w2.cell? ⟨bo1,3,none⟩=some (.pointer y2)∧w2.cell? ⟨bo1,4,none⟩=some (.pointer y3)∧w2.cell? ⟨bo1,5,none⟩=some (.pointer y4)∧w2.cell? ⟨bo1,6,none⟩=some (.bool false)∧w2.cell? ⟨bo1,7,none⟩=some (.pointer S)∧w2.cell? ⟨b11,0,none⟩=some (.pointer y0)∧w2.cell? ⟨b11,1,none⟩=some (.pointer y1)∧w2.cell? ⟨b11,2,none⟩=some (.pointer y2)∧w2.cell? ⟨b11,3,none⟩=some (.pointer y3)∧w2.cell? ⟨b11,4,none⟩=some (.pointer y4)∧w2.cell? ⟨b11,5,none⟩=some (.bool false)∧w2.cell? ⟨w.heap.size+1+1,0,none⟩=some (.int .i64 va.k)∧w2.cell? ⟨w.heap.size+1+1,1,none⟩=some (.int .i64 va.n)∧w2.cell? ⟨w.heap.size+1+1,2,none⟩=some (.float .f64 va.f)∧w2.cell? ⟨w.heap.size+1+1,3,none⟩=some (.string va.s)∧w2.cell? ⟨w.heap.size+1+1,4,none⟩=some (.slice p4 va.ks.length e4)∧w2.cell? ⟨w.heap.size+1+1,5,none⟩=some (.slice p5 va.l.length e5)∧w2.cell? ⟨w.heap.size+1+1+1,0,none⟩=some (.int .i64 vb.k)∧w2.cell? ⟨w.heap.size+1+1+1,1,none⟩=some (.int .i64 vb.n)∧w2.cell? ⟨w.heap.size+1+1+1,2,none⟩=some (.float .f64 vb.f)∧w2.cell? ⟨w.heap.size+1+1+1,3,none⟩=some (.string vb.s)∧w2.cell? ⟨w.heap.size+1+1+1,4,none⟩=some (.slice q4 vb.ks.length g4)∧w2.cell? ⟨w.heap.size+1+1+1,5,none⟩=some (.slice q5 vb.l.length g5):=⟨r1 0,r1 1,r1 2,r1 3,r1 4,r1 5,r1 6,r1 7,S3⟩
  refine hK.out _ _ S3 (fun hHeld=> ?_)
  clear hK K hHeld
  refine EK (S':=fun w'=>w'.cell? ⟨bo1,0,none⟩=some (Ab bl)∧w'.cell? ⟨bo1,1,none⟩=some (.pointer y0)∧w'.cell? ⟨bo1,2,none⟩=some (.pointer y1)∧w'.cell? ⟨bo1,3,none⟩=some (.pointer y2)∧w'.cell? ⟨bo1,4,none⟩=some (.pointer y3)∧w'.cell? ⟨bo1,5,none⟩=some (.pointer y4)∧w'.cell? ⟨bo1,6,none⟩=some (.bool false)∧w'.cell? ⟨bo1,7,none⟩=some (.pointer S)∧w'.cell? ⟨b11,0,none⟩=some (.pointer y0)∧w'.cell? ⟨b11,1,none⟩=some (.pointer y1)∧w'.cell? ⟨b11,2,none⟩=some (.pointer y2)∧w'.cell? ⟨b11,3,none⟩=some (.pointer y3)∧w'.cell? ⟨b11,4,none⟩=some (.pointer y4)∧w'.cell? ⟨b11,5,none⟩=some (.bool false)∧w'.cell? ⟨w.heap.size+1+1,0,none⟩=some (.int .i64 va.k)∧w'.cell? ⟨w.heap.size+1+1,1,none⟩=some (.int .i64 va.n)∧w'.cell? ⟨w.heap.size+1+1,2,none⟩=some (.float .f64 va.f)∧w'.cell? ⟨w.heap.size+1+1,3,none⟩=some (.string va.s)∧w'.cell? ⟨w.heap.size+1+1,4,none⟩=some (.slice p4 va.ks.length e4)∧w'.cell? ⟨w.heap.size+1+1,5,none⟩=some (.slice p5 va.l.length e5)∧w'.cell? ⟨w.heap.size+1+1+1,0,none⟩=some (.int .i64 vb.k)∧w'.cell? ⟨w.heap.size+1+1+1,1,none⟩=some (.int .i64 vb.n)∧w'.cell? ⟨w.heap.size+1+1+1,2,none⟩=some (.float .f64 vb.f)∧w'.cell? ⟨w.heap.size+1+1+1,3,none⟩=some (.string vb.s)∧w'.cell? ⟨w.heap.size+1+1+1,4,none⟩=some (.slice q4 vb.ks.length g4)∧w'.cell? ⟨w.heap.size+1+1+1,5,none⟩=some (.slice q5 vb.l.length g5)) (fun _ h=>h.2.2.2.2.2.2.2.2) _ _ _ _ ?_
  clear r1 e1 hb2 hbo1
  try simp only [Act.put,tka,tkb,tkc]
  refine tk 5 ?_
  try simp only [Act.put,tka,tkb,tkc]
  refine tk 6 ?_
  try simp only [Act.put,tka,tkb,tkc]
  refine wpAnyH_ready (rs:=[8]) (by kernel_rfl) (by simp) ?_
  refine AllReadyH.cons rfl (fun K hK=> ?_) AllReadyH.nil
  go_simp
  refine(HVB.out w2 (HIX.out.below (H1.out.1.tr H2.out.1))).mono ?_
  rintro _ w3 ⟨hb3,X3,rfl,hX3'⟩
  have hX3:RVal (At w3) (Ak vb) X3:=hX3'.mono (Imm.grow (HIX.out.below (H1.out.1.tr H2.out.1)) hb3)
  have H3:=Lib.hid (And.intro hb3 hX3)
  obtain⟨br,xr,rfl,_,_⟩:=hX3
  have T4:=keepB26 hb3 T3
  clear hb3 hX3'
  refine hK.out _ _ T4 (fun hHeld=> ?_)
  clear hK K
  try simp only [Act.put,tka,tkb,tkc]
  refine wpAnyH_ready (rs:=[11]) (by kernel_rfl) (by simp) ?_
  refine AllReadyH.cons rfl (fun K hK=> ?_) AllReadyH.nil
  go_simp
  refine(HAT.out br w3).mono ?_
  rintro _ w4 ⟨hb4,bo2,rfl,hlo2,hbo2⟩
  have H4:Hid (Bw w3 w4∧w4.heap[bo2]?=some (tvM (Ab br) ⟨y0,y1,y2,y3,y4⟩ S)):=And.intro hb4 hbo2
  have T5:=keepB26 hb4 T4
  have HP4:=Lib.hid (asis_prep HSR.out H1.out H2.out.1 H3.out H4.out.1 hta htb)
  clear hb4 hbo2
  refine hK.out _ _ T5 (fun hHeld=> ?_)
  clear hK K
  try simp only [Act.put,tka,tkb,tkc]
  refine wpAnyH_ready (rs:=[12]) (by kernel_rfl) (by simp) ?_
  refine AllReadyH.cons rfl (fun K hK=> ?_) AllReadyH.nil
  go_simp
  refine(HTQ.out bo2 bl br w4 HP4.out H4.out.2).mono ?_
  rintro _ w5 ⟨hb5,bo,X5,rfl,hbo,K5,hK5,hiK5,hX5⟩
  obtain⟨bx,xx,rfl,hcx,hjx⟩:∃b x,X5=Ab b∧A8 K5 b 0=some x∧RJ K5 (.map [key] [u]) x:=hX5
  have H5:=Lib.hid (And.intro hb5 (And.intro hiK5 (And.intro hcx hjx)))
  have T6:=keepB26 hb5 T5
  unfold tvM at hbo
  have HBO:=Lib.hid hbo
  clear hb5 hiK5 hcx hjx hK5
  refine hK.out _ _ T6 (fun hHeld=> ?_)
  clear hK K
  try simp only [Act.put,tka,tkb,tkc]
  refine tk 13 ?_
  try simp only [Act.put,tka,tkb,tkc]
  refine tk 14 ?_
  try simp only [Act.put,tka,tkb,tkc]
  refine tk 15 ?_
  try simp only [Act.put,tka,tkb,tkc]
  refine tk 16 ?_
  try simp only [Act.put,tka,tkb,tkc]
  refine tk 17 ?_
  try simp only [Act.put,tka,tkb,tkc]
  refine wpAnyH_done (by kernel_rfl) ?_ _
  clear hHeld T3 T4 T5 T6 S0 S1 S2 S3
  obtain⟨r5,e5'⟩:=A1 hbo
  have hlb5:=A0 hbo
  clear hbo
  go_wp2_with fail
  refine(tm_asValue bx ⟨y0,y1,y2,y3,y4⟩ S w5).mono ?_
  rintro _ w6 ⟨hb6,rfl⟩
  have H6:=Lib.hid hb6
  clear hb6 r5 e5'
  go_wp2_with fail
  refine(fromValue_c (.map [key] [u]) K5 bx xx w6 (H5.out.2.1.below H6.out) H5.out.2.2.1 H5.out.2.2.2).mono ?_
  rintro _ w7 ⟨hb7,m4,m5,rfl,hm⟩
  obtain⟨c4,z4,c5,z5,rfl,rfl⟩:=hm.open
  have H7:=Lib.hid (And.intro hb7 hm)
  have HB7:=Lib.hid ((((((((HZ.out.1.tr HSR.out.1).tr H1.out.1).tr H2.out.1).tr H3.out.1).tr H4.out.1).tr H5.out.1).tr H6.out).tr hb7)
  have hob:=A2 ((((((((HSR.out.1).tr H1.out.1).tr H2.out.1).tr H3.out.1).tr H4.out.1).tr H5.out.1).tr H6.out).tr hb7) HZ.out.2.2.2.2.2.2
  unfold CY at hob
  obtain⟨q,f⟩:=A1 hob
  have hlo:=A0 hob
  unfold Ar
  clear hb7 hm hob
  go_wp2_with fail
  refine bodyPost_ret (v:= .tuple #[.agg #[.int .i64 (AE (.map [key] [u])).k, .int .i64 (AE (.map [key] [u])).n, .float .f64 (AE (.map [key] [u])).f, .string (AE (.map [key] [u])).s, .slice c4 (AE (.map [key] [u])).ks.length z4, .slice c5 (AE (.map [key] [u])).l.length z5], .bool true]) (by simp [results,Tryz.results14,go_sem,q]) rfl ?_
  obtain⟨hb7,hm⟩:=H7.out
  have hsz:=HZ.out.2.1
  have hszz:=((((((HSR.out.1).tr H1.out.1).tr H2.out.1).tr H3.out.1).tr H4.out.1).tr H5.out.1).tr H6.out
  have hs6:=hszz.size
  refine⟨?_,_,_,rfl,hm.mono fun k o e=> ?_⟩
  ·have hb:=HB7.out
   repeat with_reducible (first|exact hb|refine Bw.set ?_ (by omega) _ _)
  ·unfold A6 at e
   show(World.heap _)[k]?=some o
   by_cases hk:k<w6.heap.size
   ·rw [if_pos hk]at e
    cases e
   ·rw [if_neg hk]at e
    have hk1:¬k=w.heap.size+1+1+1+1:=by omega
    repeat rw [Ag _ _ _ _ _ hk1]
    exact e
end
end Go.Proofs.YtmghkmhgpmcoaaaGreat
