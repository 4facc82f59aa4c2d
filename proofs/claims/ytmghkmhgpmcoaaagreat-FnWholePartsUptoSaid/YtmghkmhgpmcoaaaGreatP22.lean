/- What the claim's theorem 'proved' rests on: TmZip, TmWhole, TmVisit, TmRoot, TmTop, FpIns, TcLeaf, TcScal. -/
import Derived.Deep.AppendSrc
import Derived.Test.YtmghkmhgpmcoaaaGreatP23
set_option linter.unusedVariables false
set_option linter.unusedSimpArgs false
set_option maxRecDepth 100000
set_option maxHeartbeats 10000000
namespace Go.Proofs.YtmghkmhgpmcoaaaGreat
section
open Go Go.RowKit Go.MapKept
def ChildM (H:Hp)(r:As)(t u:JT)(m:MW):Prop:=∀(K:Hp) (bl br:Nat) (x yv:Value) (w1:World) (w2b:Nat) (m2:MW) (y:Six),Hle H K→Imm K w1→A8 K bl 0=some x→A8 K br 0=some yv→RJ H t x→RJ H u yv→BM Ak K r y→K w2b=none→m2.L=Ab bl→m2.R=Ab br→m2.S=m.S→m2.y=y→m2.leaf=m.leaf→m2.ha=m.ha→w1.heap[w2b]?=some m2.obj→
 Calls Tryz.prog 90 #[.pointer (some ⟨w2b,0,none⟩), .nilFunc] w1 (fun e w'=>e= .returned (.slice none 0 0)∧∃wx wy,Bw w1 wx∧TmOut wx w2b {m2 with leaf:=true} yv wy∧Bw wy w')
theorem OneF.mono {H K:Hp}(hk:Hle H K){bt:Nat}{key:ByteArray}{r:As}(h:OneF H bt key r):OneF K bt key r:=by
 obtain⟨⟨xf,h1,h2⟩,ye,h3⟩:=h
 exact⟨⟨xf,A7 hk h1,h2.mono fun _ g=>g.mono hk⟩,ye,h3.mono hk⟩
def two (H:Hp)(bl br:Nat)(w:World):Hp:=fun k=>if k=bl∨k=br then w.heap[k]? else H k
theorem two_le {H:Hp}{bl br:Nat}{w:World}(hi:Imm H w):Hle H (two H bl br w):=by
 intro k o e;unfold two;split
 ·exact hi k o e
 ·exact e
theorem two_imm {H:Hp}{bl br:Nat}{w:World}(hi:Imm H w):Imm (two H bl br w) w:=by
 intro k o e;unfold two at e;split at e
 ·exact e
 ·exact hi k o e
theorem two_cell {H:Hp}{bl br k:Nat}{w:World}{x:Value}{T:Nat}(hk:k=bl∨k=br)(hx:w.heap[k]?=some (.cells #[x] T)):A8 (two H bl br w) k 0=some x:=by
 unfold A8 two;rw [if_pos hk,hx];rfl
def TmInv (H:Hp)(m:MW)(wb bt ob be bw bT bo:Nat)(key:ByteArray)(u:JT)(L:List Nat)(K:Hp):Prop:=
 (∃m':MW,(L=[]→m'=m)∧(∃pa pn pc sp,m'={m with pa:=pa,pn:=pn,pc:=pc,spare:=sp})∧K wb=some m'.obj)∧
 K be=some (.cells #[.slice none 0 0] 194)∧K bw=some (.cells #[.pointer (some ⟨wb,0,none⟩)] 196)∧K bT=some (.cells #[.pointer (some ⟨bt,0,none⟩)] 78)∧K bo=some (.cells #[.map (some ob)] 190)∧
 ∃es ck,K ob=some (.map es ck)∧∀w:World,w.heap[ob]?=some (.map es ck)→AZ H w ob (if L=[]then []else [key]) (if L=[]then []else [u]) es ck
theorem TmInv.mono {H:Hp}{m:MW}{wb bt ob be bw bT bo:Nat}{key:ByteArray}{u:JT}(L:List Nat)(K K':Hp)(hk:Hle K K')(h:TmInv H m wb bt ob be bw bT bo key u L K):TmInv H m wb bt ob be bw bT bo key u L K':=by
 obtain⟨⟨m',a,b,c⟩,d,e,f,g,es,ck,i,j⟩:=h
 exact⟨⟨m',a,b,hk _ _ c⟩,hk _ _ d,hk _ _ e,hk _ _ f,hk _ _ g,es,ck,hk _ _ i,j⟩
theorem tm_zipFn (m:MW)(wb bt ob be bw bT bo b1 b2:Nat)(key:ByteArray)(r:As)(t u:JT)(H:Hp)(w:World)(hL:m.L=Ab b1)(hR:m.R=Ab b2)(hsp:m.spare=none)(hpa:m.pa=none)(hpn:m.pn=0)(hpc:m.pc=0)(hi:Imm H w)(hks:key.size≤lim)(ht:OneF H bt key r)
  (hX:∀k,(k=wb∨k=ob∨k=be)→H k=none) (hlt:∀k,(k=wb∨k=ob∨k=be∨k=bw∨k=bT∨k=bo)→k<w.heap.size) (hwo:wb≠ob) (n1:¬bw=be) (n2:¬bT=be) (n3:¬bo=be) (hw:∀k,(k=be∨k=bw∨k=bT∨k=bo)→¬k=wb∧¬k=ob) (hM:ChildM H r t u m):
  ZipFn H 292 #[.pointer (some ⟨be,0,none⟩), .pointer (some ⟨bw,0,none⟩), .pointer (some ⟨bT,0,none⟩), .pointer (some ⟨bo,0,none⟩)] (fun k=>k=wb∨k=ob∨k=be) (TmInv H m wb bt ob be bw bT bo key u) [key] [t] [key] [u] w:=by
 intro L j hj j2 hj2 k n w1 bL bR x y hk hk2 hfr hn hn2 hbL hbR hne hbx hby hx hy hinv hnd hlL hjL
 obtain rfl:j=0:=by simpa using hj
 obtain rfl:j2=0:=by simpa using hj2
 obtain rfl:k=key:=by simpa using hk.symm
 have hL0:L=[]:=by
  cases L with
  |nil=>rfl
  |cons a l=>have h1:=hlL a (by simp);simp at h1;subst h1;simp at hjL
 subst hL0
 obtain⟨⟨m',hm1,_,hmo⟩,he,hw_,ht_,ho_,es,ck,hob,hown⟩:=hinv
 have hmm:m'=m:=hm1 rfl
 rw [hmm]at hmo
 have hi1:Imm H w1:=hfr.imm hi hX
 have hbb:FnBoxes w1 be bw bT bo wb bt ob:=⟨Be he,Be hw_,Be ht_,Be ho_⟩
 have hown1:=hown w1 (Be hob)
 simp only [if_true]at hown1
 have hlb:=hlt wb (.inl rfl)
 have hlo:=hlt ob (.inr (.inl rfl))
 refine(tm_itemFn m wb bt ob bL bR be bw bT bo k u H w1 hbb n1 n2 n3 hw ?_).mono ?_
 ·intro wq hbq
  have hiq:=hi1.below hbq
  have hK:=two_le (bl:=bL) (br:=bR) hiq
  have hnone:∀c,H c=none→c<w.heap.size→two H bL bR wq c=none:=fun c hc hl=>by unfold two;rw [if_neg (by omega)];exact hc
  refine tm_item m wb bt ob bL bR b1 b2 k r u y (two H bL bR wq) H wq hL hR hsp hpa hpn hpc (two_imm hiq) (hnone _ (hX _ (.inl rfl)) hlb) (hnone _ (hX _ (.inr (.inl rfl))) hlo) hwo hks (ht.mono hK) (A2 hbq (Be hmo)) es ck (hown1.mono (Hle.refl _) (A2 hbq hown1.at_|>.trans hown1.at_.symm)) hy ?_
  intro w3 w2b m2 yy hq3 hi3 hn3 e1 e2 e3 e4 e5 e6 hb3
  exact hM (two H bL bR wq) bL bR x y w3 w2b m2 yy hK hi3 (two_cell (.inl rfl) (A2 hbq hbx)) (two_cell (.inr rfl) (A2 hbq hby)) hx hy hq3 hn3 e1 e2 e3 e4 e5 e6 hb3
 ·rintro e w2 ⟨rfl,hfr2,hb2,⟨pa,pn,pc,sp,hmb⟩,es2,ck2,hown2⟩
  have hs1:=hfr.size
  have hin:∀c o,c<w.heap.size→w2.heap[c]?=some o→CS n w2 c=some o:=fun c o hc ho=>mask_in ho (by omega) (by omega)
  refine⟨rfl,⟨hfr2.os,hfr2.tape,hfr2.output,hfr2.size,fun c hc hx2=>hfr2.block c (by omega) hx2⟩,⟨_,fun h=>by simp at h,⟨pa,pn,pc,sp,rfl⟩,hin _ _ hlb hmb⟩,hin _ _ (hlt _ (.inr (.inr (.inl rfl)))) hb2.e,hin _ _ (hlt _ (.inr (.inr (.inr (.inl rfl))))) hb2.w_,hin _ _ (hlt _ (.inr (.inr (.inr (.inr (.inl rfl)))))) hb2.t_,hin _ _ (hlt _ (.inr (.inr (.inr (.inr (.inr rfl)))))) hb2.o_,es2,ck2,hin _ _ hlo hown2.at_,fun w' hw'=> ?_⟩
  simp only [List.nil_append,List.cons_ne_nil,if_false]
  exact hown2.mono (Hle.refl _) (hw'.trans hown2.at_.symm)
end
section
open Go Go.RowKit Go.MapKept
inductive Ck:Ap→JT→Prop
 |sc (sc:ByteArray) (t:JT):sc.toList.isEmpty=false→fitsJ sc t=true→Ck ⟨sc,[],[]⟩ t
 |li (sc:ByteArray) (e:As) (rel:ByteArray) (keys:List ByteArray) (r:List B3) (l:List JT):sc.toList.isEmpty=true→(rel.toList==An)=true→0<l.length→Ck ⟨sc,⟨e,rel,keys⟩::r,[]⟩ (.list l)
 |ma (sc:ByteArray) (fs:List Au) (e:As) (rel:ByteArray) (r:List Bp) (ks:List ByteArray) (vs:List JT):sc.toList.isEmpty=true→(rel.toList==An)=true→0<ks.length→Ck ⟨sc,[],⟨fs,e,rel⟩::r⟩ (.map ks vs)
theorem fitsJ_sc {sc:ByteArray}{t:JT}(h:fitsJ sc t=true):t.isSc=true:=by
 unfold fitsJ at h;unfold JT.isSc
 split at h
 ·simp only [Bool.or_eq_true]at h;rcases h with h|h<;>simp [h]
 split at h
 ·simp [h]
 split at h
 ·simp [h]
 split at h
 ·unfold JT.isSc at h;exact h
 ·cases h
theorem RJ.listA {H:Hp}{l:List JT}{x:Value}(h:RJ H (.list l) x):∃a c,x= .iface 189 (.slice a l.length c):=by
 simp only [RJ]at h;obtain⟨a,c,e,_⟩:=h;exact⟨a,c,e⟩
def Dk (H:Hp)(b:Nat):Hp:=fun k=>if k=b then none else H k
theorem dropB_imm {H:Hp}{b:Nat}{w:World}(h:Imm H w):Imm (Dk H b) w:=by
 intro k o e;unfold Dk at e;split at e
 ·cases e
 ·exact h _ _ e
theorem dropB_le {H K:Hp}{b:Nat}(hk:Hle H K)(hn:H b=none):Hle H (Dk K b):=by
 intro k o e;unfold Dk;rw [if_neg (fun h=>by subst h;rw [hn]at e;cases e)];exact hk _ _ e
theorem DG {H:Hp}{b k i:Nat}{v:Value}(hk:¬k=b)(h:A8 H k i=some v):A8 (Dk H b) k i=some v:=by
 unfold A8 Dk at *;rw [if_neg hk];exact h
theorem dropB_none {H:Hp}{b:Nat}:Dk H b b=none:=by unfold Dk;simp
theorem MW.far {m:MW}{H:Hp}{w:World}{wb b i:Nat}{s:ByteArray}(hi:Imm H w)(hL:∃b1,m.L=Ab b1)(hb:w.heap[wb]?=some m.obj)(hc:A8 H b i=some (.string s))(hii:i=0∨i=6∨i=8):¬b=wb:=by
 rintro rfl
 obtain⟨b1,hL⟩:=hL
 unfold MW.obj at hb
 have h:=hi.cell hc
 have q:=(A1 hb).1
 rcases hii with rfl|rfl|rfl
 ·have:=q 0;rw [h]at this;simp [hL]at this
 ·have:=q 6;rw [h]at this;simp at this
 ·have:=q 8;rw [h]at this;simp at this
theorem tm_leaf (s:List Ax)(r:As)(a:Ap)(t u:JT)(hres:Av s r=some a)(hnn:Bf a=true)(h1:Ck a t)(h2:Ck a u)(m:MW)(hleaf:m.leaf=false)(H:Hp)(hS:AO Ak H s (.pointer m.S)):ChildM H r t u m:=by
 intro K bl br x yv w1 wb m2 y hHK hiK cx cy hx hy hr hn e1 e2 e3 e4 e5 e6 hb
 subst e4
 refine(tm_merge m2 s r a bl br wb e1 e2 hres hnn K w1 hiK (by rw [e3];exact hS.mono hHK) hr hb ?_ ?_ (fun wa wd=>∃wc,Bw wa wc∧TmOut wc wb {m2 with leaf:=true} yv wd) ?_ ?_).mono ?_
 ·intro K2 w2 p1 p2 p3 hi2 hk2 hq
  have hx2:=(hx.mono hHK).mono hk2
  have cx2:=A7 hk2 cx
  cases h1 with
  |sc sc t he hf=>
   simp only [AI,QLi,QMa,Bk,he]at hq
   obtain⟨⟨b,rfl,_⟩,rfl,rfl⟩:=hq
   exact DP t (fitsJ_sc hf) K2 bl x _ w2 hi2 cx2 hx2
  |li sc e rel keys r l he hf hl=>
   simp only [AI,QLi,QMa,Bk,he,if_true]at hq
   obtain⟨rfl,⟨b,_,_,rfl,_⟩,rfl⟩:=hq
   exact DQ (.list l) rfl K2 bl x _ w2 hi2 cx2 hx2
  |ma sc fs e rel r ks vs he hf hl=>
   simp only [AI,QLi,QMa,Bk,he,if_true]at hq
   obtain⟨rfl,rfl,b,_,_,rfl,_⟩:=hq
   exact C9 (.map ks vs) rfl K2 bl x _ w2 hi2 cx2 hx2
 ·intro K2 w2 p1 p2 p3 hi2 hk2 hq
  have hx2:=(hy.mono hHK).mono hk2
  have cx2:=A7 hk2 cy
  cases h2 with
  |sc sc t he hf=>
   simp only [AI,QLi,QMa,Bk,he]at hq
   obtain⟨⟨b,rfl,_⟩,rfl,rfl⟩:=hq
   exact DP u (fitsJ_sc hf) K2 br yv _ w2 hi2 cx2 hx2
  |li sc e rel keys r l he hf hl=>
   simp only [AI,QLi,QMa,Bk,he,if_true]at hq
   obtain⟨rfl,⟨b,_,_,rfl,_⟩,rfl⟩:=hq
   exact DQ (.list l) rfl K2 br yv _ w2 hi2 cx2 hx2
  |ma sc fs e rel r ks vs he hf hl=>
   simp only [AI,QLi,QMa,Bk,he,if_true]at hq
   obtain⟨rfl,rfl,b,_,_,rfl,_⟩:=hq
   exact C9 (.map ks vs) rfl K2 br yv _ w2 hi2 cx2 hx2
 ·intro K2 w2 p1 p2 p3 hb2 hi2 hk2 _ hq
  have hk3:Hle K (Dk K2 wb):=dropB_le hk2 hn
  have hi3:Imm (Dk K2 wb) w2:=dropB_imm hi2
  have hx2:=(hx.mono hHK).mono hk3
  have hy2:=(hy.mono hHK).mono hk3
  have cx2:=A7 hk3 cx
  have cy2:=A7 hk3 cy
  have hbb:=A2 hb2 hb
  have hlf:m2.leaf=false:=e5.trans hleaf
  have hd:=fun w0 h0 hb0=>tm_doLeaf m2 br wb e2 hlf (Dk K2 wb) yv w0 h0 dropB_none cy2 hy2.isAny hb0
  have q:=(A1 (show w2.heap[wb]?=some (.cells _ _) from hbb)).1
  cases h1 with
  |sc sc t he hf=>
   cases h2 with
   |sc _ _ _ hf2=>
   simp only [AI,QLi,QMa,Bk,he]at hq
   obtain⟨⟨b,rfl,hcs,_⟩,rfl,rfl⟩:=hq
   exact Em _ ⟨wb,0,none⟩ m2.y w2 (fun wa wd=>TmOut wa wb {m2 with leaf:=true} yv wd) (fun w3 hb3=>tm_doScalar m2 sc t u b bl br wb e1 e2 hlf hf hf2 (Dk K2 wb) x yv w3 (hi3.below hb3) dropB_none (DG (MW.far hi2 ⟨_,e1⟩ hbb hcs (by simp)) hcs) cx2 cy2 hx2 hy2 (A2 hb3 hbb))
  |li sc e rel keys r l he hf hl=>
   cases h2 with
   |li _ _ _ _ _ l2 _ _ hl2=>
   simp only [AI,QLi,QMa,Bk,he,if_true]at hq
   obtain⟨rfl,⟨b,_,_,rfl,_,hcr,_⟩,rfl⟩:=hq
   obtain⟨a1,c1,rfl⟩:=hx2.listA
   obtain⟨a2,c2,rfl⟩:=hy2.listA
   refine(EM _ ⟨wb,0,none⟩ m2.y w2 (fun wa wd=>∃wc,Bw wa wc∧TmOut wc wb {m2 with leaf:=true} _ wd) (fun w3 hb3=>typedmerge_doListA l l2 hl (Dk K2 wb) bl br wb b m2.ha a1 a2 c1 c2 rel hf w3 (fun wa wd=>TmOut wa wb {m2 with leaf:=true} _ wd) (hi3.below hb3) cx2 hx2 cy2 hy2 (DG (MW.far hi2 ⟨_,e1⟩ hbb hcr (by simp)) hcr)
    (by have:=(A1 (show w3.heap[wb]?=some (.cells _ _) from A2 hb3 hbb)).1 0;simpa [e1]using this) (by have:=(A1 (show w3.heap[wb]?=some (.cells _ _) from A2 hb3 hbb)).1 1;simpa [e2]using this) (by have:=(A1 (show w3.heap[wb]?=some (.cells _ _) from A2 hb3 hbb)).1 15;simpa using this)
    (fun w4 hb4=>hd w4 ((hi3.below hb3).below hb4) (A2 hb4 (A2 hb3 hbb))))).mono ?_
   rintro _ w5 ⟨rfl,wq,g1,wr,g2,g3⟩
   exact⟨rfl,wr,Bw.tr g1 g2,g3⟩
  |ma sc fs e rel r ks vs he hf hl=>
   cases h2 with
   |ma _ _ _ _ _ ks2 vs2 _ _ hl2=>
   simp only [AI,QLi,QMa,Bk,he,if_true]at hq
   obtain⟨rfl,rfl,b,_,_,rfl,_,_,_,hcr,_⟩:=hq
   obtain⟨a1,_,_,rfl,_⟩:=hx2.mapAt
   obtain⟨a2,_,_,rfl,_⟩:=hy2.mapAt
   refine(Dc _ ⟨wb,0,none⟩ m2.y w2 (fun wa wd=>∃wc,Bw wa wc∧TmOut wc wb {m2 with leaf:=true} _ wd) (fun w3 hb3=>typedmerge_doMapA ks ks2 vs vs2 hl (Dk K2 wb) bl br wb b m2.ha a1 a2 rel hf w3 (fun wa wd=>TmOut wa wb {m2 with leaf:=true} _ wd) (hi3.below hb3) cx2 hx2 cy2 hy2 (DG (MW.far hi2 ⟨_,e1⟩ hbb hcr (by simp)) hcr)
    (by have:=(A1 (show w3.heap[wb]?=some (.cells _ _) from A2 hb3 hbb)).1 0;simpa [e1]using this) (by have:=(A1 (show w3.heap[wb]?=some (.cells _ _) from A2 hb3 hbb)).1 1;simpa [e2]using this) (by have:=(A1 (show w3.heap[wb]?=some (.cells _ _) from A2 hb3 hbb)).1 15;simpa using this)
    (fun w4 hb4=>hd w4 ((hi3.below hb3).below hb4) (A2 hb4 (A2 hb3 hbb))))).mono ?_
   rintro _ w5 ⟨rfl,wq,g1,wr,g2,g3⟩
   exact⟨rfl,wr,Bw.tr g1 g2,g3⟩
 ·rintro w2 w3 hb2 ⟨wc,g1,hfr,ob,hob,g2,g3⟩
  refine⟨⟨_,g3,rfl⟩,fun k hk hk2=> ?_⟩
  have hlt:=A0 hb
  rw [hfr.block k (Nat.lt_of_lt_of_le hk2 g1.size) (by omega)]
  exact g1.block k hk2
 ·rintro _ w4 ⟨rfl,w2,w3,hb2,⟨wc,g1,g2⟩,hb4⟩
  exact⟨rfl,wc,w3,Bw.tr hb2 g1,g2,hb4⟩
end
section
open Go Go.RowKit Go.MapKept
theorem b5m_0 {w:World}{a b c d e:Obj}:(((((w.alloc a).alloc b).alloc c).alloc d).alloc e).heap.size=w.heap.size+5:=by simp
def VisitOut (m:MW)(wb:Nat)(key:ByteArray)(u:JT)(H:Hp)(w:World):Ending→World→Prop:=fun e w'=>e= .returned (.slice none 0 0)∧Fr (fun k=>k=wb) w.heap.size w w'∧
 ∃ox ob pa pn pc sp,w.heap.size≤ox∧w.heap.size≤ob∧w'.heap[wb]?=some ({m with out:=some ⟨ox,0,none⟩,pa:=pa,pn:=pn,pc:=pc,spare:=sp}:MW).obj∧w'.heap[ox]?=some (.cells #[.iface 190 (.map (some ob))] 20)∧∃es ck,AZ H w' ob [key] [u] es ck
theorem tm_visit (m:MW)(wb bt b1 b2 r1 r2:Nat)(key:ByteArray)(r:As)(t u:JT)(H:Hp)(w:World)(hL:m.L=Ab b1)(hR:m.R=Ab b2)(hsp:m.spare=none)(hpa:m.pa=none)(hpn:m.pn=0)(hpc:m.pc=0)(hi:Imm H w)(hHw:H wb=none)(hks:key.size≤lim)(ht:OneF H bt key r)(hb:w.heap[wb]?=some m.obj)
  (es1 es2:Array MapEntry) (ck1 ck2:Nat) (hm1:Cw H r1 [key] [t] es1 ck1) (hm2:Cw H r2 [key] [u] es2 ck2) (hM:ChildM H r t u m):
  Calls Tryz.prog 284 #[.pointer (some ⟨wb,0,none⟩), .pointer (some ⟨bt,0,none⟩), .iface 446 (.map (some r1)), .iface 446 (.map (some r2))] w (VisitOut m wb key u H w):=by
 have hlt:=A0 hb
 obtain⟨wz,hwz⟩:∃wz,wz=((((w.alloc (.cells #[.pointer (some ⟨wb,0,none⟩)] 196)).alloc (.cells #[.pointer (some ⟨bt,0,none⟩)] 78)).alloc (.cells #[.slice none 0 0] 194)).alloc (.map #[] 0)).alloc (.cells #[.map (some (w.heap.size+1+1+1))] 190):=⟨_,rfl⟩
 have HZ:Hid (Bw w wz∧wz.heap.size=w.heap.size+5∧FnBoxes wz (w.heap.size+1+1) w.heap.size (w.heap.size+1) (w.heap.size+1+1+1+1) wb bt (w.heap.size+1+1+1)∧wz.heap[w.heap.size+1+1+1]?=some (.map #[] 0)):=by
  subst hwz;exact⟨(Co.al _).al _,by simp,⟨b5_2,b5_0,b5_1,b5_4⟩,b5_3⟩
 have hnone:∀k,w.heap.size≤k→H k=none:=fun k hk=>by
  cases hh:H k with
  |none=>rfl
  |some o=>have:=A0 (hi _ _ hh);omega
 have hX:∀k,(k=wb∨k=w.heap.size+1+1+1∨k=w.heap.size+1+1)→H k=none:=by
  rintro k (rfl|rfl|rfl)
  ·exact hHw
  ·exact hnone _ (by omega)
  ·exact hnone _ (by omega)
 have hlts:∀k,(k=wb∨k=w.heap.size+1+1+1∨k=w.heap.size+1+1∨k=w.heap.size∨k=w.heap.size+1∨k=w.heap.size+1+1+1+1)→k<wz.heap.size:=by
  intro k hk;rw [HZ.out.2.1];omega
 have HC:=Lib.hid (mapZip_c (H:=H) (r1:=r1) (r2:=r2) (ks1:=[key]) (ks2:=[key]) (vs1:=[t]) (vs2:=[u]) (w:=wz) (X:=fun k=>k=wb∨k=w.heap.size+1+1+1∨k=w.heap.size+1+1) (Inv:=TmInv H m wb bt (w.heap.size+1+1+1) (w.heap.size+1+1) w.heap.size (w.heap.size+1) (w.heap.size+1+1+1+1) key u)
  ⟨⟨_,_,hm1⟩,⟨_,_,hm2⟩,by simp,fun k hk=>hk,fun k hk=>hk,enters_of Tryz.func292 (by kernel_rfl) rfl,TmInv.mono,hi.below HZ.out.1,fun k hk=>⟨hlts k (by rcases hk with h|h|h<;>simp [h]),hX k hk⟩,
   ⟨⟨m,fun _=>rfl,⟨m.pa,m.pn,m.pc,m.spare,rfl⟩,A2 HZ.out.1 hb⟩,HZ.out.2.2.1.e,HZ.out.2.2.1.w_,HZ.out.2.2.1.t_,HZ.out.2.2.1.o_, #[],0,HZ.out.2.2.2,fun w' hw'=>⟨hw',rfl,rfl,List.nodup_nil,stamped_empty 0,by simp only [if_true,DI]⟩⟩,
   tm_zipFn m wb bt _ _ _ _ _ b1 b2 key r t u H wz hL hR hsp hpa hpn hpc (hi.below HZ.out.1) hks ht hX hlts (by omega) (by omega) (by omega) (by omega) (by intro k hk;omega) hM⟩ m.ha)
 have HWZ:=Lib.hid hwz.symm
 have HB:=Lib.hid hb
 unfold MW.obj at hb
 have k15:=(A1 hb).1 15
 have hmf:∀(fn:Fn) (first cap:Array Value) (w:World),(Instr.makeFunc fn first cap).run Tryz.prog w= .ok (.func fn first cap) w:=fun _ _ _ _=>rfl
 have v1:wb<w.heap.size+1:=by omega
 have v2:wb<w.heap.size+1+1:=by omega
 have v3:wb<w.heap.size+1+1+1:=by omega
 have v4:wb<w.heap.size+1+1+1+1:=by omega
 have hmm:= @run_makeMap Tryz.prog
 clear hwz hnone hX hlts hb hm1 hm2 hM ht hi
 go_enter Tryz.func284,Tryz.ntmps284
 go_wp2_with fail
 rw [HWZ.out]
 refine HC.out.mono ?_
 rintro _ w1 ⟨rfl,hfr,L,hnd,hL1,hinv⟩
 have hL0:¬L=[]:=by
  intro e;subst e
  have:=(hL1 0).2 (by simp)
  simp at this
 obtain⟨⟨m',_,⟨pa',pn',pc',sp',hm'⟩,hmo⟩,he,hw_,ht_,ho_,es,ck,hob,hown⟩:=hinv
 have hown1:=hown w1 hob
 simp only [if_neg hL0]at hown1
 subst hm'
 have HI:=Lib.hid (And.intro hfr (And.intro hmo (And.intro he hown1)))
 have hsz:es.size=1:=by have:=hown1.size;simpa using this
 have hlen:=run_len_j (w:=w1) (r:=w.heap.size+1+1+1) hob
 rw [hsz]at hlen
 have hlt1:wb<w1.heap.size:=A0 hmo
 have hle1:w.heap.size+1+1<w1.heap.size:=A0 he
 obtain⟨qw,fw⟩:=A1 (show w1.heap[w.heap.size]?=_ from hw_)
 obtain⟨qo,fo⟩:=A1 (show w1.heap[w.heap.size+1+1+1+1]?=_ from ho_)
 have hmo2:w1.heap[wb]?=_:=hmo
 unfold MW.obj at hmo2
 obtain⟨qm,fm⟩:=A1 hmo2
 have hlo:w.heap.size+1+1+1+1<w1.heap.size:=A0 ho_
 have hlw:w.heap.size<w1.heap.size:=A0 hw_
 have v5:wb<w1.heap.size+1:=by omega
 clear hfr hown hown1 hmo2 hmo he hw_ ht_ ho_ hob hnd hL1 hsz HC hmm k15
 go_upto_region 6 with(fail)
 obtain⟨ws,hws⟩:∃ws,ws=w1.setCell ⟨wb,12,none⟩ (.pointer (some ⟨w1.heap.size,0,none⟩)):=⟨_,rfl⟩
 have HS:Hid (Az w1 ws wb∧ws.heap[wb]?=some ({m with out:=some ⟨w1.heap.size,0,none⟩,pa:=pa',pn:=pn',pc:=pc',spare:=sp'}:MW).obj):=by
  subst hws
  refine⟨(Az.refl w1 wb).set _ _, ?_⟩
  have h2:=HI.out.2.1
  unfold MW.obj at h2⊢
  simpa using Ac h2 12 (.pointer (some ⟨w1.heap.size,0,none⟩))
 rw [←hws]
 obtain⟨wy,hwy⟩:∃wy,wy=ws.alloc (.cells #[.iface 190 (.map (some (w.heap.size+1+1+1)))] 20):=⟨_,rfl⟩
 have HY:Hid (Bw ws wy∧wy.heap[w1.heap.size]?=some (.cells #[.iface 190 (.map (some (w.heap.size+1+1+1)))] 20)∧wy.heap[w.heap.size+1+1]?=some (.cells #[.slice none 0 0] 194)∧wy.heap.size=w1.heap.size+1):=by
  have hsz:=HS.out.1.size
  subst hwy
  refine⟨A5,by rw [←hsz];exact A4,A3 ?_,by simp [hsz]⟩
  rw [HS.out.1.block _ (by omega)];exact HI.out.2.2.1
 rw [←hwy]
 clear hws hwy qw fw qo fo qm fm hlen
 obtain⟨q,f⟩:=A1 HY.out.2.2.1
 have hly:=A0 HY.out.2.2.1
 go_wp2_with fail
 refine bodyPost_ret (v:= .slice none 0 0) (by simp [results,Tryz.results284,go_sem,q]) rfl ?_
 obtain⟨hfr,hmo,he,hown⟩:=HI.out
 obtain⟨hz1,hz2,_,_⟩:=HZ.out
 obtain⟨t1,hs1⟩:=HS.out
 obtain⟨hy1,hy2,hy3,hy4⟩:=HY.out
 have t2:Az wy (wy.setCell ⟨w.heap.size+1+1,0,none⟩ (.slice none 0 0)) (w.heap.size+1+1):=(Az.refl wy _).set _ _
 have hsz1:=hfr.size
 have hss:=t1.size
 refine⟨rfl,⟨t2.os.trans (hy1.os.trans (t1.os.trans (hfr.os.trans hz1.os))),t2.tape.trans (hy1.tape.trans (t1.tape.trans (hfr.tape.trans hz1.tape))),t2.output.trans (hy1.output.trans (t1.output.trans (hfr.output.trans hz1.output))),by rw [t2.size];omega,fun k hk hx=> ?_⟩,w1.heap.size,w.heap.size+1+1+1,pa',pn',pc',sp',by omega,by omega, ?_, ?_,es,ck, ?_⟩
 ·rw [t2.block k (by omega),hy1.block k (by omega),t1.block k hx,hfr.block k (by omega) (by simp only [not_or];exact⟨hx,by omega,by omega⟩)]
  exact hz1.block k hk
 ·rw [t2.block wb (by omega)];exact A2 hy1 hs1
 ·rw [t2.block _ (by omega)];exact hy2
 ·refine hown.mono (Hle.refl _) ?_
  rw [t2.block _ (by omega),hy1.block _ (by have:=A0 hown.at_;omega),t1.block _ (by omega)]
end
section
open Go Go.RowKit Go.MapKept
def TmRoot (m:MW)(wb:Nat)(key:ByteArray)(u:JT)(H:Hp)(w w':World):Prop:=Fr (fun k=>k=wb) w.heap.size w w'∧
 ∃ox ob pa pn pc sp es ck K,w'.heap[wb]?=some ({m with out:=some ⟨ox,0,none⟩,pa:=pa,pn:=pn,pc:=pc,spare:=sp}:MW).obj∧w'.heap[ox]?=some (.cells #[.iface 190 (.map (some ob))] 20)∧Hle H K∧Imm K w'∧AZ K w' ob [key] [u] es ck
theorem tm_root (m:MW)(s:List Ax)(rr:As)(sc:ByteArray)(key:ByteArray)(r fe:As)(rel:ByteArray)(rest:List Bp)(a:Ap)(t u:JT)(hres:Av s rr=some ⟨sc,[],⟨[⟨key,r,[]⟩],fe,rel⟩::rest⟩)(hrel:(rel.toList==An)=false)(hsc:sc.toList.isEmpty=true)(hnr:Bf ⟨sc,[],⟨[⟨key,r,[]⟩],fe,rel⟩::rest⟩=true)
  (hrec:Av s r=some a) (hnn:Bf a=true) (h1:Ck a t) (h2:Ck a u) (hks:key.size≤lim) (bl br wb:Nat) (hL:m.L=Ab bl) (hR:m.R=Ab br) (hleaf:m.leaf=false) (hsp:m.spare=none) (hpa:m.pa=none) (hpn:m.pn=0) (hpc:m.pc=0)
  (H:Hp) (w:World) (hi:Imm H w) (hS:AO Ak H s (.pointer m.S)) (hr:BM Ak H rr m.y) (x y:Value) (cx:A8 H bl 0=some x) (cy:A8 H br 0=some y) (hx:RJ H (.map [key] [t]) x) (hy:RJ H (.map [key] [u]) y) (hHw:H wb=none) (hb:w.heap[wb]?=some m.obj):
  Calls Tryz.prog 90 #[.pointer (some ⟨wb,0,none⟩), .nilFunc] w (fun e w'=>e= .returned (.slice none 0 0)∧TmRoot m wb key u H w w'):=by
 have hlt:=A0 hb
 refine(tm_merge m s rr ⟨sc,[],⟨[⟨key,r,[]⟩],fe,rel⟩::rest⟩ bl br wb hL hR hres hnr H w hi hS hr hb ?_ ?_ (fun wa wd=>∃wc K,Bw wa wc∧Imm K wc∧Hle H K∧K wb=none∧VisitOut m wb key u K wc (.returned (.slice none 0 0)) wd) ?_ ?_).mono ?_
 ·intro K2 w2 p1 p2 p3 hi2 hk2 hq
  simp only [AI,QLi,QMa,Bk,hsc,if_true]at hq
  obtain⟨rfl,rfl,b,_,_,rfl,_⟩:=hq
  exact C9 (.map [key] [t]) rfl K2 bl x _ w2 hi2 (A7 hk2 cx) (hx.mono hk2)
 ·intro K2 w2 p1 p2 p3 hi2 hk2 hq
  simp only [AI,QLi,QMa,Bk,hsc,if_true]at hq
  obtain⟨rfl,rfl,b,_,_,rfl,_⟩:=hq
  exact C9 (.map [key] [u]) rfl K2 br y _ w2 hi2 (A7 hk2 cy) (hy.mono hk2)
 ·intro K2 w2 p1 p2 p3 hb2 hi2 hk2 hkk hq
  have hKw:K2 wb=none:=by rw [hkk wb hlt];exact hHw
  have hbb:=A2 hb2 hb
  simp only [AI,QLi,QMa,Bk,hsc,if_true]at hq
  obtain⟨rfl,rfl,b,xf,ye,rfl,hc0,_,hcq,hcr,_,hsl,_⟩:=hq
  have hx2:=hx.mono hk2
  have hy2:=hy.mono hk2
  have cx2:=A7 hk2 cx
  have cy2:=A7 hk2 cy
  obtain⟨r1,es1,ck1,rfl,hm1⟩:=hx2.mapAt
  obtain⟨r2,es2,ck2,rfl,hm2⟩:=hy2.mapAt
  have hone:OneF K2 b key r:=⟨⟨xf,hc0,hsl⟩,ye,hcq⟩
  refine(Dc _ ⟨wb,0,none⟩ m.y w2 (fun wa wd=>∃wc,Bw wa wc∧VisitOut m wb key u K2 wc (.returned (.slice none 0 0)) wd) (fun w3 hb3=>typedmerge_doMapR [key] [key] [t] [u] (by simp) K2 bl br wb b m.ha r1 r2 rel hrel w3 (fun wa wd=>VisitOut m wb key u K2 wa (.returned (.slice none 0 0)) wd) (hi2.below hb3) cx2 hx2 cy2 hy2 hcr
    (by have:=(A1 (show w3.heap[wb]?=some (.cells _ _) from A2 hb3 hbb)).1 0;simpa [hL]using this) (by have:=(A1 (show w3.heap[wb]?=some (.cells _ _) from A2 hb3 hbb)).1 1;simpa [hR]using this) (by have:=(A1 (show w3.heap[wb]?=some (.cells _ _) from A2 hb3 hbb)).1 15;simpa using this)
    (fun w4 hb4=>(tm_visit m wb b bl br r1 r2 key r t u K2 w4 hL hR hsp hpa hpn hpc ((hi2.below hb3).below hb4) hKw hks hone (A2 hb4 (A2 hb3 hbb)) es1 es2 ck1 ck2 hm1 hm2 (tm_leaf s r a t u hrec hnn h1 h2 m hleaf K2 (hS.mono hk2))).mono (by rintro e w5 ⟨rfl,h5⟩;exact⟨rfl,rfl,h5⟩)))).mono ?_
  rintro _ w5 ⟨rfl,wq,g1,wr,g2,g3⟩
  exact⟨rfl,wr,K2,Bw.tr g1 g2,(hi2.below g1).below g2,hk2,hKw,g3⟩
 ·rintro w2 w3 hb2 ⟨wc,K,g1,_,_,_,_,hfr,ox,ob,pa,pn,pc,sp,_,_,hm,_⟩
  refine⟨⟨_,hm,rfl⟩,fun k hk hk2=> ?_⟩
  rw [hfr.block k (Nat.lt_of_lt_of_le hk2 g1.size) (by omega)]
  exact g1.block k hk2
 ·rintro _ w4 ⟨rfl,w2,w3,hb2,⟨wc,K,g1,hiK,hHK,hKw,_,hfr,ox,ob,pa,pn,pc,sp,_,_,hm,ho,es,ck,hown⟩,hb4⟩
  have hs2:=hb2.size
  have hs3:=g1.size
  have hs4:=hfr.size
  refine⟨rfl,⟨hb4.os.trans (hfr.os.trans (g1.os.trans hb2.os)),hb4.tape.trans (hfr.tape.trans (g1.tape.trans hb2.tape)),hb4.output.trans (hfr.output.trans (g1.output.trans hb2.output)),by have:=hb4.size;omega,fun k hk hx2=> ?_⟩,ox,ob,pa,pn,pc,sp,es,ck,K,A2 hb4 hm,A2 hb4 ho,hHK, ?_, ?_⟩
  ·rw [hb4.block k (by omega),hfr.block k (by omega) hx2,g1.block k (by omega)]
   exact hb2.block k hk
  ·exact(hfr.imm hiK (fun k hk=>by subst hk;exact hKw)).below hb4
  ·exact hown.mono (Hle.refl _) (A2 hb4 hown.at_|>.trans hown.at_.symm)
end
section
open Go Go.RowKit Go.MapKept
@[go_sem] theorem sch_same (w:World) (a:Addr):(binOp .neq 73 (.pointer (some a)) (.pointer (some a))).run Tryz.prog w= .ok (.bool false) w:=by
 have:=run_eql_ptr_same (P:=Tryz.prog) (w:=w) (tp:=73) (te:=118) (j:=(Tryz.prog.info? 118).getD default) a (by kernel_rfl) (by kernel_rfl)
 simp [binOp]at this⊢
 cases hx:Sem.run Tryz.prog (Op.equal 73 (.pointer (some a)) (.pointer (some a))) w<;>rw [hx]at this<;>simp [Result.andThen]at this⊢
 exact this
theorem newHA_c (w:World):Calls Tryz.prog 61 #[] w (fun e w'=>e= .returned (.iface 185 (.pointer (some ⟨w.heap.size,0,none⟩)))∧w'=w.alloc (.cells #[] 187)):=by
 go_enter Tryz.func61,Tryz.ntmps61
 go_wp2;go_ret;exact⟨rfl,rfl⟩
def tvM (X:Value)(y:Six)(S:Option Addr):Obj:= .cells #[X, .pointer y.y0, .pointer y.y1, .pointer y.y2, .pointer y.y3, .pointer y.y4, .bool false, .pointer S] 124
theorem tm_top (s:List Ax)(rr:As)(sc:ByteArray)(key:ByteArray)(r fe:As)(rel:ByteArray)(rest:List Bp)(a:Ap)(t u:JT)(hres:Av s rr=some ⟨sc,[],⟨[⟨key,r,[]⟩],fe,rel⟩::rest⟩)(hrel:(rel.toList==An)=false)(hsc:sc.toList.isEmpty=true)(hnr:Bf ⟨sc,[],⟨[⟨key,r,[]⟩],fe,rel⟩::rest⟩=true)(hnq:Dt rr=true)
  (hrec:Av s r=some a) (hnn:Bf a=true) (h1:Ck a t) (h2:Ck a u) (hks:key.size≤lim) (bL bR bl br:Nat) (S:Option Addr) (y:Six)
  (H:Hp) (w:World) (hi:Imm H w) (hS:AO Ak H s (.pointer S)) (hr:BM Ak H rr y) (x yv:Value) (cx:A8 H bl 0=some x) (cy:A8 H br 0=some yv) (hx:RJ H (.map [key] [t]) x) (hy:RJ H (.map [key] [u]) yv)
  (hbL:w.heap[bL]?=some (tvM (Ab bl) y S)) (hbR:w.heap[bR]?=some (tvM (Ab br) y S)):
  Calls Tryz.prog 55 #[.pointer (some ⟨bL,0,none⟩), .pointer (some ⟨bR,0,none⟩), .func (.func 56) #[] #[], .nilFunc] w (fun e w'=>Bw w w'∧∃bo X,e= .returned (.tuple #[.pointer (some ⟨bo,0,none⟩), .nilIface])∧w'.heap[bo]?=some (tvM X y S)∧∃K,Hle H K∧Imm K w'∧RVal K (.map [key] [u]) X):=by
 have HT:=Lib.hid (fun m wb hL hR hl e1 e2 e3 e4 wz hi hS hr hHw hb=>tm_root m s rr sc key r fe rel rest a t u hres hrel hsc hnr hrec hnn h1 h2 hks bl br wb hL hR hl e1 e2 e3 e4 H wz hi hS hr x yv cx cy hx hy hHw hb)
 obtain⟨bs,xs,eS,hS1,hS2⟩:=hS
 cases eS
 have HS:=Lib.hid (show AO Ak H s (.pointer (some ⟨bs,0,none⟩)) from⟨bs,xs,rfl,hS1,hS2⟩)
 have HI:=Lib.hid (And.intro hi (And.intro hr (And.intro hbL hbR)))
 unfold tvM at hbL hbR
 have HE:=Lib.hid (fun w0 h0=>refEquals_c rr (fun k=>if k=bL∨k=bR then w.heap[k]? else H k) y bL 1 bR 1 w0 h0 (hr.mono (by
   intro k o e;show(if k=bL∨k=bR then w.heap[k]? else H k)=some o;split
   ·exact hi k o e
   ·exact e)) (by
   have q:=(A1 hbL).1
   have hcc:∀i,A8 (fun k=>if k=bL∨k=bR then w.heap[k]? else H k) bL i=w.cell? ⟨bL,i,none⟩:=fun i=>by
    rw [←Ai];unfold A8 At;simp
   refine⟨?_, ?_, ?_, ?_, ?_, ?_⟩<;>rw [hcc]
   ·exact q 1
   ·exact q 2
   ·exact q 3
   ·exact q 4
   ·exact q 5
   ·exact q 6) (by
   have q:=(A1 hbR).1
   have hcc:∀i,A8 (fun k=>if k=bL∨k=bR then w.heap[k]? else H k) bR i=w.cell? ⟨bR,i,none⟩:=fun i=>by
    rw [←Ai];unfold A8 At;simp
   refine⟨?_, ?_, ?_, ?_, ?_, ?_⟩<;>rw [hcc]
   ·exact q 1
   ·exact q 2
   ·exact q 3
   ·exact q 4
   ·exact q 5
   ·exact q 6) hnq)
 have HX:Hid (Imm (fun k=>if k=bL∨k=bR then w.heap[k]? else H k) w):=by
  intro k o e
  change (if k=bL∨k=bR then w.heap[k]? else H k)=some o at e
  split at e
  ·exact e
  ·exact hi k o e
 rcases y with⟨y0,y1,y2,y3,y4⟩
 simp only at hbL hbR
 obtain⟨q,f⟩:=A1 hbL
 obtain⟨q2,f2⟩:=A1 hbR
 have hlL:=A0 hbL
 have hlR:=A0 hbR
 have a7:=q 7
 have c7:=q2 7
 have g7:=cell_regrown a7
 have h7:=cell_regrown c7
 have HBL:=Lib.hid (And.intro hbL hbR)
 clear q q2 hi hr cx cy hx hy hbL hbR h1 h2 hS1 hS2
 go_enter Tryz.func55,Tryz.ntmps55
 go_wp2_with fail
 refine wp_region_quiet_below (by kernel_rfl) (by kernel_rfl) ?_
 repeat (go_big_quiet_step (fail))
 refine wpQuiet_nil ?_
 intro _ hw'
 obtain⟨⟨dq,osq⟩,hw''⟩:=hw'
 subst hw''
 obtain⟨wa,hwa,hw'⟩:∃x,Bw w x∧x=Go.Sort.grow (redrawn w dq) osq:=⟨_,below_regrown _ _ _,rfl⟩
 rw [←hw']
 clear hw'
 go_wp2_with fail
 have CA:=fun d os=>Calls.regrown_of (HE.out (Go.Sort.grow (redrawn wa d) os) (HX.out.below (hwa.tr (below_regrown wa d os))))
 refine wp_region_quiet_below (by kernel_rfl) (by kernel_rfl) ?_
 repeat (go_big_quiet_step (exact CA _ _))
 refine wpQuiet_nil ?_
 intro _ hw'
 obtain⟨⟨dq,osq⟩,hw''⟩:=hw'
 subst hw''
 obtain⟨wb,hwb,hw'⟩:∃x,Bw wa x∧x=Go.Sort.grow (redrawn wa dq) osq:=⟨_,below_regrown _ _ _,rfl⟩
 rw [←hw']
 clear hw'
 have hB:=hwa.tr hwb
 obtain⟨q,f⟩:=A1 (A2 hB HBL.out.1)
 obtain⟨q2,f2⟩:=A1 (A2 hB HBL.out.2)
 have hlL:=A0 (A2 hB HBL.out.1)
 have hlR:=A0 (A2 hB HBL.out.2)
 clear CA g7 h7 a7 c7
 go_upto_region 6 with(fail)
 obtain⟨wz,hwz⟩:∃wz,wz=wb.alloc (.cells #[.nilIface, .nilIface, .pointer none, .pointer none, .pointer none, .pointer none, .pointer none, .pointer none, .bool false, .slice none 0 0, .nilFunc, .nilFunc, .pointer none, .bool false, .pointer none, .nilIface] 200):=⟨_,rfl⟩
 have HZ:Hid (Bw wb wz∧wz.heap[wb.heap.size]?=some (.cells #[.nilIface, .nilIface, .pointer none, .pointer none, .pointer none, .pointer none, .pointer none, .pointer none, .bool false, .slice none 0 0, .nilFunc, .nilFunc, .pointer none, .bool false, .pointer none, .nilIface] 200)∧wz.heap.size=wb.heap.size+1):=by
  subst hwz;exact⟨A5,A4,by simp⟩
 rw [←hwz]
 clear hwz q f q2 f2
 obtain⟨q,f⟩:=A1 (A2 HZ.out.1 (A2 hB HBL.out.1))
 obtain⟨q2,f2⟩:=A1 (A2 HZ.out.1 (A2 hB HBL.out.2))
 obtain⟨qz,fz⟩:=A1 HZ.out.2.1
 have hlL2:=A0 (A2 HZ.out.1 (A2 hB HBL.out.1))
 have hlR2:=A0 (A2 HZ.out.1 (A2 hB HBL.out.2))
 have hlz:=A0 HZ.out.2.1
 have n1:¬bL=wb.heap.size:=by omega
 have n2:¬bR=wb.heap.size:=by omega
 have n3:¬wb.heap.size=bL:=by omega
 have n4:¬wb.heap.size=bR:=by omega
 go_upto_region 12 with(fail)
 obtain⟨ws,hws⟩:∃ws,ws=(((((((((((wz.setCell ⟨wb.heap.size,0,none⟩ (Ab bl)).setCell ⟨wb.heap.size,1,none⟩ (Ab br)).setCell ⟨wb.heap.size,2,none⟩ (.pointer (some ⟨bs,0,none⟩))).setCell ⟨wb.heap.size,3,none⟩ (.pointer y0)).setCell ⟨wb.heap.size,4,none⟩ (.pointer y1)).setCell ⟨wb.heap.size,5,none⟩ (.pointer y2)).setCell ⟨wb.heap.size,6,none⟩ (.pointer y3)).setCell ⟨wb.heap.size,7,none⟩ (.pointer y4)).setCell ⟨wb.heap.size,8,none⟩ (.bool false)).setCell ⟨wb.heap.size,10,none⟩ (.func (.func 56) #[] #[])).setCell ⟨wb.heap.size,11,none⟩ .nilFunc):=⟨_,rfl⟩
 have HW:Hid (Az wz ws wb.heap.size∧ws.heap[wb.heap.size]?=some (.cells #[Ab bl,Ab br, .pointer (some ⟨bs,0,none⟩), .pointer y0, .pointer y1, .pointer y2, .pointer y3, .pointer y4, .bool false, .slice none 0 0, .func (.func 56) #[] #[], .nilFunc, .pointer none, .bool false, .pointer none, .nilIface] 200)):=by
  subst hws
  refine⟨((((((((((((Az.refl wz _).set _ _).set _ _).set _ _).set _ _).set _ _).set _ _).set _ _).set _ _).set _ _).set _ _).set _ _), ?_⟩
  simpa using(Ac (Ac (Ac (Ac (Ac (Ac (Ac (Ac (Ac (Ac (Ac HZ.out.2.1 0 (Ab bl)) 1 (Ab br)) 2 (.pointer (some ⟨bs,0,none⟩))) 3 (.pointer y0)) 4 (.pointer y1)) 5 (.pointer y2)) 6 (.pointer y3)) 7 (.pointer y4)) 8 (.bool false)) 10 (.func (.func 56) #[] #[])) 11 .nilFunc)
 rw [←hws]
 clear hws q f q2 f2 qz fz
 have hlw:wb.heap.size<ws.heap.size:=A0 HW.out.2
 obtain⟨qz,fz⟩:=A1 HW.out.2
 go_wp2_with fail
 refine(newHA_c ws).mono ?_
 rintro _ wh ⟨rfl,rfl⟩
 obtain⟨wh,hwh⟩:∃wh,wh=ws.alloc (.cells #[] 187):=⟨_,rfl⟩
 have HH:Hid (Bw ws wh∧wh.heap[wb.heap.size]?=some (.cells #[Ab bl,Ab br, .pointer (some ⟨bs,0,none⟩), .pointer y0, .pointer y1, .pointer y2, .pointer y3, .pointer y4, .bool false, .slice none 0 0, .func (.func 56) #[] #[], .nilFunc, .pointer none, .bool false, .pointer none, .nilIface] 200)∧wh.heap.size=ws.heap.size+1):=by subst hwh;exact⟨A5,A3 HW.out.2,by simp⟩
 rw [←hwh]
 clear hwh qz fz
 have hlh:wb.heap.size<wh.heap.size:=A0 HH.out.2.1
 obtain⟨qz,fz⟩:=A1 HH.out.2.1
 go_upto_region 14 with(fail)
 obtain⟨wm,hwm⟩:∃wm,wm=wh.setCell ⟨wb.heap.size,15,none⟩ (.iface 185 (.pointer (some ⟨ws.heap.size,0,none⟩))):=⟨_,rfl⟩
 have HM:Hid (Az wh wm wb.heap.size∧wm.heap[wb.heap.size]?=some (⟨Ab bl,Ab br,some ⟨bs,0,none⟩,⟨y0,y1,y2,y3,y4⟩,none,0,0,none,false,none,ws.heap.size⟩:MW).obj):=by
  subst hwm
  refine⟨(Az.refl wh _).set _ _, ?_⟩
  have:=Ac HH.out.2.1 15 (.iface 185 (.pointer (some ⟨ws.heap.size,0,none⟩)))
  unfold MW.obj
  simpa using this
 rw [←hwm]
 clear hwm qz fz
 have HBM:Hid (Bw w wm):=(((hB.tr HZ.out.1).turn hB.size HW.out.1).tr HH.out.1).turn hB.size HM.out.1
 have hno:H wb.heap.size=none:=by
  cases hh:H wb.heap.size with
  |none=>rfl
  |some o=>have:=A0 (HI.out.1 _ _ hh);have:=hB.size;omega
 have HMC:=Lib.hid (HT.out (⟨Ab bl,Ab br,some ⟨bs,0,none⟩,⟨y0,y1,y2,y3,y4⟩,none,0,0,none,false,none,ws.heap.size⟩:MW) wb.heap.size rfl rfl rfl rfl rfl rfl rfl wm (HI.out.1.below HBM.out) HS.out HI.out.2.1 hno HM.out.2)
 have hlm:wb.heap.size<wm.heap.size:=A0 HM.out.2
 clear hno
 go_wp2_with fail
 refine HMC.out.mono ?_
 rintro _ wn ⟨rfl,hfr,ox,ob,pa,pn,pc,sp,es,ck,K,hmo,hox,hHK,hiK,hown⟩
 have hmo2:=hmo
 unfold MW.obj at hmo2
 simp only at hmo2
 have HN:=Lib.hid (And.intro hfr (And.intro hmo2 (And.intro hox (And.intro hHK (And.intro hiK hown)))))
 have HBW:Hid (Bw w wn):=by
  have hb0:=HBM.out
  exact⟨hfr.os.trans hb0.os,hfr.tape.trans hb0.tape,hfr.output.trans hb0.output,Nat.le_trans hb0.size hfr.size,fun k hk=>by rw [hfr.block k (Nat.lt_of_lt_of_le hk hb0.size) (by have:=hB.size;omega)];exact hb0.block k hk⟩
 have hszn:=hfr.size
 obtain⟨qm,fm⟩:=A1 hmo2
 obtain⟨qo,fo⟩:=A1 hox
 have hlm2:=A0 hmo2
 have hlo:=A0 hox
 have hbLn:=A2 HBW.out HBL.out.1
 obtain⟨q,f⟩:=A1 hbLn
 have hlLn:=A0 hbLn
 clear hfr hmo hmo2 hox hHK hiK hown hbLn HMC
 go_upto_region 17 with(fail)
 have S0:wn.cell? ⟨bL,7,none⟩=some (.pointer (some ⟨bs,0,none⟩))∧wn.cell? ⟨bL,1,none⟩=some (.pointer y0)∧wn.cell? ⟨bL,2,none⟩=some (.pointer y1)∧wn.cell? ⟨bL,3,none⟩=some (.pointer y2)∧wn.cell? ⟨bL,4,none⟩=some (.pointer y3)∧wn.cell? ⟨bL,5,none⟩=some (.pointer y4)∧wn.cell? ⟨bL,6,none⟩=some (.bool false):=⟨q 7,q 1,q 2,q 3,q 4,q 5,q 6⟩
 have S1:wn.drew.cell? ⟨bL,7,none⟩=some (.pointer (some ⟨bs,0,none⟩))∧wn.drew.cell? ⟨bL,1,none⟩=some (.pointer y0)∧wn.drew.cell? ⟨bL,2,none⟩=some (.pointer y1)∧wn.drew.cell? ⟨bL,3,none⟩=some (.pointer y2)∧wn.drew.cell? ⟨bL,4,none⟩=some (.pointer y3)∧wn.drew.cell? ⟨bL,5,none⟩=some (.pointer y4)∧wn.drew.cell? ⟨bL,6,none⟩=some (.bool false):=S0
 have hne:¬bL=wn.heap.size:=by omega
 have hne2:¬wn.heap.size=bL:=by omega
 clear qm fm qo fo q f
 go_cut [12] (fun s12 wx=>∃b12:Nat,s12= .pointer (some ⟨b12,0,none⟩)∧wn.heap.size≤b12∧Bw wn wx∧wx.heap[b12]?=some (.cells #[.nilIface, .pointer y0, .pointer y1, .pointer y2, .pointer y3, .pointer y4, .bool false, .pointer (some ⟨bs,0,none⟩)] 124))
 case first=>
  go_region_held3 (fun w'=>w'.cell? ⟨bL,7,none⟩=some (.pointer (some ⟨bs,0,none⟩))∧w'.cell? ⟨bL,1,none⟩=some (.pointer y0)∧w'.cell? ⟨bL,2,none⟩=some (.pointer y1)∧w'.cell? ⟨bL,3,none⟩=some (.pointer y2)∧w'.cell? ⟨bL,4,none⟩=some (.pointer y3)∧w'.cell? ⟨bL,5,none⟩=some (.pointer y4)∧w'.cell? ⟨bL,6,none⟩=some (.bool false))
   (first|(with_reducible exact S0)|(with_reducible exact S1)|((with_reducible refine EQ A5 ?_);assumption)|((with_reducible refine EQ A5.dr ?_);assumption)|go_keep)
   (fail)
  all_goals
   go_wp2_with fail
   go_meet
   exact⟨_,rfl,Nat.le_refl _,A5.dr,A4⟩
 case rest=>
  obtain⟨b12,rfl,hb12,hbA,hx12⟩:=hcut
  obtain⟨wA,hwA⟩:∃wA:World,wA=wc:=⟨_,rfl⟩
  subst hwA
  have HA:=Lib.hid (And.intro hbA hx12)
  have HMA:=Lib.hid (And.intro (A2 hbA HN.out.2.1) (A2 hbA HN.out.2.2.1))
  obtain⟨qm,fm⟩:=A1 HMA.out.1
  obtain⟨qo,fo⟩:=A1 HMA.out.2
  have hl1:=A0 HMA.out.1
  have hl2:=A0 HMA.out.2
  have hl12:=A0 hx12
  have HNV:=Lib.hid (newVal_c (.map [key] [u]) (At wn) _ wA ((Imm.self wn).below hbA) (AZ.shut HN.out.2.2.2.2.2 HN.out.2.2.2.2.1 rfl (by simp [lim])))
  clear hbA hx12
  go_wp2_with fail
  refine HNV.out.mono ?_
  rintro _ wv ⟨hbv,X,rfl,hX⟩
  have hXX:=hX
  obtain⟨bx,xx,rfl,_,_⟩:=hXX
  have HX2:=Lib.hid (And.intro hbv hX)
  clear hbv hX qm fm qo fo
  have hxv:=A2 HX2.out.1 HA.out.2
  obtain⟨q12,f12⟩:=A1 hxv
  have hlv:=A0 hxv
  go_wp2_with fail
  go_ret2
  have ht:Az wv (wv.setCell ⟨b12,0,none⟩ (.iface 184 (.pointer (some ⟨bx,0,none⟩)))) b12:=(Az.refl wv b12).set _ _
  have hbw:Bw w wv:=(HBW.out.tr HA.out.1).tr HX2.out.1
  have hsw:=HBW.out.size
  refine⟨hbw.turn (Nat.le_trans hsw hb12) ht,b12,_,rfl, ?_,A6 (At wn) wA wv, ?_, ?_,HX2.out.2⟩
  ·have:=Ac hxv 0 (.iface 184 (.pointer (some ⟨bx,0,none⟩)))
   unfold tvM
   simpa using this
  ·exact((HI.out.1.below HBW.out:Imm H wn)).trans (AY ((Imm.self wn).below HA.out.1))
  ·intro k o e
   have h1:=(Imm.grow ((Imm.self wn).below HA.out.1) HX2.out.1) k o e
   show(World.heap _)[k]?=some o
   rw [ht.block k ?_];exact h1
   rintro rfl
   unfold A6 at e
   rw [if_pos hl12]at e
   exact absurd (A0 (show wn.heap[k]?=some o from e)) (by omega)
end
section
open Go Go.RowKit Go.MapKept
theorem bsearch_nil (p0 p1 p2 p3:Option Addr)(w:World):Calls Tryz.prog 137 #[.slice none 0 0, .agg #[.pointer p0, .pointer p1, .pointer p2, .pointer p3], .func (.func 138) #[] #[]] w
  (fun e w'=>e= .returned (.tuple #[.int .i64 0, .bool false])∧Bw w w'):=by
 go_enter Tryz.func137,Tryz.ntmps137
 go_wp2_with fail
 go_loopw [9,10] (fun i j wr=>i= .int .i64 0∧j= .int .i64 0∧Bw w wr) (fun _ _ _=>0)
 case atStart=>exact⟨rfl,rfl,A5⟩
 case round=>
  rename_i wr
  obtain⟨rfl,rfl,hb⟩:=hrel
  go_wp2_with fail
  refine wp_region_quiet_below (by kernel_rfl) (by kernel_rfl) ?_
  repeat (go_big_quiet_step (fail))
  refine wpQuiet_nil ?_
  intro _ hw'
  obtain⟨⟨dq,osq⟩,hw''⟩:=hw'
  subst hw''
  obtain⟨wx,hwx,hw'⟩:∃x,Bw wr x∧x=Go.Sort.grow (redrawn wr dq) osq:=⟨_,below_regrown _ _ _,rfl⟩
  rw [←hw']
  clear hw'
  go_wp2_with fail
  go_ret2
  exact⟨rfl,hb.tr hwx⟩
 all_goals go_goals
theorem pe_append_nil {b:Nat}{p0 p1 p2 p3:Option Addr}{w:World}(hb:w.heap[b]?=some (.cells #[.pointer p0, .pointer p1, .pointer p2, .pointer p3] 227)):
  (Builtin.append_ #[208,139] 208 #[.slice none 0 0, .slice (some ⟨b,0,none⟩) 1 1]).run Tryz.prog w= .ok (.slice (some ⟨w.heap.size,0,none⟩) 1 (grownCap w 1 0 227))
   (w.drew.alloc (.cells (#[.pointer p0, .pointer p1, .pointer p2, .pointer p3]++Builtin.zeroCells (Value.agg #[.pointer none, .pointer none, .pointer none, .pointer none]).cells (grownCap w 1 0 227 - 1)) 227)):=by
 obtain⟨i,hi,hz,hsize,hbytes⟩:=info_parts info_pe
 have hs:Go.Src Tryz.prog i.size 139 (.slice (some ⟨b,0,none⟩) 1 1) 1 [.pointer p0, .pointer p1, .pointer p2, .pointer p3] w:=by
  refine Go.Src.ofSlice w (e':=227) (by kernel_rfl) ⟨b,0,none⟩ 1 1 _ (by simp [hsize]) (fun j u hu=> ?_) (by simp [Value.oneCell'])
  have hadd:(⟨b,0,none⟩:Addr).add j=⟨b,j,none⟩:=by unfold Addr.add;split<;>simp_all
  rw [hadd,(A1 hb).1]
  simpa using hu
 have h:=run_append_grow_src (P:=Tryz.prog) w 208 139 208 227 i _ (by kernel_rfl) hi hz none 0 0 [] (by rw [run_firstCells_none]) _ 1 _ hs (by omega) (by omega) (by rw [hbytes];decide)
 simpa using h
theorem insert_nil (b:Nat)(p0 p1 p2 p3:Option Addr)(w:World)(hb:w.heap[b]?=some (.cells #[.pointer p0, .pointer p1, .pointer p2, .pointer p3] 227)):Calls Tryz.prog 140 #[.slice none 0 0, .int .i64 0, .slice (some ⟨b,0,none⟩) 1 1] w
  (fun e w'=>∃b2 c,e= .returned (.slice (some ⟨b2,0,none⟩) 1 c)∧Bw w w'∧w.heap.size≤b2∧w'.cell? ⟨b2,0,none⟩=some (.pointer p0)∧w'.cell? ⟨b2,1,none⟩=some (.pointer p1)∧w'.cell? ⟨b2,2,none⟩=some (.pointer p2)∧w'.cell? ⟨b2,3,none⟩=some (.pointer p3)):=by
 obtain⟨q,f⟩:=A1 hb
 have hl:=A0 hb
 have happ:=pe_append_nil hb
 have HB:=Lib.hid hb
 clear hb
 go_enter Tryz.func140,Tryz.ntmps140
 go_wp2_with fail
 go_ret
 have hbx:(w.drew.alloc (.cells (#[.pointer p0, .pointer p1, .pointer p2, .pointer p3]++Builtin.zeroCells (Value.agg #[.pointer none, .pointer none, .pointer none, .pointer none]).cells (grownCap w 1 0 227 - 1)) 227)).heap[w.heap.size]?=_:=A4 (w:=w.drew)
 have qb:=(A1 hbx).1
 refine⟨w.heap.size,_,rfl,(Bw.rfl.dr).al _,Nat.le_refl _, ?_, ?_, ?_, ?_⟩
 ·refine(qb 0).trans ?_;rw [Array.getElem?_append_left (by simp)];rfl
 ·refine(qb 1).trans ?_;rw [Array.getElem?_append_left (by simp)];rfl
 ·refine(qb 2).trans ?_;rw [Array.getElem?_append_left (by simp)];rfl
 ·refine(qb 3).trans ?_;rw [Array.getElem?_append_left (by simp)];rfl
def OneP (w:World)(lo bS:Nat)(p0 p1 p2 p3:Option Addr):Prop:=∃b2 c,lo≤b2∧w.heap[bS]?=some (.cells #[.slice (some ⟨b2,0,none⟩) 1 c, .slice none 0 0] 216)∧w.cell? ⟨b2,0,none⟩=some (.pointer p0)∧w.cell? ⟨b2,1,none⟩=some (.pointer p1)∧w.cell? ⟨b2,2,none⟩=some (.pointer p2)∧w.cell? ⟨b2,3,none⟩=some (.pointer p3)∧¬b2=bS
theorem ins_fin {w wb W w2:World}{bS b2 c2:Nat}{p0 p1 p2 p3:Option Addr}(hw:Bw w wb)(hW:Bw wb W)(hb:w.heap[bS]?=some (.cells #[.slice none 0 0, .slice none 0 0] 216))
  (hr:Bw W w2∧W.heap.size≤b2∧w2.cell? ⟨b2,0,none⟩=some (.pointer p0)∧w2.cell? ⟨b2,1,none⟩=some (.pointer p1)∧w2.cell? ⟨b2,2,none⟩=some (.pointer p2)∧w2.cell? ⟨b2,3,none⟩=some (.pointer p3)):
  Fr (fun k=>k=bS) w.heap.size w (w2.setCell ⟨bS,0,none⟩ (.slice (some ⟨b2,0,none⟩) 1 c2))∧OneP (w2.setCell ⟨bS,0,none⟩ (.slice (some ⟨b2,0,none⟩) 1 c2)) w.heap.size bS p0 p1 p2 p3:=by
 obtain⟨h1,h2,r0,r1,r2,r3⟩:=hr
 have hbw:Bw w w2:=(hw.tr hW).tr h1
 have hl:=A0 hb
 have hs:=(hw.tr hW).size
 have hne:¬b2=bS:=by omega
 have t:Az w2 (w2.setCell ⟨bS,0,none⟩ (.slice (some ⟨b2,0,none⟩) 1 c2)) bS:=(Az.refl w2 bS).set _ _
 refine⟨⟨t.os.trans hbw.os,t.tape.trans hbw.tape,t.output.trans hbw.output,by rw [t.size];exact hbw.size,fun k hk hx=>(t.block k hx).trans (hbw.block k hk)⟩,b2,c2,by omega, ?_, ?_, ?_, ?_, ?_,hne⟩
 ·have:=Ac (A2 hbw hb) 0 (.slice (some ⟨b2,0,none⟩) 1 c2)
  simpa using this
 ·simpa [World.cell?_setCell_other,hne]using r0
 ·simpa [World.cell?_setCell_other,hne]using r1
 ·simpa [World.cell?_setCell_other,hne]using r2
 ·simpa [World.cell?_setCell_other,hne]using r3
theorem OneP.weak {w:World}{lo lo2 bS:Nat}{p0 p1 p2 p3:Option Addr}(h:OneP w lo bS p0 p1 p2 p3)(hl:lo2≤lo):OneP w lo2 bS p0 p1 p2 p3:=by
 obtain⟨b2,c,h0,h⟩:=h
 exact⟨b2,c,Nat.le_trans hl h0,h⟩
theorem peIns_c (bS:Nat)(p0 p1 p2 p3:Option Addr)(w:World)(hb:w.heap[bS]?=some (.cells #[.slice none 0 0, .slice none 0 0] 216)):
  Calls Tryz.prog 117 #[.pointer (some ⟨bS,0,none⟩), .agg #[.pointer p0, .pointer p1, .pointer p2, .pointer p3]] w (fun e w'=>e= .returned (.tuple #[])∧Fr (fun k=>k=bS) w.heap.size w w'∧OneP w' w.heap.size bS p0 p1 p2 p3):=by
 obtain⟨q,f⟩:=A1 hb
 have hl:=A0 hb
 have HB:=Lib.hid hb
 clear hb
 go_enter Tryz.func117,Tryz.ntmps117
 go_upto_region 1 with(fail)
 obtain⟨wa,hwa⟩:∃wa,wa=w.alloc (.cells #[.pointer p0, .pointer p1, .pointer p2, .pointer p3] 227):=⟨_,rfl⟩
 have HA:Hid (Bw w wa∧wa.heap[w.heap.size]?=some (.cells #[.pointer p0, .pointer p1, .pointer p2, .pointer p3] 227)∧wa.heap.size=w.heap.size+1):=by subst hwa;exact⟨A5,A4,by simp⟩
 rw [←hwa]
 clear hwa q f
 obtain⟨q,f⟩:=A1 (A2 HA.out.1 HB.out)
 obtain⟨q1,f1⟩:=A1 HA.out.2.1
 have hla:=A0 HA.out.2.1
 have k0:=cell_regrown (q 0)
 have c0:=cell_regrown (q1 0)
 have c1:=cell_regrown (q1 1)
 have c2:=cell_regrown (q1 2)
 have c3:=cell_regrown (q1 3)
 have CA:=fun d os=>Calls.regrown_of (bsearch_nil p0 p1 p2 p3 (Go.Sort.grow (redrawn wa d) os))
 refine wp_region_quiet_below (by kernel_rfl) (by kernel_rfl) ?_
 repeat (go_big_quiet_step (exact CA _ _))
 refine wpQuiet_nil ?_
 intro _ hw'
 obtain⟨⟨dq,osq⟩,hw''⟩:=hw'
 subst hw''
 obtain⟨wb,hwb,hw'⟩:∃x,Bw wa x∧x=Go.Sort.grow (redrawn wa dq) osq:=⟨_,below_regrown _ _ _,rfl⟩
 rw [←hw']
 clear hw'
 have HWB:=Lib.hid (HA.out.1.tr hwb)
 have hbS:=A2 HWB.out HB.out
 have hbP:=A2 hwb HA.out.2.1
 have HS:=Lib.hid hbS
 have HP:=Lib.hid hbP
 clear q f q1 f1 k0 c0 c1 c2 c3 CA
 obtain⟨q,f⟩:=A1 hbS
 obtain⟨q1,f1⟩:=A1 hbP
 have hlS:=A0 hbS
 have hlP:=A0 hbP
 clear hbS hbP
 go_upto_region 3 with(fail)
 go_region_law
  (first
   |(go_simp;refine(insert_nil _ p0 p1 p2 p3 _ (by exact A4)).mono ?_;rintro _ w2 ⟨b2,c2,rfl,hb2,hg2,r0,r1,r2,r3⟩;have HR:=Lib.hid (And.intro hb2 (And.intro hg2 (And.intro r0 (And.intro r1 (And.intro r2 r3)))));have hbz:=A2 hb2 (A3 HS.out);obtain⟨q2z,f2z⟩:=A1 hbz;have hlz:=A0 hbz;clear hb2 hg2 r0 r1 r2 r3))
 all_goals
  go_wp2_with fail
  go_end0
  refine⟨rfl, ?_⟩
  exact ins_fin HWB.out (by first|exact(Bw.rfl.al _).dr|exact Bw.rfl.al _|exact Bw.rfl.dr.al _) HB.out HR.out
theorem Al {w w2:World}{b:Nat}(h:w2.heap[b]?=w.heap[b]?)(i:Nat):w2.cell? ⟨b,i,none⟩=w.cell? ⟨b,i,none⟩:=by
 rw [←Ai,←Ai];unfold A8 At;rw [h]
theorem Cb {w w2:World}{b:Nat}(h:w2.heap[b]?=w.heap[b]?){u0 u1 u2 u3:Value}(g:w.cell? ⟨b,0,none⟩=some u0∧w.cell? ⟨b,1,none⟩=some u1∧w.cell? ⟨b,2,none⟩=some u2∧w.cell? ⟨b,3,none⟩=some u3):
  w2.cell? ⟨b,0,none⟩=some u0∧w2.cell? ⟨b,1,none⟩=some u1∧w2.cell? ⟨b,2,none⟩=some u2∧w2.cell? ⟨b,3,none⟩=some u3:=by
 rw [Al h,Al h,Al h,Al h];exact g
theorem setIns_c (bS bP cP:Nat)(p0 p1 p2 p3:Option Addr)(w:World)(hb:w.heap[bS]?=some (.cells #[.slice none 0 0, .slice none 0 0] 216))
  (hp:w.cell? ⟨bP,0,none⟩=some (.pointer p0)∧w.cell? ⟨bP,1,none⟩=some (.pointer p1)∧w.cell? ⟨bP,2,none⟩=some (.pointer p2)∧w.cell? ⟨bP,3,none⟩=some (.pointer p3)):
  Calls Tryz.prog 93 #[.pointer (some ⟨bS,0,none⟩), .slice (some ⟨bP,0,none⟩) 1 cP] w (fun e w'=>e= .returned (.tuple #[])∧Fr (fun k=>k=bS) w.heap.size w w'∧OneP w' w.heap.size bS p0 p1 p2 p3):=by
 obtain⟨h0,h1,h2,h3⟩:=hp
 have HI:=Lib.hid (fun w0 (h0:w0.heap=w.heap)=>peIns_c bS p0 p1 p2 p3 w0 (by rw [h0];exact hb))
 have hl:=A0 hb
 have hlp:=Ah h0
 have hne:¬bP=bS:=by
  rintro rfl
  have:=(A1 hb).1 0
  rw [h0]at this
  simp at this
 clear hb
 go_enter Tryz.func93,Tryz.ntmps93
 have S0:w.cell? ⟨bP,0,none⟩=some (.pointer p0)∧w.cell? ⟨bP,1,none⟩=some (.pointer p1)∧w.cell? ⟨bP,2,none⟩=some (.pointer p2)∧w.cell? ⟨bP,3,none⟩=some (.pointer p3):=⟨h0,h1,h2,h3⟩
 have S1:w.drew.cell? ⟨bP,0,none⟩=some (.pointer p0)∧w.drew.cell? ⟨bP,1,none⟩=some (.pointer p1)∧w.drew.cell? ⟨bP,2,none⟩=some (.pointer p2)∧w.drew.cell? ⟨bP,3,none⟩=some (.pointer p3):=S0
 go_upto_region 1 with(fail)
 go_loopw [0,1] (fun a b wr=>a= .pointer (some ⟨bS,0,none⟩)∧b= .slice (some ⟨bP,0,none⟩) 1 cP∧wr=w) (fun _ _ _=>0)
 case atStart=>exact⟨rfl,rfl,rfl⟩
 case round=>
  rename_i wr
  obtain⟨rfl,rfl,rfl⟩:=hrel
  go_upto_region 2 with(fail)
  go_region_held3 (fun w'=>w'.cell? ⟨bP,0,none⟩=some (.pointer p0)∧w'.cell? ⟨bP,1,none⟩=some (.pointer p1)∧w'.cell? ⟨bP,2,none⟩=some (.pointer p2)∧w'.cell? ⟨bP,3,none⟩=some (.pointer p3))
   (first|(with_reducible exact S0)|(with_reducible exact S1)|(with_reducible exact S2)|go_keep)
   ((go_at_call 117;refine(HI.out _ (by exact rfl)).mono ?_;rintro _ w2 ⟨rfl,hfr,hone⟩;have HO:=Lib.hid (And.intro hfr hone);have S2:w2.cell? ⟨bP,0,none⟩=some (.pointer p0)∧w2.cell? ⟨bP,1,none⟩=some (.pointer p1)∧w2.cell? ⟨bP,2,none⟩=some (.pointer p2)∧w2.cell? ⟨bP,3,none⟩=some (.pointer p3):=Cb (hfr.block bP (by exact hlp) hne) S0))
  all_goals
   go_wp2_with fail
   exact bodyPost_ret (v:= .tuple #[]) (by simp [results,Tryz.results93]) rfl ⟨rfl,⟨HO.out.1.os,HO.out.1.tape,HO.out.1.output,HO.out.1.size,HO.out.1.block⟩,HO.out.2⟩
end
section
open Go Go.RowKit Go.MapKept
structure CW where
 L:Value
 R:Value
 S:Option Addr
 y:Six
 pa:Option Addr
 pn:Nat
 pc:Nat
 cmp:Nat
 leaf:Bool
 spare:Option Addr
 ha:Nat
def CW.obj (m:CW):Obj:= .cells #[m.L,m.R, .pointer m.S, .pointer m.y.y0, .pointer m.y.y1, .pointer m.y.y2, .pointer m.y.y3, .pointer m.y.y4, .bool false, .slice m.pa m.pn m.pc, .pointer (some ⟨m.cmp,0,none⟩), .bool m.leaf, .pointer m.spare, .iface 185 (.pointer (some ⟨m.ha,0,none⟩))] 145
def AK:Obj:= .cells #[.slice none 0 0, .slice none 0 0] 216
def TcOut (w:World)(wb bM:Nat)(m:CW)(same:Bool)(p0 p1 p2 p3:Option Addr)(w':World):Prop:=Fr (fun k=>k=wb∨k=bM) w.heap.size w w'∧w'.heap[wb]?=some m.obj∧(if same=true then w'.heap[bM]?=some AK else OneP w' w.heap.size bM p0 p1 p2 p3)
theorem tc_fr {w wa wx w2:World}{wb bM:Nat}(t:Az w wa wb)(hx:Bw wa wx)(h1:w2.os=wx.os)(h2:w2.tape=wx.tape)(h3:w2.output=wx.output)(h4:wx.heap.size≤w2.heap.size)(h5:∀k,k<wx.heap.size→¬k=bM→w2.heap[k]?=wx.heap[k]?):
  Fr (fun k=>k=wb∨k=bM) w.heap.size w w2:=by
 have e1:=t.size
 have e2:=hx.size
 exact⟨h1.trans (hx.os.trans t.os),h2.trans (hx.tape.trans t.tape),h3.trans (hx.output.trans t.output),by omega,fun k hk hn=>by
  simp only [not_or]at hn
  rw [h5 k (by omega) hn.2,hx.block k (by omega),t.block k hn.1]⟩
theorem tc_doLeaf (m:CW)(bl br wb bM bP:Nat)(r0 r2 p0 p1 p2 p3:Option Addr)(hL:m.L=Ab bl)(hR:m.R=Ab br)(hl:m.leaf=false)(hpa:m.pa=some ⟨bP,0,none⟩)(hpn:m.pn=1)(t u:JT)(H:Hp)(x y:Value)(w:World)(hi:Imm H w)(hHw:H wb=none)(cx:A8 H bl 0=some x)(cy:A8 H br 0=some y)(hx:RJ H t x)(hy:RJ H u y)(hb:w.heap[wb]?=some m.obj)
  (hC:w.heap[m.cmp]?=some (.cells #[.pointer r0, .pointer (some ⟨bM,0,none⟩), .pointer r2] 104)) (hM:w.heap[bM]?=some AK)
  (hP:w.cell? ⟨bP,0,none⟩=some (.pointer p0)∧w.cell? ⟨bP,1,none⟩=some (.pointer p1)∧w.cell? ⟨bP,2,none⟩=some (.pointer p2)∧w.cell? ⟨bP,3,none⟩=some (.pointer p3)) (hnP:¬bP=wb) (hnC:¬m.cmp=wb) (hnM:¬bM=wb) (hnCM:¬m.cmp=bM):
  Calls Tryz.prog 200 #[.pointer (some ⟨wb,0,none⟩)] w (fun e w'=>e= .returned (.tuple #[])∧TcOut w wb bM {m with leaf:=true} (eqJ u t) p0 p1 p2 p3 w'):=by
 rcases m with⟨L,R,S,⟨y0,y1,y2,y3,y4⟩,pa,pn,pc,cmp,leaf,spare,ha⟩
 simp only at hL hR hl hpa hpn hC hnC hnCM
 subst hL
 subst hR
 subst hl
 subst hpa
 subst hpn
 unfold CW.obj at hb
 simp only at hb
 have HB:=Lib.hid (And.intro hb (And.intro hC (And.intro hM hP)))
 have HI:=Lib.hid (And.intro hi hHw)
 have HE:=Lib.hid (fun w0 h0=>equ_c u.sz u t (Nat.le_refl _) H ha br bl y x w0 h0 cy cx hy hx)
 obtain⟨q,f⟩:=A1 hb
 have hlt:=A0 hb
 clear hb hi hx hy cx cy hC hM hP hHw
 go_enter Tryz.func200,Tryz.ntmps200
 go_upto_region 2 with(fail)
 obtain⟨wa,hwa⟩:∃wa,wa=w.setCell ⟨wb,11,none⟩ (.bool true):=⟨_,rfl⟩
 have HA:Hid (Az w wa wb∧wa.heap[wb]?=some (⟨Ab bl,Ab br,S,⟨y0,y1,y2,y3,y4⟩,some ⟨bP,0,none⟩,1,pc,cmp,true,spare,ha⟩:CW).obj):=by
  subst hwa
  refine⟨(Az.refl w wb).set _ _, ?_⟩
  have:=Ac HB.out.1 11 (.bool true)
  unfold CW.obj
  simpa using this
 rw [←hwa]
 clear hwa q f
 have hbw:=HA.out.2
 unfold CW.obj at hbw
 simp only at hbw
 have HAB:=Lib.hid hbw
 obtain⟨q,f⟩:=A1 hbw
 have hlt2:=A0 hbw
 have him:Hid (Imm H wa):=fun k o e=>by
  show wa.heap[k]?=_
  rw [HA.out.1.block k (fun h=>by subst h;rw [HI.out.2]at e;cases e)];exact HI.out.1 k o e
 have g0:=cell_regrown (q 0)
 have g1:=cell_regrown (q 1)
 have g13:=cell_regrown (q 13)
 clear hbw
 go_wp2_with fail
 have CA:=fun d os=>Calls.regrown_of (HE.out (Go.Sort.grow (redrawn wa d) os) (him.out.below (below_regrown wa d os)))
 refine wp_region_quiet_below (by kernel_rfl) (by kernel_rfl) ?_
 repeat (go_big_quiet_step (exact CA _ _))
 refine wpQuiet_nil ?_
 intro _ hw'
 obtain⟨⟨dq,osq⟩,hw''⟩:=hw'
 subst hw''
 obtain⟨wx,hwx,hw'⟩:∃x,Bw wa x∧x=Go.Sort.grow (redrawn wa dq) osq:=⟨_,below_regrown _ _ _,rfl⟩
 rw [←hw']
 clear hw'
 have HX:=Lib.hid hwx
 have hxb:=A2 hwx HAB.out
 have hxC:=A2 hwx ((HA.out.1.block cmp hnC).trans HB.out.2.1)
 have hxM:=A2 hwx ((HA.out.1.block bM hnM).trans HB.out.2.2.1)
 have hxP:wx.cell? ⟨bP,0,none⟩=some (.pointer p0)∧wx.cell? ⟨bP,1,none⟩=some (.pointer p1)∧wx.cell? ⟨bP,2,none⟩=some (.pointer p2)∧wx.cell? ⟨bP,3,none⟩=some (.pointer p3):=BJ hwx (Cb (HA.out.1.block bP hnP) HB.out.2.2.2)
 have HXX:=Lib.hid (And.intro hxb (And.intro hxC (And.intro hxM hxP)))
 clear g0 g1 g13 CA q f hwx hxM hxP
 obtain⟨q,f⟩:=A1 hxb
 obtain⟨qc,fc⟩:=A1 hxC
 have hltx:=A0 hxb
 have hltc:=A0 hxC
 clear hxb hxC
 cases hEq:eqJ u t
 ·have HS:=Lib.hid (fun w0 (h0:w0.heap=wx.heap)=>setIns_c bM bP pc p0 p1 p2 p3 w0 (by rw [h0];exact HXX.out.2.2.1) (Cb (w:=wx) (by rw [h0]) HXX.out.2.2.2))
  have S0:wx.cell? ⟨wb,10,none⟩=some (.pointer (some ⟨cmp,0,none⟩))∧wx.cell? ⟨wb,9,none⟩=some (.slice (some ⟨bP,0,none⟩) 1 pc)∧wx.cell? ⟨cmp,1,none⟩=some (.pointer (some ⟨bM,0,none⟩)):=⟨q 10,q 9,qc 1⟩
  have S1:wx.drew.cell? ⟨wb,10,none⟩=some (.pointer (some ⟨cmp,0,none⟩))∧wx.drew.cell? ⟨wb,9,none⟩=some (.slice (some ⟨bP,0,none⟩) 1 pc)∧wx.drew.cell? ⟨cmp,1,none⟩=some (.pointer (some ⟨bM,0,none⟩)):=S0
  have hnM2:¬wb=bM:=fun h=>hnM h.symm
  clear q f qc fc
  go_upto_region 7 with(fail)
  go_region_held3 (fun w'=>w'.cell? ⟨wb,10,none⟩=some (.pointer (some ⟨cmp,0,none⟩))∧w'.cell? ⟨wb,9,none⟩=some (.slice (some ⟨bP,0,none⟩) 1 pc)∧w'.cell? ⟨cmp,1,none⟩=some (.pointer (some ⟨bM,0,none⟩)))
   (first|(with_reducible exact S0)|(with_reducible exact S1)|(with_reducible exact S2)|go_keep)
   ((go_at_call 93;refine(HS.out _ (by exact rfl)).mono ?_;rintro _ w2 ⟨rfl,hfr,hone⟩;have HO:=Lib.hid (And.intro hfr hone);have S2:w2.cell? ⟨wb,10,none⟩=some (.pointer (some ⟨cmp,0,none⟩))∧w2.cell? ⟨wb,9,none⟩=some (.slice (some ⟨bP,0,none⟩) 1 pc)∧w2.cell? ⟨cmp,1,none⟩=some (.pointer (some ⟨bM,0,none⟩)):=⟨(Al (hfr.block wb (by exact hltx) hnM2) 10).trans S0.1,(Al (hfr.block wb (by exact hltx) hnM2) 9).trans S0.2.1,(Al (hfr.block cmp (by exact hltc) hnCM) 1).trans S0.2.2⟩))
  all_goals
   go_wp2_with fail
   go_end0
   refine⟨rfl, ?_, ?_, ?_⟩
   ·exact tc_fr HA.out.1 HX.out HO.out.1.os HO.out.1.tape HO.out.1.output HO.out.1.size HO.out.1.block
   ·exact(HO.out.1.block wb (by exact hltx) hnM2).trans HXX.out.1
   ·rw [if_neg (by simp [hEq])];exact HO.out.2.weak (by have e1:=HA.out.1.size;have e2:=HX.out.size;exact(by omega:w.heap.size≤wx.heap.size))
 ·go_wp2_with fail
  go_end0
  refine⟨rfl, ?_,HXX.out.1, ?_⟩
  ·exact tc_fr HA.out.1 HX.out rfl rfl rfl (Nat.le_refl _) (fun _ _ _=>rfl)
  ·rw [if_pos hEq];exact HXX.out.2.2.1
end
section
open Go Go.RowKit Go.MapKept
theorem tc_doScalar (sc:ByteArray)(t u:JT)(bs bl br wb:Nat)(ht:fitsJ sc t=true)(hu:fitsJ sc u=true)(H:Hp)(x y:Value)(w:World)(Q:World→World→Prop)(hi:Imm H w)
  (cs:A8 H bs 0=some (.string sc)) (cx:A8 H bl 0=some x) (cy:A8 H br 0=some y) (hx:RJ H t x) (hy:RJ H u y) (k0:w.cell? ⟨wb,0,none⟩=some (Ab bl)) (k1:w.cell? ⟨wb,1,none⟩=some (Ab br))
  (hD:∀w1,Bw w w1→Calls Tryz.prog 200 #[.pointer (some ⟨wb,0,none⟩)] w1 (fun e w2=>e= .returned (.tuple #[])∧Q w1 w2)):
  Calls Tryz.prog 203 #[.pointer (some ⟨wb,0,none⟩), .pointer (some ⟨bs,0,none⟩)] w (fun e w'=>e= .returned (.slice none 0 0)∧∃w1,Bw w w1∧Q w1 w'):=by
 have HD:=Lib.hid hD
 have HV1:=Lib.hid (fun pre w0 h0=>En sc pre t ht H bs bl x w0 h0 cs cx hx)
 have HV2:=Lib.hid (fun pre w0 h0=>En sc pre u hu H bs br y w0 h0 cs cy hy)
 have HI:=Lib.hid hi
 have hlt:=Ah k0
 clear hi hy hx ht hu hD
 go_enter Tryz.func203,Tryz.ntmps203
 go_wp2_with fail
 refine(HV1.out _ w HI.out).mono ?_
 rintro _ w1 ⟨rfl,hb1⟩
 have l1:=cell_later hb1 k1
 have hlt1:=Ah l1
 have HB1:=Lib.hid hb1
 clear hb1 k0 k1
 go_wp2_with fail
 refine(HV2.out _ w1 (HI.out.below HB1.out)).mono ?_
 rintro _ w2 ⟨rfl,hb2⟩
 have HB2:=Lib.hid (Bw.tr HB1.out hb2)
 clear hb2 l1
 go_wp2_with fail
 refine(HD.out w2 HB2.out).mono ?_
 rintro _ w3 ⟨rfl,ho⟩
 have HO:=Lib.hid ho
 clear ho
 go_wp2_with fail
 go_ret
 exact⟨rfl,w2,HB2.out,HO.out⟩
end
end Go.Proofs.YtmghkmhgpmcoaaaGreat
