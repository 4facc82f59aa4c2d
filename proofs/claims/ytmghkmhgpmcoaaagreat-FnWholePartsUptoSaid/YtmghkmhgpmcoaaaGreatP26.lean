/- What the claim's theorem 'proved' rests on: TcWhole, TcZip, TcVisit, TcRoot, FromSet, Elems, SetsA. -/
import Derived.Test.YtmghkmhgpmcoaaaGreatP24
import Derived.Test.YtmghkmhgpmcoaaaGreatP25
import Derived.Test.YtmghkmhgpmcoaaaGreatP27
import Derived.Test.YtmghkmhgpmcoaaaGreatP30
set_option linter.unusedVariables false
set_option linter.unusedSimpArgs false
set_option maxRecDepth 100000
set_option maxHeartbeats 10000000
namespace Go.Proofs.YtmghkmhgpmcoaaaGreat
section
open Go Go.RowKit Go.MapKept
def ChildC (H:Hp)(r:As)(t u:JT)(S:Option Addr)(bM cmp:Nat)(r0 r2:Option Addr):Prop:=∀(K:Hp) (bl br bP:Nat) (p0:Option Addr) (x yv:Value) (w1:World) (w2b:Nat) (m2:CW) (y:Six),Hle H K→Imm K w1→A8 K bl 0=some x→A8 K br 0=some yv→RJ H t x→RJ H u yv→BM Ak K r y→K w2b=none→m2.L=Ab bl→m2.R=Ab br→m2.S=S→m2.y=y→m2.leaf=false→m2.cmp=cmp→m2.pa=some ⟨bP,0,none⟩→m2.pn=1→
 w1.heap[cmp]?=some (.cells #[.pointer r0, .pointer (some ⟨bM,0,none⟩), .pointer r2] 104)→w1.heap[bM]?=some AK→(w1.cell? ⟨bP,0,none⟩=some (.pointer p0)∧w1.cell? ⟨bP,1,none⟩=some (.pointer none)∧w1.cell? ⟨bP,2,none⟩=some (.pointer none)∧w1.cell? ⟨bP,3,none⟩=some (.pointer none))→¬bP=w2b→¬cmp=w2b→¬bM=w2b→¬cmp=bM→w1.heap[w2b]?=some m2.obj→
 Calls Tryz.prog 62 #[.pointer (some ⟨w2b,0,none⟩), .nilFunc] w1 (fun e w'=>e= .returned (.slice none 0 0)∧∃wx wy,Bw w1 wx∧TcOut wx w2b bM {m2 with leaf:=true} (eqJ u t) p0 none none none wy∧Bw wy w')
theorem CW.far {m:CW}{H:Hp}{w:World}{wb b i:Nat}{s:ByteArray}(hi:Imm H w)(hL:∃b1,m.L=Ab b1)(hb:w.heap[wb]?=some m.obj)(hc:A8 H b i=some (.string s))(hii:i=0∨i=6∨i=8):¬b=wb:=by
 rintro rfl
 obtain⟨b1,hL⟩:=hL
 unfold CW.obj at hb
 have h:=hi.cell hc
 have q:=(A1 hb).1
 rcases hii with rfl|rfl|rfl
 ·have:=q 0;rw [h]at this;simp [hL]at this
 ·have:=q 6;rw [h]at this;simp at this
 ·have:=q 8;rw [h]at this;simp at this
theorem tc_leaf (s:List Ax)(r:As)(a:Ap)(t u:JT)(hres:Av s r=some a)(hnn:Bf a=true)(h1:Ck a t)(h2:Ck a u)(S:Option Addr)(bM cmp:Nat)(r0 r2:Option Addr)(H:Hp)(hS:AO Ak H s (.pointer S)):ChildC H r t u S bM cmp r0 r2:=by
 intro K bl br bP p0 x yv w1 wb m2 y hHK hiK cx cy hx hy hr hn e1 e2 e3 e4 e5 e6 e7 e8 hcmp hM0 hcp hnP hnC hnM hnCM hb
 subst e4
 refine(tc_merge m2 s r a bl br wb e1 e2 hres hnn K w1 hiK (by rw [e3];exact hS.mono hHK) hr hb ?_ ?_ (fun wa wd=>∃wc,Bw wa wc∧TcOut wc wb bM {m2 with leaf:=true} (eqJ u t) p0 none none none wd) ?_ ?_).mono ?_
 ·intro K2 w2 p1 p2 p3 hi2 hk2 hq
  have hx2:=(hx.mono hHK).mono hk2
  have cx2:=A7 hk2 cx
  cases h1 with
  |sc sc t he hf=>
   simp only [AI,QLi,QMa,Bk,he]at hq
   obtain⟨⟨b,rfl,_⟩,rfl,rfl⟩:=hq
   exact Do t (fitsJ_sc hf) K2 bl x _ w2 hi2 cx2 hx2
  |li sc e rel keys r l he hf hl=>
   simp only [AI,QLi,QMa,Bk,he,if_true]at hq
   obtain⟨rfl,⟨b,_,_,rfl,_⟩,rfl⟩:=hq
   exact Dp (.list l) rfl K2 bl x _ w2 hi2 cx2 hx2
  |ma sc fs e rel r ks vs he hf hl=>
   simp only [AI,QLi,QMa,Bk,he,if_true]at hq
   obtain⟨rfl,rfl,b,_,_,rfl,_⟩:=hq
   exact BR (.map ks vs) rfl K2 bl x _ w2 hi2 cx2 hx2
 ·intro K2 w2 p1 p2 p3 hi2 hk2 hq
  have hx2:=(hy.mono hHK).mono hk2
  have cx2:=A7 hk2 cy
  cases h2 with
  |sc sc t he hf=>
   simp only [AI,QLi,QMa,Bk,he]at hq
   obtain⟨⟨b,rfl,_⟩,rfl,rfl⟩:=hq
   exact Do u (fitsJ_sc hf) K2 br yv _ w2 hi2 cx2 hx2
  |li sc e rel keys r l he hf hl=>
   simp only [AI,QLi,QMa,Bk,he,if_true]at hq
   obtain⟨rfl,⟨b,_,_,rfl,_⟩,rfl⟩:=hq
   exact Dp (.list l) rfl K2 br yv _ w2 hi2 cx2 hx2
  |ma sc fs e rel r ks vs he hf hl=>
   simp only [AI,QLi,QMa,Bk,he,if_true]at hq
   obtain⟨rfl,rfl,b,_,_,rfl,_⟩:=hq
   exact BR (.map ks vs) rfl K2 br yv _ w2 hi2 cx2 hx2
 ·intro K2 w2 p1 p2 p3 hb2 hi2 hk2 _ hq
  have hk3:Hle K (Dk K2 wb):=dropB_le hk2 hn
  have hi3:Imm (Dk K2 wb) w2:=dropB_imm hi2
  have hx2:=(hx.mono hHK).mono hk3
  have hy2:=(hy.mono hHK).mono hk3
  have cx2:=A7 hk3 cx
  have cy2:=A7 hk3 cy
  have hbb:=A2 hb2 hb
  have hd:=fun w0 (hb0:Bw w2 w0)=>tc_doLeaf m2 bl br wb bM bP r0 r2 p0 none none none e1 e2 e5 e7 e8 t u (Dk K2 wb) x yv w0 (hi3.below hb0) dropB_none cx2 cy2 hx2 hy2 (A2 hb0 hbb) (by rw [e6];exact A2 hb0 (A2 hb2 hcmp)) (A2 hb0 (A2 hb2 hM0)) (BJ (hb2.tr hb0) hcp) hnP (by rw [e6];exact hnC) hnM (by rw [e6];exact hnCM)
  have q:=(A1 (show w2.heap[wb]?=some (.cells _ _) from hbb)).1
  cases h1 with
  |sc sc t he hf=>
   cases h2 with
   |sc _ _ _ hf2=>
   simp only [AI,QLi,QMa,Bk,he]at hq
   obtain⟨⟨b,rfl,hcs,_⟩,rfl,rfl⟩:=hq
   refine(E2 _ ⟨wb,0,none⟩ m2.y w2 (fun wa wd=>∃wc,Bw wa wc∧TcOut wc wb bM {m2 with leaf:=true} (eqJ u t) p0 none none none wd) (fun w3 hb3=>tc_doScalar sc t u b bl br wb hf hf2 (Dk K2 wb) x yv w3 (fun wa wd=>TcOut wa wb bM {m2 with leaf:=true} (eqJ u t) p0 none none none wd) (hi3.below hb3) (DG (CW.far hi2 ⟨_,e1⟩ hbb hcs (by simp)) hcs) cx2 cy2 hx2 hy2
    (by have:=(A1 (show w3.heap[wb]?=some (.cells _ _) from A2 hb3 hbb)).1 0;simpa [e1]using this) (by have:=(A1 (show w3.heap[wb]?=some (.cells _ _) from A2 hb3 hbb)).1 1;simpa [e2]using this)
    (fun w4 hb4=>hd w4 (hb3.tr hb4)))).mono ?_
   rintro _ w5 ⟨rfl,wq,g1,wr,g2,g3⟩
   exact⟨rfl,wr,Bw.tr g1 g2,g3⟩
  |li sc e rel keys r l he hf hl=>
   cases h2 with
   |li _ _ _ _ _ l2 _ _ hl2=>
   simp only [AI,QLi,QMa,Bk,he,if_true]at hq
   obtain⟨rfl,⟨b,_,_,rfl,_,hcr,_⟩,rfl⟩:=hq
   obtain⟨a1,c1,rfl⟩:=hx2.listA
   obtain⟨a2,c2,rfl⟩:=hy2.listA
   refine(Eo _ ⟨wb,0,none⟩ m2.y w2 (fun wa wd=>∃wc,Bw wa wc∧TcOut wc wb bM {m2 with leaf:=true} _ p0 none none none wd) (fun w3 hb3=>typedcompare_doListA l l2 hl (Dk K2 wb) bl br wb b m2.ha a1 a2 c1 c2 rel hf w3 (fun wa wd=>TcOut wa wb bM {m2 with leaf:=true} _ p0 none none none wd) (hi3.below hb3) cx2 hx2 cy2 hy2 (DG (CW.far hi2 ⟨_,e1⟩ hbb hcr (by simp)) hcr)
    (by have:=(A1 (show w3.heap[wb]?=some (.cells _ _) from A2 hb3 hbb)).1 0;simpa [e1]using this) (by have:=(A1 (show w3.heap[wb]?=some (.cells _ _) from A2 hb3 hbb)).1 1;simpa [e2]using this) (by have:=(A1 (show w3.heap[wb]?=some (.cells _ _) from A2 hb3 hbb)).1 13;simpa using this)
    (fun w4 hb4=>hd w4 (hb3.tr hb4)))).mono ?_
   rintro _ w5 ⟨rfl,wq,g1,wr,g2,g3⟩
   exact⟨rfl,wr,Bw.tr g1 g2,g3⟩
  |ma sc fs e rel r ks vs he hf hl=>
   cases h2 with
   |ma _ _ _ _ _ ks2 vs2 _ _ hl2=>
   simp only [AI,QLi,QMa,Bk,he,if_true]at hq
   obtain⟨rfl,rfl,b,_,_,rfl,_,_,_,hcr,_⟩:=hq
   obtain⟨a1,_,_,rfl,_⟩:=hx2.mapAt
   obtain⟨a2,_,_,rfl,_⟩:=hy2.mapAt
   refine(CU _ ⟨wb,0,none⟩ m2.y w2 (fun wa wd=>∃wc,Bw wa wc∧TcOut wc wb bM {m2 with leaf:=true} _ p0 none none none wd) (fun w3 hb3=>typedcompare_doMapA ks ks2 vs vs2 hl (Dk K2 wb) bl br wb b m2.ha a1 a2 rel hf w3 (fun wa wd=>TcOut wa wb bM {m2 with leaf:=true} _ p0 none none none wd) (hi3.below hb3) cx2 hx2 cy2 hy2 (DG (CW.far hi2 ⟨_,e1⟩ hbb hcr (by simp)) hcr)
    (by have:=(A1 (show w3.heap[wb]?=some (.cells _ _) from A2 hb3 hbb)).1 0;simpa [e1]using this) (by have:=(A1 (show w3.heap[wb]?=some (.cells _ _) from A2 hb3 hbb)).1 1;simpa [e2]using this) (by have:=(A1 (show w3.heap[wb]?=some (.cells _ _) from A2 hb3 hbb)).1 13;simpa using this)
    (fun w4 hb4=>hd w4 (hb3.tr hb4)))).mono ?_
   rintro _ w5 ⟨rfl,wq,g1,wr,g2,g3⟩
   exact⟨rfl,wr,Bw.tr g1 g2,g3⟩
 ·rintro w2 w3 hb2 ⟨wc,g1,hfr,g3,_⟩
  refine⟨⟨_,g3,rfl,rfl,rfl⟩,fun k hk hk2=> ?_⟩
  have hlt:=A0 hb
  have hlM:=A0 hM0
  rw [hfr.block k (Nat.lt_of_lt_of_le hk2 g1.size) (by omega)]
  exact g1.block k hk2
 ·rintro _ w4 ⟨rfl,w2,w3,hb2,⟨wc,g1,g2⟩,hb4⟩
  exact⟨rfl,wc,w3,Bw.tr hb2 g1,g2,hb4⟩
end
section
open Go Go.RowKit Go.MapKept
def ModH (lo bM:Nat)(key:ByteArray)(same:Bool)(K:Hp):Prop:=if same=true then K bM=some AK else
 ∃kb b2 c,lo≤kb∧lo≤b2∧K bM=some (.cells #[.slice (some ⟨b2,0,none⟩) 1 c, .slice none 0 0] 216)∧A8 K b2 0=some (.pointer (some ⟨kb,0,none⟩))∧A8 K b2 1=some (.pointer none)∧A8 K b2 2=some (.pointer none)∧A8 K b2 3=some (.pointer none)∧A8 K kb 0=some (.string key)∧¬b2=bM∧¬kb=bM
theorem ModH.mono {lo bM:Nat}{key:ByteArray}{same:Bool}{K K':Hp}(hk:Hle K K')(h:ModH lo bM key same K):ModH lo bM key same K':=by
 unfold ModH at h⊢
 split at h
 ·rename_i hs;rw [if_pos hs];exact hk _ _ h
 ·rename_i hs;rw [if_neg hs]
  obtain⟨kb,b2,c,h1,h2,h3,h4,h5,h6,h7,h8,h9⟩:=h
  exact⟨kb,b2,c,h1,h2,hk _ _ h3,A7 hk h4,A7 hk h5,A7 hk h6,A7 hk h7,A7 hk h8,h9⟩
theorem Ez {n b o:Nat}{w:World}{v:Value}(h:w.cell? ⟨b,o,none⟩=some v)(h1:b≠n)(h2:b≠n+1):A8 (CS n w) b o=some v:=by
 rw [←Ai]at h
 unfold A8 at h⊢
 have:CS n w b=At w b:=by unfold CS At;rw [if_neg (by omega)]
 rw [this];exact h
theorem B4.mask {lo n bM:Nat}{key:ByteArray}{same:Bool}{w:World}(h:B4 lo bM key same w)(hn:n+2≤lo)(h1:bM≠n)(h2:bM≠n+1):ModH lo bM key same (CS n w):=by
 unfold B4 at h
 unfold ModH
 split at h
 ·rename_i hs;rw [if_pos hs];exact mask_in h h1 h2
 ·rename_i hs;rw [if_neg hs]
  obtain⟨kb,g1,⟨b2,c,g2,g3,g4,g5,g6,g7,g8⟩,g9,g10⟩:=h
  exact⟨kb,b2,c,g1,g2,mask_in g3 h1 h2,Ez g4 (by omega) (by omega),Ez g5 (by omega) (by omega),Ez g6 (by omega) (by omega),Ez g7 (by omega) (by omega),Ez g9 (by omega) (by omega),g8,g10⟩
theorem ModH.weak {lo lo2 bM:Nat}{key:ByteArray}{same:Bool}{K:Hp}(h:ModH lo bM key same K)(hl:lo2≤lo):ModH lo2 bM key same K:=by
 unfold ModH at h⊢
 split at h
 ·rename_i hs;rw [if_pos hs];exact h
 ·rename_i hs;rw [if_neg hs]
  obtain⟨kb,b2,c,h1,h2,h3⟩:=h
  exact⟨kb,b2,c,by omega,by omega,h3⟩
theorem ModH.out {lo bM:Nat}{key:ByteArray}{same:Bool}{w:World}(h:ModH lo bM key same (At w)):B4 lo bM key same w:=by
 unfold ModH at h
 unfold B4
 split at h
 ·rename_i hs;rw [if_pos hs];exact h
 ·rename_i hs;rw [if_neg hs]
  obtain⟨kb,b2,c,h1,h2,h3,h4,h5,h6,h7,h8,h9,h10⟩:=h
  rw [Ai]at h4 h5 h6 h7 h8
  exact⟨kb,h1,⟨b2,c,h2,h3,h4,h5,h6,h7,h9⟩,h8,h10⟩
def TcInv (m:CW)(wb bt ob be bw bT bo bM lo:Nat)(r0 r2:Option Addr)(key:ByteArray)(same:Bool)(L:List Nat)(K:Hp):Prop:=
 (∃m':CW,(L=[]→m'=m)∧(∃pa pn pc sp,m'={m with pa:=pa,pn:=pn,pc:=pc,spare:=sp})∧K wb=some m'.obj)∧
 K be=some (.cells #[.slice none 0 0] 134)∧K bw=some (.cells #[.pointer (some ⟨wb,0,none⟩)] 138)∧K bT=some (.cells #[.pointer (some ⟨bt,0,none⟩)] 78)∧K bo=some (.cells #[.map (some ob)] 190)∧
 K m.cmp=some (.cells #[.pointer r0, .pointer (some ⟨bM,0,none⟩), .pointer r2] 104)∧(L=[]→K bM=some AK)∧(¬L=[]→ModH lo bM key same K)
theorem TcInv.mono {m:CW}{wb bt ob be bw bT bo bM lo:Nat}{r0 r2:Option Addr}{key:ByteArray}{same:Bool}(L:List Nat)(K K':Hp)(hk:Hle K K')(h:TcInv m wb bt ob be bw bT bo bM lo r0 r2 key same L K):TcInv m wb bt ob be bw bT bo bM lo r0 r2 key same L K':=by
 obtain⟨⟨m',a,b,c⟩,d,e,f,g,i,j,l⟩:=h
 exact⟨⟨m',a,b,hk _ _ c⟩,hk _ _ d,hk _ _ e,hk _ _ f,hk _ _ g,hk _ _ i,fun x=>hk _ _ (j x),fun x=>(l x).mono hk⟩
theorem tc_zipFn (m:CW)(wb bt ob be bw bT bo b1 b2 bM lo:Nat)(r0 r2:Option Addr)(key:ByteArray)(r:As)(t u:JT)(H:Hp)(w:World)(hL:m.L=Ab b1)(hR:m.R=Ab b2)(hsp:m.spare=none)(hpa:m.pa=none)(hpn:m.pn=0)(hpc:m.pc=0)(hleaf:m.leaf=false)(hi:Imm H w)(hks:key.size≤lim)(ht:OneF H bt key r)
  (hX:∀k,(k=wb∨k=bM∨k=be)→H k=none) (hlt:∀k,(k=wb∨k=bM∨k=be∨k=bw∨k=bT∨k=bo∨k=m.cmp)→k<w.heap.size) (hwM:wb≠bM) (hcw:m.cmp≠wb) (hcM:m.cmp≠bM) (hce:m.cmp≠be) (n1:¬bw=be) (n2:¬bT=be) (n3:¬bo=be) (hw:∀k,(k=be∨k=bw∨k=bT∨k=bo)→¬k=wb∧¬k=bM) (hlo:lo≤w.heap.size)
  (hM:ChildC H r t u m.S bM m.cmp r0 r2):
  ZipFn H 221 #[.pointer (some ⟨be,0,none⟩), .pointer (some ⟨bw,0,none⟩), .pointer (some ⟨bT,0,none⟩), .pointer (some ⟨bo,0,none⟩)] (fun k=>k=wb∨k=bM∨k=be) (TcInv m wb bt ob be bw bT bo bM lo r0 r2 key (eqJ u t)) [key] [t] [key] [u] w:=by
 intro L j hj j2 hj2 k n w1 bL bR x y hk hk2 hfr hn hn2 hbL hbR hne hbx hby hx hy hinv hnd hlL hjL
 obtain rfl:j=0:=by simpa using hj
 obtain rfl:j2=0:=by simpa using hj2
 obtain rfl:k=key:=by simpa using hk.symm
 have hL0:L=[]:=by
  cases L with
  |nil=>rfl
  |cons a l=>have h1:=hlL a (by simp);simp at h1;subst h1;simp at hjL
 subst hL0
 obtain⟨⟨m',hm1,_,hmo⟩,he,hw_,ht_,ho_,hcmp,hM0,_⟩:=hinv
 have hmm:m'=m:=hm1 rfl
 rw [hmm]at hmo
 have hi1:Imm H w1:=hfr.imm hi hX
 have hbb:FcBoxes w1 be bw bT bo wb bt ob:=⟨Be he,Be hw_,Be ht_,Be ho_⟩
 have hM1:=Be (hM0 rfl)
 have hcmp1:=Be hcmp
 have hlb:=hlt wb (.inl rfl)
 have hlM:=hlt bM (.inr (.inl rfl))
 have hlc:=hlt m.cmp (.inr (.inr (.inr (.inr (.inr (.inr rfl))))))
 refine(tc_itemFn m wb bt ob bL bR be bw bT bo bM k (eqJ u t) w1 hbb n1 n2 n3 hw ?_).mono ?_
 ·intro wq hbq
  have hiq:=hi1.below hbq
  have hK:=two_le (bl:=bL) (br:=bR) hiq
  have hnone:∀c,H c=none→c<w.heap.size→two H bL bR wq c=none:=fun c hc hl=>by unfold two;rw [if_neg (by omega)];exact hc
  refine tc_item m wb bt ob bL bR b1 b2 bM k r (eqJ u t) (two H bL bR wq) wq hL hR hsp hpa hpn hpc (two_imm hiq) (hnone _ (hX _ (.inl rfl)) hlb) (hnone _ (hX _ (.inr (.inl rfl))) hlM) hwM hks (ht.mono hK) (A2 hbq (Be hmo)) (A2 hbq hM1) ?_
  intro w3 w2b bP p0 m2 yy hf3 hl2b hlbP hne2 hq3 hi3 hn3 e1 e2 e3 e4 e5 e6 e7 e8 e9 hcp hb3
  have hs1:=hfr.size
  have hs2:=hbq.size
  have hold:∀c o,w1.heap[c]?=some o→¬c=wb→w3.heap[c]?=some o:=fun c o ho hc=>by
   have hq:=A2 hbq ho
   rw [hf3.block c (A0 hq) hc];exact hq
  exact hM (two H bL bR wq) bL bR bP p0 x y w3 w2b m2 yy hK hi3 (two_cell (.inl rfl) (A2 hbq hbx)) (two_cell (.inr rfl) (A2 hbq hby)) hx hy hq3 hn3 e1 e2 e3 e4 (e5.trans hleaf) e7 e8 e9 (hold _ _ hcmp1 hcw) (hold _ _ hM1 (fun h=>hwM h.symm)) hcp hne2 (by omega) (by omega) hcM hb3
 ·rintro e w2 ⟨rfl,hfr2,hb2,⟨pa,pn,pc,sp,hmb⟩,hmod⟩
  have hs1:=hfr.size
  have hin:∀c o,c<w.heap.size→w2.heap[c]?=some o→CS n w2 c=some o:=fun c o hc ho=>mask_in ho (by omega) (by omega)
  refine⟨rfl,⟨hfr2.os,hfr2.tape,hfr2.output,hfr2.size,fun c hc hx2=>hfr2.block c (by omega) hx2⟩,⟨_,fun h=>by simp at h,⟨pa,pn,pc,sp,rfl⟩,hin _ _ hlb hmb⟩,hin _ _ (hlt _ (.inr (.inr (.inl rfl)))) hb2.e,hin _ _ (hlt _ (.inr (.inr (.inr (.inl rfl))))) hb2.w_,hin _ _ (hlt _ (.inr (.inr (.inr (.inr (.inl rfl)))))) hb2.t_,hin _ _ (hlt _ (.inr (.inr (.inr (.inr (.inr (.inl rfl))))))) hb2.o_,hin _ _ hlc ?_,fun h=>by simp at h,fun _=> ?_⟩
  ·rw [hfr2.block m.cmp (by omega) (by simp only [not_or];exact⟨hcw,hcM,hce⟩)];exact hcmp1
  ·exact(hmod.mask hn2 (by omega) (by omega)).weak (by omega)
end
section
open Go Go.RowKit Go.MapKept
def CVisitOut (m:CW)(wb bM:Nat)(key:ByteArray)(same:Bool)(w:World):Ending→World→Prop:=fun e w'=>e= .returned (.slice none 0 0)∧Fr (fun k=>k=wb∨k=bM) w.heap.size w w'∧
 (∃pa pn pc sp,w'.heap[wb]?=some ({m with pa:=pa,pn:=pn,pc:=pc,spare:=sp}:CW).obj)∧B4 w.heap.size bM key same w'
theorem tc_visit (m:CW)(wb bt b1 b2 r1 r2 bM:Nat)(q0 q2:Option Addr)(key:ByteArray)(r:As)(t u:JT)(H:Hp)(w:World)(hL:m.L=Ab b1)(hR:m.R=Ab b2)(hsp:m.spare=none)(hpa:m.pa=none)(hpn:m.pn=0)(hpc:m.pc=0)(hleaf:m.leaf=false)(hi:Imm H w)(hHw:H wb=none)(hHM:H bM=none)(hks:key.size≤lim)(ht:OneF H bt key r)(hb:w.heap[wb]?=some m.obj)
  (hC:w.heap[m.cmp]?=some (.cells #[.pointer q0, .pointer (some ⟨bM,0,none⟩), .pointer q2] 104)) (hM0:w.heap[bM]?=some AK) (hwM:wb≠bM) (hcw:m.cmp≠wb) (hcM:m.cmp≠bM)
  (es1 es2:Array MapEntry) (ck1 ck2:Nat) (hm1:Cw H r1 [key] [t] es1 ck1) (hm2:Cw H r2 [key] [u] es2 ck2) (hM:ChildC H r t u m.S bM m.cmp q0 q2):
  Calls Tryz.prog 208 #[.pointer (some ⟨wb,0,none⟩), .pointer (some ⟨bt,0,none⟩), .iface 446 (.map (some r1)), .iface 446 (.map (some r2))] w (CVisitOut m wb bM key (eqJ u t) w):=by
 have hlt:=A0 hb
 have hltM:=A0 hM0
 have hltC:=A0 hC
 obtain⟨wz,hwz⟩:∃wz,wz=((((w.alloc (.cells #[.pointer (some ⟨wb,0,none⟩)] 138)).alloc (.cells #[.pointer (some ⟨bt,0,none⟩)] 78)).alloc (.cells #[.slice none 0 0] 134)).alloc (.map #[] 0)).alloc (.cells #[.map (some (w.heap.size+1+1+1))] 190):=⟨_,rfl⟩
 have HZ:Hid (Bw w wz∧wz.heap.size=w.heap.size+5∧FcBoxes wz (w.heap.size+1+1) w.heap.size (w.heap.size+1) (w.heap.size+1+1+1+1) wb bt (w.heap.size+1+1+1)∧wz.heap[w.heap.size+1+1+1]?=some (.map #[] 0)):=by
  subst hwz;exact⟨(Co.al _).al _,by simp,⟨b5_2,b5_0,b5_1,b5_4⟩,b5_3⟩
 have hnone:∀k,w.heap.size≤k→H k=none:=fun k hk=>by
  cases hh:H k with
  |none=>rfl
  |some o=>have:=A0 (hi _ _ hh);omega
 have hX:∀k,(k=wb∨k=bM∨k=w.heap.size+1+1)→H k=none:=by
  rintro k (rfl|rfl|rfl)
  ·exact hHw
  ·exact hHM
  ·exact hnone _ (by omega)
 have hlts:∀k,(k=wb∨k=bM∨k=w.heap.size+1+1∨k=w.heap.size∨k=w.heap.size+1∨k=w.heap.size+1+1+1+1∨k=m.cmp)→k<wz.heap.size:=by
  intro k hk;rw [HZ.out.2.1];omega
 have HC:=Lib.hid (mapZip_c (H:=H) (r1:=r1) (r2:=r2) (ks1:=[key]) (ks2:=[key]) (vs1:=[t]) (vs2:=[u]) (w:=wz) (X:=fun k=>k=wb∨k=bM∨k=w.heap.size+1+1) (Inv:=TcInv m wb bt (w.heap.size+1+1+1) (w.heap.size+1+1) w.heap.size (w.heap.size+1) (w.heap.size+1+1+1+1) bM w.heap.size q0 q2 key (eqJ u t))
  ⟨⟨_,_,hm1⟩,⟨_,_,hm2⟩,by simp,fun k hk=>hk,fun k hk=>hk,enters_of Tryz.func221 (by kernel_rfl) rfl,TcInv.mono,hi.below HZ.out.1,fun k hk=>⟨hlts k (by rcases hk with h|h|h<;>simp [h]),hX k hk⟩,
   ⟨⟨m,fun _=>rfl,⟨m.pa,m.pn,m.pc,m.spare,rfl⟩,A2 HZ.out.1 hb⟩,HZ.out.2.2.1.e,HZ.out.2.2.1.w_,HZ.out.2.2.1.t_,HZ.out.2.2.1.o_,A2 HZ.out.1 hC,fun _=>A2 HZ.out.1 hM0,fun h=>absurd rfl h⟩,
   tc_zipFn m wb bt _ _ _ _ _ b1 b2 bM w.heap.size q0 q2 key r t u H wz hL hR hsp hpa hpn hpc hleaf (hi.below HZ.out.1) hks ht hX hlts hwM hcw hcM (by omega) (by omega) (by omega) (by omega) (by intro k hk;omega) HZ.out.1.size hM⟩ m.ha)
 have HWZ:=Lib.hid hwz.symm
 have HB:=Lib.hid hb
 unfold CW.obj at hb
 have k13:=(A1 hb).1 13
 have hmf:∀(fn:Fn) (first cap:Array Value) (w:World),(Instr.makeFunc fn first cap).run Tryz.prog w= .ok (.func fn first cap) w:=fun _ _ _ _=>rfl
 have v1:wb<w.heap.size+1:=by omega
 have v2:wb<w.heap.size+1+1:=by omega
 have v3:wb<w.heap.size+1+1+1:=by omega
 have v4:wb<w.heap.size+1+1+1+1:=by omega
 have hmm:= @run_makeMap Tryz.prog
 clear hwz hnone hX hlts hb hm1 hm2 hM ht hi hC hM0
 go_enter Tryz.func208,Tryz.ntmps208
 go_wp2_with fail
 rw [HWZ.out]
 refine HC.out.mono ?_
 rintro _ w1 ⟨rfl,hfr,L,hnd,hL1,hinv⟩
 have hL0:¬L=[]:=by
  intro e;subst e
  have:=(hL1 0).2 (by simp)
  simp at this
 obtain⟨⟨m',_,⟨pa',pn',pc',sp',hm'⟩,hmo⟩,he,hw_,ht_,ho_,hcm,_,hmod⟩:=hinv
 subst hm'
 have HI:=Lib.hid (And.intro hfr (And.intro hmo (And.intro he (hmod hL0).out)))
 have he1:w1.heap[w.heap.size+1+1]?=_:=he
 obtain⟨q,f⟩:=A1 he1
 have hle1:w.heap.size+1+1<w1.heap.size:=A0 he
 clear hfr hmo he hw_ ht_ ho_ hcm hmod hnd hL1 HC hmm k13 he1
 go_wp2_with fail
 refine bodyPost_ret (v:= .slice none 0 0) (by simp [results,Tryz.results208,go_sem,q]) rfl ?_
 obtain⟨hfr,hmo,he,hmod⟩:=HI.out
 obtain⟨hz1,hz2,_,_⟩:=HZ.out
 have t2:Az w1 (w1.setCell ⟨w.heap.size+1+1,0,none⟩ (.slice none 0 0)) (w.heap.size+1+1):=(Az.refl w1 _).set _ _
 have hsz1:=hfr.size
 refine⟨rfl,⟨t2.os.trans (hfr.os.trans hz1.os),t2.tape.trans (hfr.tape.trans hz1.tape),t2.output.trans (hfr.output.trans hz1.output),by rw [t2.size];omega,fun k hk hx=> ?_⟩,⟨pa',pn',pc',sp', ?_⟩,hmod.turn t2 he (by omega)⟩
 ·simp only [not_or]at hx
  rw [t2.block k (by omega),hfr.block k (by omega) (by simp only [not_or];exact⟨hx.1,hx.2,by omega⟩)]
  exact hz1.block k hk
 ·rw [t2.block wb (by omega)];exact hmo
end
section
open Go Go.RowKit Go.MapKept
def TcRoot (m:CW)(wb bM:Nat)(key:ByteArray)(same:Bool)(w w':World):Prop:=Fr (fun k=>k=wb∨k=bM) w.heap.size w w'∧
 (∃pa pn pc sp,w'.heap[wb]?=some ({m with pa:=pa,pn:=pn,pc:=pc,spare:=sp}:CW).obj)∧B4 w.heap.size bM key same w'
theorem B4.bw {lo bM:Nat}{key:ByteArray}{same:Bool}{w w':World}(h:B4 lo bM key same w)(hb:Bw w w'):B4 lo bM key same w':=by
 unfold B4 at h⊢
 split at h
 ·rename_i hs;rw [if_pos hs];exact A2 hb h
 ·rename_i hs;rw [if_neg hs]
  obtain⟨kb,h1,h2,h3,h4⟩:=h
  exact⟨kb,h1,h2.bw hb,cell_later hb h3,h4⟩
theorem B4.weak {lo lo2 bM:Nat}{key:ByteArray}{same:Bool}{w:World}(h:B4 lo bM key same w)(hl:lo2≤lo):B4 lo2 bM key same w:=by
 unfold B4 at h⊢
 split at h
 ·rename_i hs;rw [if_pos hs];exact h
 ·rename_i hs;rw [if_neg hs]
  obtain⟨kb,h1,h2,h3,h4⟩:=h
  exact⟨kb,by omega,h2.weak hl,h3,h4⟩
theorem tc_root (m:CW)(s:List Ax)(rr:As)(sc:ByteArray)(key:ByteArray)(r fe:As)(rel:ByteArray)(rest:List Bp)(a:Ap)(t u:JT)(hres:Av s rr=some ⟨sc,[],⟨[⟨key,r,[]⟩],fe,rel⟩::rest⟩)(hrel:(rel.toList==An)=false)(hsc:sc.toList.isEmpty=true)(hnr:Bf ⟨sc,[],⟨[⟨key,r,[]⟩],fe,rel⟩::rest⟩=true)
  (hrec:Av s r=some a) (hnn:Bf a=true) (h1:Ck a t) (h2:Ck a u) (hks:key.size≤lim) (bl br wb bM:Nat) (q0 q2:Option Addr) (hL:m.L=Ab bl) (hR:m.R=Ab br) (hleaf:m.leaf=false) (hsp:m.spare=none) (hpa:m.pa=none) (hpn:m.pn=0) (hpc:m.pc=0)
  (H:Hp) (w:World) (hi:Imm H w) (hS:AO Ak H s (.pointer m.S)) (hr:BM Ak H rr m.y) (x y:Value) (cx:A8 H bl 0=some x) (cy:A8 H br 0=some y) (hx:RJ H (.map [key] [t]) x) (hy:RJ H (.map [key] [u]) y) (hHw:H wb=none) (hHM:H bM=none) (hb:w.heap[wb]?=some m.obj)
  (hC:w.heap[m.cmp]?=some (.cells #[.pointer q0, .pointer (some ⟨bM,0,none⟩), .pointer q2] 104)) (hM0:w.heap[bM]?=some AK) (hwM:wb≠bM) (hcw:m.cmp≠wb) (hcM:m.cmp≠bM):
  Calls Tryz.prog 62 #[.pointer (some ⟨wb,0,none⟩), .nilFunc] w (fun e w'=>e= .returned (.slice none 0 0)∧TcRoot m wb bM key (eqJ u t) w w'):=by
 have hlt:=A0 hb
 have hltM:=A0 hM0
 refine(tc_merge m s rr ⟨sc,[],⟨[⟨key,r,[]⟩],fe,rel⟩::rest⟩ bl br wb hL hR hres hnr H w hi hS hr hb ?_ ?_ (fun wa wd=>∃wc,Bw wa wc∧CVisitOut m wb bM key (eqJ u t) wc (.returned (.slice none 0 0)) wd) ?_ ?_).mono ?_
 ·intro K2 w2 p1 p2 p3 hi2 hk2 hq
  simp only [AI,QLi,QMa,Bk,hsc,if_true]at hq
  obtain⟨rfl,rfl,b,_,_,rfl,_⟩:=hq
  exact BR (.map [key] [t]) rfl K2 bl x _ w2 hi2 (A7 hk2 cx) (hx.mono hk2)
 ·intro K2 w2 p1 p2 p3 hi2 hk2 hq
  simp only [AI,QLi,QMa,Bk,hsc,if_true]at hq
  obtain⟨rfl,rfl,b,_,_,rfl,_⟩:=hq
  exact BR (.map [key] [u]) rfl K2 br y _ w2 hi2 (A7 hk2 cy) (hy.mono hk2)
 ·intro K2 w2 p1 p2 p3 hb2 hi2 hk2 hkk hq
  have hKw:K2 wb=none:=by rw [hkk wb hlt];exact hHw
  have hKM:K2 bM=none:=by rw [hkk bM hltM];exact hHM
  have hbb:=A2 hb2 hb
  simp only [AI,QLi,QMa,Bk,hsc,if_true]at hq
  obtain⟨rfl,rfl,b,xf,ye,rfl,hc0,_,hcq,hcr,_,hsl,_⟩:=hq
  have hx2:=hx.mono hk2
  have hy2:=hy.mono hk2
  have cx2:=A7 hk2 cx
  have cy2:=A7 hk2 cy
  obtain⟨r1,es1,ck1,rfl,hm1⟩:=hx2.mapAt
  obtain⟨r2,es2,ck2,rfl,hm2⟩:=hy2.mapAt
  have hone:OneF K2 b key r:=⟨⟨xf,hc0,hsl⟩,ye,hcq⟩
  refine(CU _ ⟨wb,0,none⟩ m.y w2 (fun wa wd=>∃wc,Bw wa wc∧CVisitOut m wb bM key (eqJ u t) wc (.returned (.slice none 0 0)) wd) (fun w3 hb3=>typedcompare_doMapR [key] [key] [t] [u] (by simp) K2 bl br wb b m.ha r1 r2 rel hrel w3 (fun wa wd=>CVisitOut m wb bM key (eqJ u t) wa (.returned (.slice none 0 0)) wd) (hi2.below hb3) cx2 hx2 cy2 hy2 hcr
    (by have:=(A1 (show w3.heap[wb]?=some (.cells _ _) from A2 hb3 hbb)).1 0;simpa [hL]using this) (by have:=(A1 (show w3.heap[wb]?=some (.cells _ _) from A2 hb3 hbb)).1 1;simpa [hR]using this) (by have:=(A1 (show w3.heap[wb]?=some (.cells _ _) from A2 hb3 hbb)).1 13;simpa using this)
    (fun w4 hb4=>(tc_visit m wb b bl br r1 r2 bM q0 q2 key r t u K2 w4 hL hR hsp hpa hpn hpc hleaf ((hi2.below hb3).below hb4) hKw hKM hks hone (A2 hb4 (A2 hb3 hbb)) (A2 hb4 (A2 hb3 (A2 hb2 hC))) (A2 hb4 (A2 hb3 (A2 hb2 hM0))) hwM hcw hcM es1 es2 ck1 ck2 hm1 hm2 (tc_leaf s r a t u hrec hnn h1 h2 m.S bM m.cmp q0 q2 K2 (hS.mono hk2))).mono (by rintro e w5 ⟨rfl,h5⟩;exact⟨rfl,rfl,h5⟩)))).mono ?_
  rintro _ w5 ⟨rfl,wq,g1,wr,g2,g3⟩
  exact⟨rfl,wr,Bw.tr g1 g2,g3⟩
 ·rintro w2 w3 hb2 ⟨wc,g1,_,hfr,⟨pa,pn,pc,sp,hm⟩,_⟩
  refine⟨⟨_,hm,rfl,rfl,rfl⟩,fun k hk hk2=> ?_⟩
  rw [hfr.block k (Nat.lt_of_lt_of_le hk2 g1.size) (by omega)]
  exact g1.block k hk2
 ·rintro _ w4 ⟨rfl,w2,w3,hb2,⟨wc,g1,_,hfr,⟨pa,pn,pc,sp,hm⟩,hmod⟩,hb4⟩
  have hs2:=hb2.size
  have hs3:=g1.size
  have hs4:=hfr.size
  refine⟨rfl,⟨hb4.os.trans (hfr.os.trans (g1.os.trans hb2.os)),hb4.tape.trans (hfr.tape.trans (g1.tape.trans hb2.tape)),hb4.output.trans (hfr.output.trans (g1.output.trans hb2.output)),by have:=hb4.size;omega,fun k hk hx2=> ?_⟩,⟨pa,pn,pc,sp,A2 hb4 hm⟩,(hmod.bw hb4).weak (by omega)⟩
  rw [hb4.block k (by omega),hfr.block k (by omega) hx2,g1.block k (by omega)]
  exact hb2.block k hk
end
section
open Go Go.RowKit Go.MapKept
def Bs (key:ByteArray):GE:=⟨0,key,[],[],Ay,0⟩
def D7 (key:ByteArray):Value:= .agg #[.int .i64 0, .string key, .slice none 0 0, .slice none 0 0, .int .i64 0, .int .i64 0, .float .f64 0, .string ⟨#[]⟩, .slice none 0 0, .slice none 0 0, .int .i64 0]
def Br (key:ByteArray):List Value:=[.int .i64 0, .string key, .slice none 0 0, .slice none 0 0, .int .i64 0, .int .i64 0, .float .f64 0, .string ⟨#[]⟩, .slice none 0 0, .slice none 0 0, .int .i64 0]
def peCells (kb:Nat):List Value:=[.pointer (some ⟨kb,0,none⟩), .pointer none, .pointer none, .pointer none]
theorem info_elem:(Tryz.prog.info? 110).map (fun i=>(i.zero,i.size,i.bytes))=some (some (.agg #[.int .i64 0, .string ⟨#[]⟩, .slice none 0 0, .slice none 0 0, .int .i64 0, .int .i64 0, .float .f64 0, .string ⟨#[]⟩, .slice none 0 0, .slice none 0 0, .int .i64 0]),11,168):=by kernel_rfl
theorem und_elems:Tryz.prog.underlying 112=some (.slice 110):=by kernel_rfl
theorem info_ipath:(Tryz.prog.info? 112).map (fun i=>(i.zero,i.size,i.bytes))=some (some (.slice none 0 0),1,24):=by kernel_rfl
theorem Fb:Tryz.prog.underlying 53=some (.slice 112):=by kernel_rfl
theorem fromElem_c (kb:Nat)(key:ByteArray)(w:World)(hk:w.cell? ⟨kb,0,none⟩=some (.string key)):
  Calls Tryz.prog 99 #[.agg #[.pointer (some ⟨kb,0,none⟩), .pointer none, .pointer none, .pointer none]] w (Pur w (D7 key)):=by
 have hlt:=Ah hk
 have n1:¬kb=w.heap.size+1:=by simp at hlt;omega
 go_enter Tryz.func99,Tryz.ntmps99
 go_wp2_with fail
 refine bodyPost_ret (v:=D7 key) (by simp [results,Tryz.results99,go_sem,D7]) rfl ⟨rfl, ?_⟩
 repeat with_reducible (first|exact Am|refine Bw.set ?_ (by omega) _ _)
theorem fromPath_c (pb kb pc:Nat)(key:ByteArray)(w:World)(hk:w.cell? ⟨kb,0,none⟩=some (.string key))(hp:w.cell? ⟨pb,0,none⟩=some (.pointer (some ⟨kb,0,none⟩))∧w.cell? ⟨pb,1,none⟩=some (.pointer none)∧w.cell? ⟨pb,2,none⟩=some (.pointer none)∧w.cell? ⟨pb,3,none⟩=some (.pointer none)):
  Calls Tryz.prog 65 #[.slice (some ⟨pb,0,none⟩) 1 pc] w (fun e w'=>Bw w w'∧∃v,e= .returned v∧w'.ownsRow w.heap.size 110 11 v 1 (Br key)):=by
 have hbs:∀w,(Instr.buildSlice 112 0 #[]).run Tryz.prog w= .ok (.slice (some ⟨w.heap.size,0,none⟩) 0 0) (w.alloc (.cells #[] 110)):=fun _=>by kernel_rfl
 obtain⟨h0,h1,h2,h3⟩:=hp
 have HP:=Lib.hid (And.intro hk (And.intro h0 (And.intro h1 (And.intro h2 h3))))
 clear hk h0 h1 h2 h3
 go_enter Tryz.func65,Tryz.ntmps65
 go_wp2_with fail
 clear hbs
 go_loopw [3,9] (fun v i wr=>Bw w wr∧((i= .int .i64 0∧wr.ownsRow w.heap.size 110 11 v 0 [])∨(i= .int .i64 1∧wr.ownsRow w.heap.size 110 11 v 1 (Br key)))) (fun _ i _=>1 - (intOf i).toNat)
 case atStart=>exact⟨A5, .inl ⟨rfl,⟨rfl, .inr ⟨w.heap.size,0, #[],rfl,Nat.le_refl _,A4,Nat.le_refl _,by decide,rfl,rfl⟩⟩⟩⟩
 case round=>
  rename_i wr
  obtain⟨hb,h⟩:=hrel
  rcases h with⟨rfl,ho⟩|⟨rfl,ho⟩
  ·obtain⟨ao,co,rfl⟩:=Aj ho
   have HO:=Lib.hid (And.intro hb ho)
   have k0:=cell_later hb HP.out.2.1
   have k1:=cell_later hb HP.out.2.2.1
   have k2:=cell_later hb HP.out.2.2.2.1
   have k3:=cell_later hb HP.out.2.2.2.2
   clear hb ho
   go_wp2_with fail
   refine(fromElem_c kb key _ (cell_later (HO.out.1.tr A5) HP.out.1)).mono ?_
   rintro _ w1 ⟨rfl,hb1⟩
   have HB1:=Lib.hid (A5.tr hb1:Bw wr w1)
   unfold D7
   clear k0 k1 k2 k3 hb1
   have hsz:=HO.out.1.size
   have hs1:=HB1.out.size
   go_wp2_with (at_builtin;refine AF _ rfl (.tmp 13) (.tmp 16) 112 rfl w.heap.size 110 _ 11 168 und_elems info_elem rfl (by decide) (by decide) (.slice ao 0 co) 0 [] rfl (Cq HO.out.2 (HB1.out.tr A5)) w1.heap.size _ 110 rfl A4 rfl (by simp [Value.oneCell']) (by unfold lim;omega) (by simp;omega) ?_)
   intro v' w2 ho2 hg2 hwh2
   obtain⟨ao2,co2,rfl⟩:=Aj ho2
   have HP2:=Lib.hid (And.intro ho2 hg2)
   clear ho2 hg2 hwh2
   go_wp2_with fail
   go_roundw
   case rel=>exact⟨Bi ((HO.out.1.tr HB1.out).al _) HP2.out.2 (fun k hk=>(HO.out.2.lt k hk).1), .inr ⟨by go_num,HP2.out.1⟩⟩
   case measure=>simp [intOf]
  ·obtain⟨ao,co,rfl⟩:=Aj ho
   have HO:=Lib.hid (And.intro hb ho)
   clear hb ho
   go_wp2_with fail
   go_ret
   exact⟨HO.out.1,_,rfl,HO.out.2⟩
def Dw (w:World)(lo:Nat)(v:Value)(key:ByteArray):Prop:=∃u,w.ownsRow lo 112 1 v 1 [u]∧w.ownsRow lo 110 11 u 1 (Br key)
theorem Dw.weak {w:World}{lo lo2:Nat}{v:Value}{key:ByteArray}(h:Dw w lo v key)(hl:lo2≤lo):Dw w lo2 v key:=by
 obtain⟨u,h1,h2⟩:=h
 exact⟨u,DT h1 hl,DT h2 hl⟩
theorem fsFn_end {w w1 w2:World}{ob:Nat}{v:Value}{key:ByteArray}{O:Obj}{a1:Option Addr}{n1 c1:Nat}(hb:w.heap[ob]?=some (.cells #[.slice none 0 0] 53))(h1:Bw w w1)(ho1:w1.ownsRow w.heap.size 110 11 (.slice a1 n1 c1) 1 (Br key))
  (ho2:w2.ownsRow w1.heap.size 112 1 v 1 ([]++[.slice a1 n1 c1])) (hg2:(w1.alloc O).grownBy w2 (Value.slice none 0 0).ownBlock) (hz:w2.heap[ob]?=some (.cells #[.slice none 0 0] 53)):
  (Ending.returned (.tuple #[])= .returned (.tuple #[]))∧Fr (fun k=>k=ob) w.heap.size w (w2.setCell ⟨ob,0,none⟩ v)∧∃v',(w2.setCell ⟨ob,0,none⟩ v).heap[ob]?=some (.cells #[v'] 53)∧Dw (w2.setCell ⟨ob,0,none⟩ v) w.heap.size v' key:=by
 have t:Az w2 (w2.setCell ⟨ob,0,none⟩ v) ob:=(Az.refl w2 ob).set _ _
 have hl:=A0 hb
 have hs:=h1.size
 have hg:=hg2.size
 simp at hg
 refine⟨rfl,⟨t.os.trans (hg2.os.trans h1.os),t.tape.trans (hg2.tape.trans h1.tape),t.output.trans (hg2.output.trans h1.output),by rw [t.size];omega,fun k hk hx=> ?_⟩,v,by simpa using Ae hz 0 v, .slice a1 n1 c1, ?_, ?_⟩
 ·rw [t.block k hx,hg2.block k (by simp;omega) (by simp [Value.ownBlock]),Ad,if_neg (by omega)];exact h1.block k hk
 ·exact Bj (DT (by simpa using ho2) hs) hl
 ·exact Bj ((Cq ho1 A5).kept hg2 (by cases h:(Value.slice a1 n1 c1).ownBlock<;>simp [Value.ownBlock])) hl
theorem fsFn_c (pb kb pc ob:Nat)(key:ByteArray)(w:World)(hk:w.cell? ⟨kb,0,none⟩=some (.string key))(hp:w.cell? ⟨pb,0,none⟩=some (.pointer (some ⟨kb,0,none⟩))∧w.cell? ⟨pb,1,none⟩=some (.pointer none)∧w.cell? ⟨pb,2,none⟩=some (.pointer none)∧w.cell? ⟨pb,3,none⟩=some (.pointer none))
  (hb:w.heap[ob]?=some (.cells #[.slice none 0 0] 53)):
  Calls Tryz.prog 64 #[.slice (some ⟨pb,0,none⟩) 1 pc, .pointer (some ⟨ob,0,none⟩)] w (fun e w'=>e= .returned (.tuple #[])∧Fr (fun k=>k=ob) w.heap.size w w'∧∃v,w'.heap[ob]?=some (.cells #[v] 53)∧Dw w' w.heap.size v key):=by
 have HC:=Lib.hid (fun w0 (h0:w0.heap=w.heap)=>fromPath_c pb kb pc key w0 (by rw [Al (w:=w) (by rw [h0])];exact hk) (Cb (w:=w) (by rw [h0]) hp))
 obtain⟨q,f⟩:=A1 hb
 have hl:=A0 hb
 have HB:=Lib.hid hb
 clear hb hk hp
 go_enter Tryz.func64,Tryz.ntmps64
 go_region_law
  (first
   |(refine AH _ (by rfl) _ _ 53 (by rfl) w1.heap.size 112 _ 1 24 Fb info_ipath (by rfl) (by decide) (by decide) (.slice none 0 0) 0 [] (by rfl) (World.ownsRow_nil _ _ _ _) w1.heap.size _ _ (by rfl) A4 (by rfl) (by simp [Value.oneCell']) (by unfold lim;omega) (by simp) ?_;intro v' w2 ho2 hg2 hwh2;obtain⟨av2,cv2,rfl⟩:=Aj ho2;have hbz:=(hg2.block ob (by have:=H1.out.1.size;simp;omega) (fun e=>by simp [Value.ownBlock]at e)).trans (A3 (A2 H1.out.1 HB.out));have HZ:=Lib.hid hbz;obtain⟨q2z,f2z⟩:=A1 hbz;have hlz:=A0 hbz;clear hbz)
   |(go_simp;refine(HC.out _ (by exact rfl)).mono ?_;rintro e w1 ⟨hb1',v1,rfl,ho1⟩;have H1:Hid (Bw w w1∧w1.ownsRow w.heap.size 110 11 v1 1 (Br key)):=⟨(by first|with_reducible exact hb1'|exact Bw.rfl.dr.tr hb1'),ho1⟩;obtain⟨a1,c1,rfl⟩:=Aj ho1;obtain⟨qz,fz⟩:=A1 (A2 H1.out.1 HB.out);have hlz1:=A0 (A2 H1.out.1 HB.out);clear hb1' ho1))
 all_goals
  go_wp2_with fail
  go_end0
  exact fsFn_end HB.out H1.out.1 H1.out.2 ho2 hg2 HZ.out
theorem hol_of {w wa W w2:World}{e0 n c:Nat}(h1:Bw w wa)(h2:Bw wa W)(hg:W.grownBy w2 (Value.slice (some ⟨e0,0,none⟩) n c).ownBlock):(∀k,k<w.heap.size→k≠e0→w2.heap[k]?=w.heap[k]?)∧w2.os=w.os∧w2.tape=w.tape∧w2.output=w.output∧w.heap.size≤w2.heap.size:=by
 have s1:=h1.size
 have s2:=h2.size
 have s3:=hg.size
 refine⟨fun k hk hne=> ?_,hg.os.trans (h2.os.trans h1.os),hg.tape.trans (h2.tape.trans h1.tape),hg.output.trans (h2.output.trans h1.output),by omega⟩
 rw [hg.block k (by omega) (fun e=>hne (by simp [Value.ownBlock]at e;exact e)),h2.block k (by omega)];exact h1.block k hk
theorem own_emptyS {w:World}{g T base s:Nat}(h:w.heap[g]?=some (.cells #[] T))(hb:base≤g):w.ownsRow base T s (.slice (some ⟨g,0,none⟩) 0 0) 0 []:=
 ⟨by simp, .inr ⟨g,0, #[],rfl,hb,h,Nat.le_refl _,by unfold maxLen;omega,by simp,by simp⟩⟩
theorem pe_row {w:World}{base E:Nat}{v x0 x1 x2 x3:Value}(ho:w.ownsRow base E 4 v 1 ([]++[x0,x1,x2,x3])):∃pb pc,v= .slice (some ⟨pb,0,none⟩) 1 pc∧w.cell? ⟨pb,0,none⟩=some x0∧w.cell? ⟨pb,1,none⟩=some x1∧w.cell? ⟨pb,2,none⟩=some x2∧w.cell? ⟨pb,3,none⟩=some x3:=by
 rcases ho.2 with⟨_,h⟩|⟨g,cap,cur,rfl,_⟩
 ·cases h
 ·obtain⟨_,_,h⟩:=row_cells (by simpa using ho)
  exact⟨g,cap,rfl,h⟩
theorem info_pe2:Tryz.prog.underlying 140=some (.slice 227):=by kernel_rfl
theorem itFn_c (kb ob fb xb:Nat)(key:ByteArray)(w:World)(e0:Nat)(hx:w.heap[xb]?=some (.cells #[.slice (some ⟨e0,0,none⟩) 0 0] 140))(he:w.heap[e0]?=some (.cells #[] 227))(hf:w.heap[fb]?=some (.cells #[.func (.func 64) #[] #[.pointer (some ⟨ob,0,none⟩)]] 151))
  (hk:w.cell? ⟨kb,0,none⟩=some (.string key)) (hb:w.heap[ob]?=some (.cells #[.slice none 0 0] 53)):
  Calls Tryz.prog 122 #[.agg #[.pointer (some ⟨kb,0,none⟩), .pointer none, .pointer none, .pointer none], .pointer (some ⟨fb,0,none⟩), .pointer (some ⟨xb,0,none⟩)] w (fun e w'=>e= .returned (.tuple #[])∧Fr (fun k=>k=ob∨k=e0) w.heap.size w w'∧∃v,w'.heap[ob]?=some (.cells #[v] 53)∧Dw w' w.heap.size v key):=by
 have HI:=Lib.hid (And.intro hx (And.intro he (And.intro hf (And.intro hk hb))))
 obtain⟨q,f⟩:=A1 hx
 obtain⟨q1,f1⟩:=A1 hf
 have hl:=A0 hx
 have hl1:=A0 hf
 have hle:=A0 he
 have hlk:kb<w.heap.size:=Ah hk
 have hlo:=A0 hb
 have hoe:¬ob=e0:=by rintro rfl;rw [he]at hb;cases hb
 have hfe:¬fb=e0:=by rintro rfl;rw [he]at hf;cases hf
 have hke:¬kb=e0:=by
  rintro rfl
  have:=(A1 he).1 0
  rw [hk]at this;simp at this
 have eg:=enters_of Tryz.func64 (by kernel_rfl) rfl
 have hb0:(A5 (w:=w) (o:= .cells (peCells kb).toArray 227))=A5:=rfl
 clear hx he hf hk hb hb0
 go_enter Tryz.func122,Tryz.ntmps122
 go_upto_region 1 with(fail)
 obtain⟨wa,hwa⟩:∃wa,wa=w.alloc (.cells #[.pointer (some ⟨kb,0,none⟩), .pointer none, .pointer none, .pointer none] 227):=⟨_,rfl⟩
 have HA:Hid (Bw w wa∧wa.heap.size=w.heap.size+1∧wa.heap[w.heap.size]?=some (.cells #[.pointer (some ⟨kb,0,none⟩), .pointer none, .pointer none, .pointer none] 227)):=by subst hwa;exact⟨A5,by simp,A4⟩
 rw [←hwa]
 clear hwa q f q1 f1
 obtain⟨q,f⟩:=A1 (A2 HA.out.1 HI.out.1)
 obtain⟨q1,f1⟩:=A1 (A2 HA.out.1 HI.out.2.2.1)
 obtain⟨q2,f2⟩:=A1 HA.out.2.2
 have hl2:=A0 (A2 HA.out.1 HI.out.1)
 have hl3:=A0 (A2 HA.out.1 HI.out.2.2.1)
 have hl4:=A0 HA.out.2.2
 go_region_law
  (first
   |(refine AH _ (by rfl) _ _ 140 (by rfl) 0 227 _ 4 32 und_path info_pe (by rfl) (by decide) (by decide) (.slice (some ⟨e0,0,none⟩) 0 0) 0 [] (by rfl) (own_emptyS (A3 (A2 HA.out.1 HI.out.2.1)) (Nat.zero_le _)) wa.heap.size _ _ (by rfl) (by exact A4) (by rfl) (by simp [Value.oneCell']) (by unfold lim;omega) (by simp) ?_;intro v' w2 ho2 hg2 hwh2;obtain⟨pb,pc,rfl,hpr⟩:=pe_row ho2;have hol:=Lib.hid (hol_of HA.out.1 (by first|exact(Bw.rfl.al _).dr|exact Bw.rfl.al _|exact Bw.rfl.dr.al _) hg2);have H2:=Lib.hid hpr;have hfb:=(hol.out.1 fb hl1 hfe).trans HI.out.2.2.1;obtain⟨q9,f9⟩:=A1 hfb;have hl9:=A0 hfb;clear ho2 hwh2 hg2 hpr hfb)
   |(go_simp;refine(fsFn_c pb kb pc ob key w2 ((Al (hol.out.1 kb hlk hke) 0).trans HI.out.2.2.2.1) H2.out ((hol.out.1 ob hlo hoe).trans HI.out.2.2.2.2)).mono ?_;rintro _ w3 ⟨rfl,hf3,hv3⟩;have H3:=Lib.hid (And.intro hf3 hv3);clear hf3 hv3))
 all_goals
  go_wp2_with fail
  go_end0
  obtain⟨hf3,v3,hv3,hp3⟩:=H3.out
  obtain⟨h1,h2,h3,h4,h5⟩:=hol.out
  refine⟨rfl,⟨hf3.os.trans h2,hf3.tape.trans h3,hf3.output.trans h4,Nat.le_trans h5 hf3.size,fun k hk hx=> ?_⟩,v3,hv3,hp3.weak h5⟩
  simp only [not_or]at hx
  rw [hf3.block k (Nat.lt_of_lt_of_le hk h5) hx.1];exact h1 k hk hx.2
end
section
open Go Go.RowKit
theorem RE.open {H:Hp}{e:GE}{x2 x3 y4 y5:Value}(h:RE H e x2 x3 y4 y5):∃a2 c2 a3 c3 a4 c4 a5 c5,x2= .slice a2 e.ks.length c2∧x3= .slice a3 e.l.length c3∧y4= .slice a4 e.v.ks.length c4∧y5= .slice a5 e.v.l.length c5:=by
 obtain⟨a2,c2,rfl⟩:=h.2.2.2.1.open
 obtain⟨a3,c3,rfl⟩:=h.2.2.2.2.1.open
 obtain⟨a4,c4,a5,c5,rfl,rfl⟩:=h.2.2.2.2.2.open
 exact⟨_,_,_,_,_,_,_,_,rfl,rfl,rfl,rfl⟩
def Some1 (w:World):Ending→World→Prop:=fun e w'=>∃z,e= .returned (.bool z)∧Bw w w'
theorem equalKeys_w (a b:GE)(H:Hp)(x2 x3 x4 x5 y2 y3 y4 y5:Value)(w:World)(hi:Imm H w)(hv:RE H a x2 x3 x4 x5)(hu:RE H b y2 y3 y4 y5):
  Calls Tryz.prog 149 #[Dl a x2 x3 x4 x5,Dl b y2 y3 y4 y5] w (Some1 w):=by
 have HI:=Lib.hid hi
 obtain⟨_,_,_,⟨p2,e2,rfl,_,hl2,_,ha2⟩,⟨p3,e3,rfl,_,_,_,ha3⟩,hvv⟩:=hv
 obtain⟨_,_,_,⟨q2,g2,rfl,_,hl2',_,hb2⟩,⟨q3,g3,rfl,_,_,_,hb3⟩,huv⟩:=hu
 obtain⟨p4,e4,p5,e5,rfl,rfl⟩:=hvv.open
 obtain⟨q4,g4,q5,g5,rfl,rfl⟩:=huv.open
 have HE:=Lib.hid (And.intro (And.intro ha2 ha3) (And.intro hb2 hb3))
 have HL:=Lib.hid (And.intro hl2 hl2')
 clear hi hvv huv ha2 ha3 hb2 hb3 hl2 hl2'
 unfold Dl
 go_enter Tryz.func149,Tryz.ntmps149
 go_upto_region 1 with(fail)
 obtain⟨wz,hwz⟩:∃wz,wz=(w.alloc (.cells #[.int .i64 a.k, .string a.s, .slice p2 a.ks.length e2, .slice p3 a.l.length e3, .int .i64 a.v.k, .int .i64 a.v.n, .float .f64 a.v.f, .string a.v.s, .slice p4 a.v.ks.length e4, .slice p5 a.v.l.length e5, .int .i64 a.n] 110)).alloc (.cells #[.int .i64 b.k, .string b.s, .slice q2 b.ks.length g2, .slice q3 b.l.length g3, .int .i64 b.v.k, .int .i64 b.v.n, .float .f64 b.v.f, .string b.v.s, .slice q4 b.v.ks.length g4, .slice q5 b.v.l.length g5, .int .i64 b.n] 110):=⟨_,rfl⟩
 have HZ:Hid (Bw w wz):=by subst hwz;exact Am
 have HX:Hid (wz.heap[w.heap.size]?=some (.cells #[.int .i64 a.k, .string a.s, .slice p2 a.ks.length e2, .slice p3 a.l.length e3, .int .i64 a.v.k, .int .i64 a.v.n, .float .f64 a.v.f, .string a.v.s, .slice p4 a.v.ks.length e4, .slice p5 a.v.l.length e5, .int .i64 a.n] 110)∧wz.heap[w.heap.size+1]?=some (.cells #[.int .i64 b.k, .string b.s, .slice q2 b.ks.length g2, .slice q3 b.l.length g3, .int .i64 b.v.k, .int .i64 b.v.n, .float .f64 b.v.f, .string b.v.s, .slice q4 b.v.ks.length g4, .slice q5 b.v.l.length g5, .int .i64 b.n] 110)):=by subst hwz;exact⟨Cs,BF⟩
 rw [←hwz]
 clear hwz
 obtain⟨q0,f0⟩:=A1 HX.out.1
 obtain⟨q1,f1⟩:=A1 HX.out.2
 have hl0:=A0 HX.out.1
 have hl1:=A0 HX.out.2
 go_quiet (fail)
 clear q0 f0 q1 f1 hl0 hl1
 have hm1:min (a.ks.length:Int) (a.l.length:Int)=((min a.ks.length a.l.length:Nat):Int):=by omega
 have hm2:min (b.ks.length:Int) (b.l.length:Int)=((min b.ks.length b.l.length:Nat):Int):=by omega
 rw [hm1,hm2]
 obtain⟨n,hn⟩:∃n:Nat,n=min a.ks.length a.l.length:=⟨_,rfl⟩
 obtain⟨m,hm⟩:∃n:Nat,n=min b.ks.length b.l.length:=⟨_,rfl⟩
 rw [←hn,←hm]
 have HN:=Lib.hid (And.intro hn hm)
 clear hm1 hm2 hn hm
 have hnl:=HL.out.1
 have hml:=HL.out.2
 have hn4:n≤4294967296:=by have:=HN.out.1;unfold lim at hnl;omega
 have hm4:m≤4294967296:=by have:=HN.out.2;unfold lim at hml;omega
 clear hnl hml
 have HM4:=Lib.hid hm4
 rcases Decidable.em (¬n=m)with hne|hne
 ·have h3:¬(n:Int)=(m:Int):=by omega
  go_wp2_with fail
  go_ret
  exact⟨_,rfl,Bw.dn HZ.out nq⟩
 replace hne:=Decidable.not_not.1 hne
 subst hne
 go_wp2_with fail
 go_loopw [7] (fun i wr=>∃j:Nat,j≤n∧i= .int .i64 (j:Int)∧Bw wz wr) (fun i _=>n - (intOf i).toNat)
 case atStart=>exact⟨0,Nat.zero_le _,rfl,Bw.dn Bw.rfl nq⟩
 case round=>
  obtain⟨j,hj,rfl,hb⟩:=hrel
  have HB:=Lib.hid hb
  obtain⟨q0,f0⟩:=A1 (A2 hb HX.out.1)
  obtain⟨q1,f1⟩:=A1 (A2 hb HX.out.2)
  have hl0:=A0 (A2 hb HX.out.1)
  have hl1:=A0 (A2 hb HX.out.2)
  have hiq:=HI.out.below (HZ.out.tr hb)
  obtain⟨wq,hwq⟩:∃x:World,x=wr:=⟨_,rfl⟩
  rw [←hwq]at HB hiq q0 f0 q1 f1 hl0 hl1⊢
  clear hwq hb
  by_cases hjl:j<n
  ·have hj1:j<a.ks.length:=by have:=HN.out.1;omega
   have hj2:j<a.l.length:=by have:=HN.out.1;omega
   have hj3:j<b.ks.length:=by have:=HN.out.2;omega
   have hj4:j<b.l.length:=by have:=HN.out.2;omega
   obtain⟨bk,ok,rfl,ck,_⟩:=HE.out.1.1.look hiq hj1
   obtain⟨bk2,ok2,rfl,ck2,_⟩:=HE.out.2.1.look hiq hj3
   obtain⟨bl,ol,r4,s4,r5,s5,rfl,hv',i0,i1,i2,i3,i4,i5⟩:=HE.out.1.2.look hiq hj2
   obtain⟨bl2,ol2,r4',s4',r5',s5',rfl,hu',j0,j1,j2,j3,j4,j5⟩:=HE.out.2.2.look hiq hj4
   have CP:=fun d os=>Calls.regrown_of (ES a.l[j] b.l[j] H _ _ _ _ (Go.Sort.grow (redrawn wq d) os) (hiq.below (below_regrown wq d os)) hv' hu')
   have p1:(j:Int)<(n:Int):=by omega
   have p2:(j:Int)<(a.ks.length:Int):=by omega
   have p3:(j:Int)<(a.l.length:Int):=by omega
   have p4:(j:Int)<(b.ks.length:Int):=by omega
   have p5:(j:Int)<(b.l.length:Int):=by omega
   have G2:=cell_regrown (q0 2)
   have G3:=cell_regrown (q0 3)
   have K2:=cell_regrown (q1 2)
   have K3:=cell_regrown (q1 3)
   have L0:=cell_regrown ck
   have L1:=cell_regrown ck2
   have I0:=cell_regrown i0
   have I1:=cell_regrown i1
   have I2:=cell_regrown i2
   have I3:=cell_regrown i3
   have I4:=cell_regrown i4
   have I5:=cell_regrown i5
   have J0:=cell_regrown j0
   have J1:=cell_regrown j1
   have J2:=cell_regrown j2
   have J3:=cell_regrown j3
   have J4:=cell_regrown j4
   have J5:=cell_regrown j5
   clear hv' hu' i0 i1 i2 i3 i4 i5 j0 j1 j2 j3 j4 j5 q0 q1 ck ck2
   unfold Ar at CP
   cases hk:(a.ks[j].toList==b.ks[j].toList)
   ·go_wp2_with fail
    refine wp_region_quiet_below (by kernel_rfl) (by kernel_rfl) ?_
    repeat (go_big_quiet_step (fail))
    refine wpQuiet_nil ?_
    intro _ hw'
    obtain⟨⟨dq,osq⟩,hw''⟩:=hw'
    subst hw''
    obtain⟨wn,hwn,hw'⟩:∃x,Bw wq x∧x=Go.Sort.grow (redrawn wq dq) osq:=⟨_,below_regrown _ _ _,rfl⟩
    rw [←hw']
    clear hw'
    go_wp2_with fail
    go_ret
    exact⟨_,rfl,(HZ.out.tr HB.out).tr hwn⟩
   ·cases hq:eqP (Aa a.l[j]) (Aa b.l[j])
    all_goals
     rw [hq]at CP
     clear hq
     go_wp2_with fail
     refine wp_region_quiet_below (by kernel_rfl) (by kernel_rfl) ?_
     repeat (go_big_quiet_step (exact CP _ _))
     refine wpQuiet_nil ?_
     intro _ hw'
     obtain⟨⟨dq,osq⟩,hw''⟩:=hw'
     subst hw''
     obtain⟨wn,hwn,hw'⟩:∃x,Bw wq x∧x=Go.Sort.grow (redrawn wq dq) osq:=⟨_,below_regrown _ _ _,rfl⟩
     rw [←hw']
     clear hw'
     go_wp2_with fail
    ·go_ret
     exact⟨_,rfl,(HZ.out.tr HB.out).tr hwn⟩
    ·go_roundw
     case rel=>exact⟨j+1,by omega,by go_num,HB.out.tr hwn⟩
     case measure=>simp [intOf];omega
  ·have:j=n:=by omega
   subst this
   go_wp2_with fail
   go_ret
   exact⟨_,rfl,HZ.out.tr HB.out⟩
def EqE (a b:GE)(w:World):Ending→World→Prop:=fun e w'=>∃z,e= .returned (.bool z)∧Bw w w'∧(a.k=0→b.k=0→z=(a.s.toList==b.s.toList))
theorem equalElems_c (a b:GE)(H:Hp)(x2 x3 x4 x5 y2 y3 y4 y5:Value)(w:World)(hi:Imm H w)(hv:RE H a x2 x3 x4 x5)(hu:RE H b y2 y3 y4 y5):
  Calls Tryz.prog 134 #[Dl a x2 x3 x4 x5,Dl b y2 y3 y4 y5] w (EqE a b w):=by
 have HI:=Lib.hid hi
 have HE:=Lib.hid (And.intro hv hu)
 have CKK:=Lib.hid (fun wq (h:Imm H wq)=>equalKeys_w a b H x2 x3 x4 x5 y2 y3 y4 y5 wq h hv hu)
 have CVV:=Lib.hid (fun wq (h:Imm H wq)=>ES a.v b.v H x4 x5 y4 y5 wq h hv.2.2.2.2.2 hu.2.2.2.2.2)
 have CR1:=Lib.hid (fun wq=>elemRank_c a x2 x3 x4 x5 wq)
 have CR2:=Lib.hid (fun wq=>elemRank_c b y2 y3 y4 y5 wq)
 obtain⟨p2,e2,p3,e3,p4,e4,p5,e5,rfl,rfl,rfl,rfl⟩:=hv.open
 obtain⟨q2,g2,q3,g3,q4,g4,q5,g5,rfl,rfl,rfl,rfl⟩:=hu.open
 clear hi hv hu
 unfold Dl at CKK CR1 CR2⊢
 unfold Ar at CVV
 go_enter Tryz.func134,Tryz.ntmps134
 go_upto_region 1 with(fail)
 obtain⟨wz,hwz⟩:∃wz,wz=(w.alloc (.cells #[.int .i64 a.k, .string a.s, .slice p2 a.ks.length e2, .slice p3 a.l.length e3, .int .i64 a.v.k, .int .i64 a.v.n, .float .f64 a.v.f, .string a.v.s, .slice p4 a.v.ks.length e4, .slice p5 a.v.l.length e5, .int .i64 a.n] 110)).alloc (.cells #[.int .i64 b.k, .string b.s, .slice q2 b.ks.length g2, .slice q3 b.l.length g3, .int .i64 b.v.k, .int .i64 b.v.n, .float .f64 b.v.f, .string b.v.s, .slice q4 b.v.ks.length g4, .slice q5 b.v.l.length g5, .int .i64 b.n] 110):=⟨_,rfl⟩
 have HZ:Hid (Bw w wz):=by subst hwz;exact Am
 have HX:Hid (wz.heap[w.heap.size]?=some (.cells #[.int .i64 a.k, .string a.s, .slice p2 a.ks.length e2, .slice p3 a.l.length e3, .int .i64 a.v.k, .int .i64 a.v.n, .float .f64 a.v.f, .string a.v.s, .slice p4 a.v.ks.length e4, .slice p5 a.v.l.length e5, .int .i64 a.n] 110)∧wz.heap[w.heap.size+1]?=some (.cells #[.int .i64 b.k, .string b.s, .slice q2 b.ks.length g2, .slice q3 b.l.length g3, .int .i64 b.v.k, .int .i64 b.v.n, .float .f64 b.v.f, .string b.v.s, .slice q4 b.v.ks.length g4, .slice q5 b.v.l.length g5, .int .i64 b.n] 110)):=by subst hwz;exact⟨Cs,BF⟩
 rw [←hwz]
 clear hwz
 obtain⟨q0,f0⟩:=A1 HX.out.1
 obtain⟨q1,f1⟩:=A1 HX.out.2
 have G0:=cell_regrown (q0 0)
 have G1:=cell_regrown (q0 1)
 have G2:=cell_regrown (q0 2)
 have G3:=cell_regrown (q0 3)
 have G4:=cell_regrown (q0 4)
 have G5:=cell_regrown (q0 5)
 have G6:=cell_regrown (q0 6)
 have G7:=cell_regrown (q0 7)
 have G8:=cell_regrown (q0 8)
 have G9:=cell_regrown (q0 9)
 have G10:=cell_regrown (q0 10)
 have K0:=cell_regrown (q1 0)
 have K1:=cell_regrown (q1 1)
 have K2:=cell_regrown (q1 2)
 have K3:=cell_regrown (q1 3)
 have K4:=cell_regrown (q1 4)
 have K5:=cell_regrown (q1 5)
 have K6:=cell_regrown (q1 6)
 have K7:=cell_regrown (q1 7)
 have K8:=cell_regrown (q1 8)
 have K9:=cell_regrown (q1 9)
 have K10:=cell_regrown (q1 10)
 have CA:=fun d os=>Calls.regrown_of (CR1.out (Go.Sort.grow (redrawn wz d) os))
 have CB:=fun d os=>Calls.regrown_of (CR2.out (Go.Sort.grow (redrawn wz d) os))
 clear q0 q1 f0 f1
 refine wp_region_quiet_below (by kernel_rfl) (by kernel_rfl) ?_
 repeat (go_big_quiet_step (first|with_reducible exact CA _ _|with_reducible exact CB _ _))
 refine wpQuiet_nil ?_
 intro _ hw'
 obtain⟨⟨dq,osq⟩,hw''⟩:=hw'
 subst hw''
 obtain⟨wn,hwn,hw'⟩:∃x,Bw wz x∧x=Go.Sort.grow (redrawn wz dq) osq:=⟨_,below_regrown _ _ _,rfl⟩
 rw [←hw']
 clear hw'
 clear CA CB
 clear G0 G1 G2 G3 G4 G5 G6 G7 G8 G9 G10 K0 K1 K2 K3 K4 K5 K6 K7 K8 K9 K10
 have HB:=Lib.hid hwn
 clear hwn
 obtain⟨q0,f0⟩:=A1 (A2 (HB.out) HX.out.1)
 obtain⟨q1,f1⟩:=A1 (A2 (HB.out) HX.out.2)
 have hl0:=A0 (A2 (HB.out) HX.out.1)
 have hl1:=A0 (A2 (HB.out) HX.out.2)
 rcases Decidable.em (¬BW a=BW b)with hr|hr
 ·have HR:=Lib.hid hr
  go_wp2_with fail
  go_ret
  exact⟨_,rfl,HZ.out.tr HB.out,fun h1 h2=>absurd (by simp [BW,h1,h2]) HR.out⟩
 replace hr:=Decidable.not_not.1 hr
 have HR:=Lib.hid hr
 rw [hr]
 clear hr
 go_wp2_with fail
 refine(CR1.out wn).mono ?_
 rintro _ w1 ⟨rfl,hb1⟩
 have HB1:=Lib.hid (HB.out.tr hb1)
 clear q0 f0 q1 f1 hl0 hl1
 obtain⟨q0,f0⟩:=A1 (A2 (HB1.out) HX.out.1)
 obtain⟨q1,f1⟩:=A1 (A2 (HB1.out) HX.out.2)
 have hl0:=A0 (A2 (HB1.out) HX.out.1)
 have hl1:=A0 (A2 (HB1.out) HX.out.2)
 have hi1:=HI.out.below (HZ.out.tr HB1.out)
 clear hb1
 by_cases r1:BW a=1
 ·have HR1:=Lib.hid r1
  rw [r1]
  clear r1
  go_wp2_with fail
  refine(CKK.out w1 hi1).mono ?_
  rintro _ w2 ⟨z,rfl,hb2⟩
  have HB2:=Lib.hid (HB1.out.tr hb2)
  clear hb2
  go_wp2_with fail
  go_ret
  exact⟨z,rfl,HZ.out.tr HB2.out,fun h1 h2=>absurd HR1.out (by simp [BW,h1])⟩
 by_cases r2:BW a=2
 ·have HR1:=Lib.hid r2
  rw [r2]
  clear r1 r2
  go_wp2_with fail
  refine(CVV.out w1 hi1).mono ?_
  rintro _ w2 ⟨rfl,hb2⟩
  have HB2:=Lib.hid (HB1.out.tr hb2)
  clear hb2
  go_wp2_with fail
  go_ret
  exact⟨_,rfl,HZ.out.tr HB2.out,fun h1 h2=>absurd HR1.out (by simp [BW,h1])⟩
 by_cases r3:BW a=3
 ·have HR1:=Lib.hid r3
  rw [r3]
  clear r1 r2 r3
  go_wp2_with fail
  go_ret
  exact⟨_,rfl,HZ.out.tr HB1.out,fun h1 h2=>absurd HR1.out (by simp [BW,h1])⟩
 have r0:BW a=0:=by unfold BW at r1 r2 r3⊢;split<;>simp_all
 rw [r0]
 clear r0 r1 r2 r3
 go_wp2_with fail
 go_ret
 exact⟨_,rfl,HZ.out.tr HB1.out,fun h1 h2=>by simp⟩
end
section
open Go Go.RowKit
theorem equalElems_f (a b:GE)(ha:a.k=0)(hb:b.k=0)(H:Hp)(x2 x3 x4 x5 y2 y3 y4 y5:Value)(w:World)(hi:Imm H w)(hv:RE H a x2 x3 x4 x5)(hu:RE H b y2 y3 y4 y5):
  Calls Tryz.prog 134 #[Dl a x2 x3 x4 x5,Dl b y2 y3 y4 y5] w (Pur w (.bool (a.s.toList==b.s.toList))):=by
 refine(equalElems_c a b H x2 x3 x4 x5 y2 y3 y4 y5 w hi hv hu).mono ?_
 rintro _ w1 ⟨z,rfl,hbw,hz⟩
 exact⟨by rw [hz ha hb],hbw⟩
theorem hasPrefix1_c (a b:GE)(ha:a.k=0)(hb:b.k=0)(H:Hp)(x y:Value)(w:World)(hi:Imm H w)(hv:EA H [a] x)(hu:EA H [b] y):
  Calls Tryz.prog 128 #[x,y] w (Pur w (.bool (a.s.toList==b.s.toList))):=by
 obtain⟨ax,cx,rfl,_,_,hcx,hax⟩:=hv
 obtain⟨ay,cy,rfl,_,_,hcy,hay⟩:=hu
 have HI:=Lib.hid hi
 have HA:=Lib.hid (And.intro hax hay)
 have HF:=Lib.hid (And.intro ha hb)
 obtain⟨bA,oA,_,_,_,_,_,_,_,_,rfl,_⟩:=hax.look hi (j:=0) (by simp)
 obtain⟨bB,oB,_,_,_,_,_,_,_,_,rfl,_⟩:=hay.look hi (j:=0) (by simp)
 clear hi hax hay ha hb
 have h1x:(1:Nat)≤cx:=by simpa using hcx
 have h1y:(1:Nat)≤cy:=by simpa using hcy
 clear hcx hcy
 simp only [List.length_cons,List.length_nil,Nat.zero_add]
 go_enter Tryz.func128,Tryz.ntmps128
 go_wp2_with fail
 go_loopw [13] (fun i wr=>((i= .int .i64 0)∨(i= .int .i64 1∧Hid ((a.s.toList==b.s.toList)=true)))∧Bw w wr) (fun i _=>1 - (intOf i).toNat)
 case atStart=>exact⟨Or.inl rfl,Bw.rfl⟩
 case round=>
  obtain⟨hj,hb⟩:=hrel
  have HB:=Lib.hid hb
  have hiq:=HI.out.below hb
  obtain⟨wq,hwq⟩:∃x:World,x=wr:=⟨_,rfl⟩
  rw [←hwq]at HB hiq⊢
  clear hwq hb
  rcases hj with rfl|⟨rfl,HT⟩
  ·obtain⟨_,_,a2,c2,a3,c3,a4,c4,a5,c5,e1,hE,i0,i1,i2,i3,i4,i5,i6,i7,i8,i9,i10⟩:=HA.out.1.look hiq (j:=0) (by simp)
   cases e1
   obtain⟨_,_,b2,d2,b3,d3,b4,d4,b5,d5,e1,hE',j0,j1,j2,j3,j4,j5,j6,j7,j8,j9,j10⟩:=HA.out.2.look hiq (j:=0) (by simp)
   cases e1
   simp only [Nat.zero_mul,Nat.add_zero,List.getElem_cons_zero]at i0 i1 i2 i3 i4 i5 i6 i7 i8 i9 i10 j0 j1 j2 j3 j4 j5 j6 j7 j8 j9 j10 hE hE'
   have CP:=fun d os=>Calls.regrown_of (equalElems_f a b HF.out.1 HF.out.2 H _ _ _ _ _ _ _ _ (Go.Sort.grow (redrawn wq d) os) (hiq.below (below_regrown wq d os)) hE hE')
   unfold Dl at CP
   have I0:=cell_regrown i0
   have J0:=cell_regrown j0
   have I1:=cell_regrown i1
   have J1:=cell_regrown j1
   have I2:=cell_regrown i2
   have J2:=cell_regrown j2
   have I3:=cell_regrown i3
   have J3:=cell_regrown j3
   have I4:=cell_regrown i4
   have J4:=cell_regrown j4
   have I5:=cell_regrown i5
   have J5:=cell_regrown j5
   have I6:=cell_regrown i6
   have J6:=cell_regrown j6
   have I7:=cell_regrown i7
   have J7:=cell_regrown j7
   have I8:=cell_regrown i8
   have J8:=cell_regrown j8
   have I9:=cell_regrown i9
   have J9:=cell_regrown j9
   have I10:=cell_regrown i10
   have J10:=cell_regrown j10
   clear i0 i1 i2 i3 i4 i5 i6 i7 i8 i9 i10 j0 j1 j2 j3 j4 j5 j6 j7 j8 j9 j10 hE hE'
   cases hq:(a.s.toList==b.s.toList)
   all_goals
    have HQ:=Lib.hid hq
    rw [hq]at CP
    clear hq
    go_wp2_with fail
    refine wp_region_quiet_below (by kernel_rfl) (by kernel_rfl) ?_
    repeat (go_big_quiet_step (exact CP _ _))
    refine wpQuiet_nil ?_
    intro _ hw'
    obtain⟨⟨dq,osq⟩,hw''⟩:=hw'
    subst hw''
    obtain⟨wn,hwn,hw'⟩:∃x,Bw wq x∧x=Go.Sort.grow (redrawn wq dq) osq:=⟨_,below_regrown _ _ _,rfl⟩
    rw [←hw']
    clear hw'
    go_wp2_with fail
   ·go_ret
    exact⟨rfl,HB.out.tr hwn⟩
   ·go_roundw
    case rel=>exact⟨Or.inr ⟨rfl,by first|exact HQ|exact True.intro⟩,HB.out.tr hwn⟩
    case measure=>simp [intOf]
  ·go_wp2_with fail
   go_ret
   exact⟨AQ (by rw [HT.out]),HB.out⟩
theorem equalPaths1_c (a b:GE)(ha:a.k=0)(hb:b.k=0)(H:Hp)(x y:Value)(w:World)(hi:Imm H w)(hv:EA H [a] x)(hu:EA H [b] y):
  Calls Tryz.prog 102 #[x,y] w (Pur w (.bool (a.s.toList==b.s.toList))):=by
 have CP:=Lib.hid (fun w0 h0=>hasPrefix1_c a b ha hb H x y w0 h0 hv hu)
 have HI:=Lib.hid hi
 obtain⟨ax,cx,rfl,_,_,hcx,hax⟩:=hv
 obtain⟨ay,cy,rfl,_,_,hcy,hay⟩:=hu
 clear hi hax hay ha hb hcx hcy
 simp only [List.length_cons,List.length_nil,Nat.zero_add]at CP⊢
 go_enter Tryz.func102,Tryz.ntmps102
 go_wp2_with fail
 refine(CP.out w HI.out).mono ?_
 rintro _ w1 ⟨rfl,hb1⟩
 go_wp2_with fail
 go_ret
 exact⟨rfl,hb1⟩
end
end Go.Proofs.YtmghkmhgpmcoaaaGreat
