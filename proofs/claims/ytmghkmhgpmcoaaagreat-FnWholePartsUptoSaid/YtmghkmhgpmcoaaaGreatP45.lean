/- What the claim's theorem 'proved' rests on: FsWhole. -/
import Derived.Test.YtmghkmhgpmcoaaaGreatP25
import Derived.Test.YtmghkmhgpmcoaaaGreatP44
set_option linter.unusedVariables false
set_option linter.unusedSimpArgs false
set_option maxRecDepth 100000
set_option maxHeartbeats 10000000
namespace Go.Proofs.YtmghkmhgpmcoaaaGreat
section
open Go Go.RowKit Go.MapKept
def ChildF (H:Hp)(r:As)(t:JT)(S:Option Addr)(bM:Nat):Prop:=∀(K:Hp) (bl bP:Nat) (p0:Option Addr) (x:Value) (w1:World) (w2b:Nat) (m2:FW) (y:Six),Hle H K→Imm K w1→A8 K bl 0=some x→RJ K t x→BM Ak K r y→m2.L=Ab bl→m2.S=S→m2.y=y→m2.set=bM→m2.pa=some ⟨bP,0,none⟩→m2.pn=1→
 w1.heap[bM]?=some AK→(w1.cell? ⟨bP,0,none⟩=some (.pointer p0)∧w1.cell? ⟨bP,1,none⟩=some (.pointer none)∧w1.cell? ⟨bP,2,none⟩=some (.pointer none)∧w1.cell? ⟨bP,3,none⟩=some (.pointer none))→¬bM=w2b→w1.heap[w2b]?=some m2.obj→
 Calls Tryz.prog 68 #[.pointer (some ⟨w2b,0,none⟩)] w1 (fun e w'=>e= .returned (.slice none 0 0)∧∃wx,Bw w1 wx∧FsOut wx bM p0 none none none w')
theorem fs_leaf (s:List Ax)(r:As)(a:Ap)(t:JT)(hres:Av s r=some a)(h1:Ck a t)(S:Option Addr)(bM:Nat)(H:Hp)(hS:AO Ak H s (.pointer S)):ChildF H r t S bM:=by
 intro K bl bP p0 x w1 wb m2 y hHK hiK cx hx hr e1 e3 e4 e6 e7 e8 hM0 hcp hnM hb
 subst e4
 refine(fs_toSet m2 s r a bl wb e1 hres K w1 hiK (by rw [e3];exact hS.mono hHK) hr hb ?_ (fun wa wd=>∃wc,Bw wa wc∧FsOut wc bM p0 none none none wd) ?_).mono ?_
 ·intro K2 w2 p1 p2 p3 hi2 hk2 hq
  have hx2:=hx.mono hk2
  have cx2:=A7 hk2 cx
  cases h1 with
  |sc sc t he hf=>
   simp only [AI,QLi,QMa,Bk,he]at hq
   obtain⟨⟨b,rfl,_⟩,rfl,rfl⟩:=hq
   exact EW t (fitsJ_sc hf) K2 bl x _ w2 hi2 cx2 hx2
  |li sc e rel keys r l he hf hl=>
   simp only [AI,QLi,QMa,Bk,he,if_true]at hq
   obtain⟨rfl,⟨b,_,_,rfl,_⟩,rfl⟩:=hq
   exact EX (.list l) rfl K2 bl x _ w2 hi2 cx2 hx2
  |ma sc fs e rel r ks vs he hf hl=>
   simp only [AI,QLi,QMa,Bk,he,if_true]at hq
   obtain⟨rfl,rfl,b,_,_,rfl,_⟩:=hq
   exact Dd (.map ks vs) rfl K2 bl x _ w2 hi2 cx2 hx2
 ·intro K2 w2 p1 p2 p3 hb2 hi2 hk2 _ hq
  have hx2:=hx.mono hk2
  have cx2:=A7 hk2 cx
  have hbb:=A2 hb2 hb
  cases h1 with
  |sc sc t he hf=>
   simp only [AI,QLi,QMa,Bk,he]at hq
   obtain⟨⟨b,rfl,hcs,_⟩,rfl,rfl⟩:=hq
   refine(DR _ ⟨wb,0,none⟩ m2.y w2 (fun wa wd=>∃wc,Bw wa wc∧FsOut wc bM p0 none none none wd) (fun w3 hb3=>(fs_doScalar m2 b wb bM bP p0 none none none e6 e7 e8 w3 (A2 hb3 hbb) (A2 hb3 (A2 hb2 hM0)) (BJ (hb2.tr hb3) hcp) hnM).mono (by rintro _ w4 ⟨rfl,h4⟩;exact⟨rfl,w3,Bw.rfl,h4⟩))).mono ?_
   rintro _ w5 ⟨rfl,wq,g1,wr,g2,g3⟩
   exact⟨rfl,wr,Bw.tr g1 g2,g3⟩
  |li sc e rel keys r l he hf hl=>
   simp only [AI,QLi,QMa,Bk,he,if_true]at hq
   obtain⟨rfl,⟨b,_,_,rfl,_,hcr,_⟩,rfl⟩:=hq
   obtain⟨a1,c1,rfl⟩:=hx2.listA
   refine(Ec _ ⟨wb,0,none⟩ m2.y w2 (fun wa wd=>∃wc,Bw wa wc∧FsOut wc bM p0 none none none wd) (fun w3 hb3=>fs_doListA m2 l K2 bl wb b bM bP a1 c1 p0 none none none rel hf w3 e1 e6 e7 e8 (hi2.below hb3) cx2 hx2 hcr (A2 hb3 hbb) (A2 hb3 (A2 hb2 hM0)) (BJ (hb2.tr hb3) hcp) hnM)).mono ?_
   rintro _ w5 ⟨rfl,wq,g1,wr,g2,g3⟩
   exact⟨rfl,wr,Bw.tr g1 g2,g3⟩
  |ma sc fs e rel r ks vs he hf hl=>
   simp only [AI,QLi,QMa,Bk,he,if_true]at hq
   obtain⟨rfl,rfl,b,_,_,rfl,_,_,_,hcr,_⟩:=hq
   obtain⟨a1,_,_,rfl,_⟩:=hx2.mapAt
   refine(CI _ ⟨wb,0,none⟩ m2.y w2 (fun wa wd=>∃wc,Bw wa wc∧FsOut wc bM p0 none none none wd) (fun w3 hb3=>fs_doMapA m2 ks vs K2 bl wb b bM bP a1 p0 none none none rel hf w3 e1 e6 e7 e8 (hi2.below hb3) cx2 hx2 hcr (A2 hb3 hbb) (A2 hb3 (A2 hb2 hM0)) (BJ (hb2.tr hb3) hcp) hnM)).mono ?_
   rintro _ w5 ⟨rfl,wq,g1,wr,g2,g3⟩
   exact⟨rfl,wr,Bw.tr g1 g2,g3⟩
 ·rintro _ w4 ⟨rfl,w2,hb2,wc,g1,g3⟩
  exact⟨rfl,wc,hb2.tr g1,g3⟩
end
end Go.Proofs.YtmghkmhgpmcoaaaGreat
