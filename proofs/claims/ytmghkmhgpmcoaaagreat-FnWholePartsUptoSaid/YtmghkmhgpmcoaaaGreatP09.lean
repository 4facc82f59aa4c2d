/- What the claim's theorem 'proved' rests on: Schema, ValB, Plain, ToRef, ToList, ToField. -/
import Derived.Test.YtmghkmhgpmcoaaaGreatP04
import Derived.Test.YtmghkmhgpmcoaaaGreatP05
import Derived.Test.YtmghkmhgpmcoaaaGreatP08
set_option linter.unusedVariables false
set_option linter.unusedSimpArgs false
set_option maxRecDepth 100000
set_option maxHeartbeats 10000000
namespace Go.Proofs.YtmghkmhgpmcoaaaGreat
section
open Go.RowKit
def QPtr (H:Hp)(s:ByteArray)(x:Option Addr):Prop:=∃b,x=some ⟨b,0,none⟩∧A8 H b 0=some (.string s)∧s.size≤lim
def Bk (H:Hp)(s:ByteArray)(x:Option Addr):Prop:=if s.toList.isEmpty=true then x=none else QPtr H s x
structure Six where
 y0:Option Addr
 y1:Option Addr
 y2:Option Addr
 y3:Option Addr
 y4:Option Addr
abbrev F9 (y:Six):Value:= .agg #[.pointer y.y0, .pointer y.y1, .pointer y.y2, .pointer y.y3, .pointer y.y4, .bool false]
def E7 (H:Hp)(b o:Nat)(y:Six):Prop:=
 A8 H b o=some (.pointer y.y0)∧A8 H b (o+1)=some (.pointer y.y1)∧A8 H b (o+2)=some (.pointer y.y2)∧A8 H b (o+3)=some (.pointer y.y3)∧A8 H b (o+4)=some (.pointer y.y4)∧A8 H b (o+5)=some (.bool false)
def QDflt (H:Hp)(l:List GV)(x:Value)(jt:GV→JT):Prop:=match l with|[]=>x= .nilIface|v::_=>RJ H (jt v) x
section
variable (jt:GV→JT)
mutual
def AI (H:Hp):Ap→Option Addr→Option Addr→Option Addr→Prop
 |⟨sc,li,ma⟩,x1,x2,x3=>Bk H sc x1∧QLi H li x2∧QMa H ma x3
def BM (H:Hp):As→Six→Prop
 |⟨named,name,atom,rel⟩,y=>((named=true∧QPtr H name y.y0∧y.y1=none∧y.y2=none∧y.y3=none)∨(named=false∧y.y0=none∧AI H atom y.y1 y.y2 y.y3))∧Bk H rel y.y4
def QLi (H:Hp):List B3→Option Addr→Prop
 |[],x=>x=none
 |⟨elem,rel,keys⟩::_,x=>∃b y xk,x=some ⟨b,0,none⟩∧E7 H b 0 y∧A8 H b 6=some (.string rel)∧A8 H b 7=some xk∧rel.size≤lim∧Cv H keys xk∧BM H elem y
def QMa (H:Hp):List Bp→Option Addr→Prop
 |[],x=>x=none
 |⟨fields,elem,rel⟩::_,x=>∃b xf y,x=some ⟨b,0,none⟩∧A8 H b 0=some xf∧A8 H b 1=some (.slice none 0 0)∧E7 H b 2 y∧A8 H b 8=some (.string rel)∧rel.size≤lim∧
   Sl (fun a=>AW H a 0 fields) fields.length xf∧BM H elem y
def AW (H:Hp)(a:Option Addr):Nat→List Au→Prop
 |_,[]=>True
 |i,⟨name,type,dflt⟩::r=>(∃b o y xd,a=some ⟨b,o,none⟩∧A8 H b (o+i * 8)=some (.string name)∧E7 H b (o+i * 8+1) y∧A8 H b (o+i * 8+7)=some xd∧name.size≤lim∧BM H type y∧QDflt H dflt xd jt)∧AW H a (i+1) r
end
def E' (H:Hp)(t:Au)(y:Six)(xd:Value):Prop:=t.name.size≤lim∧BM jt H t.type y∧QDflt H t.dflt xd jt
def cellsG (H:Hp)(b o:Nat)(t:Au)(y:Six)(xd:Value):Prop:=A8 H b o=some (.string t.name)∧E7 H b (o+1) y∧A8 H b (o+7)=some xd
theorem AW.get {H:Hp}{a:Option Addr}:∀{l:List Au} {i:Nat},AW jt H a i l→∀j (h:j<l.length),∃b o y xd,a=some ⟨b,o,none⟩∧cellsG H b (o+(i+j) * 8) l[j] y xd∧E' jt H l[j] y xd
 |[],_,_,j,h=>by simp at h
 |⟨name,type,dflt⟩::r,i,h,j,hj=>by
  simp only [AW]at h
  cases j with
  |zero=>
   obtain⟨⟨b,o,y,xd,e,h1,h2,h3,h4,h5,h6⟩,_⟩:=h
   exact⟨b,o,y,xd,e,⟨h1,h2,h3⟩,h4,h5,h6⟩
  |succ j=>
   have:=AW.get h.2 j (by simpa using hj)
   simpa [Nat.add_assoc,Nat.add_comm 1 j]using this
theorem AW.mk {H:Hp}{a:Option Addr}:∀{l:List Au} {i:Nat},(∀j (h:j<l.length),∃b o y xd,a=some ⟨b,o,none⟩∧cellsG H b (o+(i+j) * 8) l[j] y xd∧E' jt H l[j] y xd)→AW jt H a i l
 |[],_,_=>by simp only [AW]
 |⟨name,type,dflt⟩::r,i,h=>by
  simp only [AW]
  refine⟨?_,AW.mk fun j hj=> ?_⟩
  ·obtain⟨b,o,y,xd,e,⟨h1,h2,h3⟩,h4,h5,h6⟩:=h 0 (by simp)
   exact⟨b,o,y,xd,e,by simpa using h1,by simpa using h2,by simpa using h3,h4,h5,h6⟩
  ·have:=h (j+1) (by simpa using hj)
   simpa [Nat.add_assoc,Nat.add_comm 1 j]using this
def cellsT (H:Hp)(b o:Nat)(t:Ax)(x1 x2 x3:Option Addr):Prop:=A8 H b o=some (.string t.name)∧A8 H b (o+1)=some (.pointer x1)∧A8 H b (o+2)=some (.pointer x2)∧A8 H b (o+3)=some (.pointer x3)
def QDefAt (H:Hp)(a:Option Addr)(l:List Ax):Prop:=∀j (h:j<l.length),∃b o x1 x2 x3,a=some ⟨b,o,none⟩∧cellsT H b (o+j * 4) l[j] x1 x2 x3∧l[j].name.size≤lim∧AI jt H l[j].atom x1 x2 x3
def AO (H:Hp)(l:List Ax)(X:Value):Prop:=∃b x,X= .pointer (some ⟨b,0,none⟩)∧A8 H b 0=some x∧Sl (fun a=>QDefAt jt H a l) l.length x
end
theorem QPtr.mono {H K:Hp}(hk:Hle H K){s:ByteArray}{x:Option Addr}(h:QPtr H s x):QPtr K s x:=by
 obtain⟨b,e,hc,hs⟩:=h;exact⟨b,e,A7 hk hc,hs⟩
theorem Bk.mono {H K:Hp}(hk:Hle H K){s:ByteArray}{x:Option Addr}(h:Bk H s x):Bk K s x:=by
 unfold Bk at h⊢;split at h<;>rename_i c
 ·rw [if_pos c];exact h
 ·rw [if_neg c];exact h.mono hk
theorem E7.mono {H K:Hp}(hk:Hle H K){b o:Nat}{y:Six}(h:E7 H b o y):E7 K b o y:=
 ⟨A7 hk h.1,A7 hk h.2.1,A7 hk h.2.2.1,A7 hk h.2.2.2.1,A7 hk h.2.2.2.2.1,A7 hk h.2.2.2.2.2⟩
theorem QDflt.mono {jt:GV→JT}{H K:Hp}(hk:Hle H K){l:List GV}{x:Value}(h:QDflt H l x jt):QDflt K l x jt:=by
 cases l with
 |nil=>exact h
 |cons v r=>exact RJ.mono hk h
mutual
theorem AI.mono {jt:GV→JT}{H K:Hp}(hk:Hle H K):∀{a:Ap} {x1 x2 x3:Option Addr},AI jt H a x1 x2 x3→AI jt K a x1 x2 x3
 |⟨sc,li,ma⟩,x1,x2,x3,h=>by
  simp only [AI]at h⊢
  exact⟨h.1.mono hk,QLi.mono hk h.2.1,QMa.mono hk h.2.2⟩
theorem BM.mono {jt:GV→JT}{H K:Hp}(hk:Hle H K):∀{r:As} {y:Six},BM jt H r y→BM jt K r y
 |⟨named,name,atom,rel⟩,y,h=>by
  simp only [BM]at h⊢
  refine⟨?_,h.2.mono hk⟩
  rcases h.1 with⟨h1,h2,h3⟩|⟨h1,h2,h3⟩
  ·exact .inl ⟨h1,h2.mono hk,h3⟩
  ·exact .inr ⟨h1,h2,AI.mono hk h3⟩
theorem QLi.mono {jt:GV→JT}{H K:Hp}(hk:Hle H K):∀{l:List B3} {x:Option Addr},QLi jt H l x→QLi jt K l x
 |[],x,h=>by simp only [QLi]at h⊢;exact h
 |⟨elem,rel,keys⟩::_,x,h=>by
  simp only [QLi]at h⊢
  obtain⟨b,y,xk,e,h1,h2,h3,h4,h5,h6⟩:=h
  exact⟨b,y,xk,e,h1.mono hk,A7 hk h2,A7 hk h3,h4,h5.mono hk,BM.mono hk h6⟩
theorem QMa.mono {jt:GV→JT}{H K:Hp}(hk:Hle H K):∀{l:List Bp} {x:Option Addr},QMa jt H l x→QMa jt K l x
 |[],x,h=>by simp only [QMa]at h⊢;exact h
 |⟨fields,elem,rel⟩::_,x,h=>by
  simp only [QMa]at h⊢
  obtain⟨b,xf,y,e,h1,h2,h3,h4,h5,h6,h7⟩:=h
  exact⟨b,xf,y,e,A7 hk h1,A7 hk h2,h3.mono hk,A7 hk h4,h5,h6.mono fun _ g=>AW.mono hk g,BM.mono hk h7⟩
theorem AW.mono {jt:GV→JT}{H K:Hp}(hk:Hle H K){a:Option Addr}:∀{l:List Au} {i:Nat},AW jt H a i l→AW jt K a i l
 |[],_,_=>by simp only [AW]
 |⟨name,type,dflt⟩::r,i,h=>by
  simp only [AW]at h⊢
  obtain⟨⟨b,o,y,xd,e,h1,h2,h3,h4,h5,h6⟩,h7⟩:=h
  exact⟨⟨b,o,y,xd,e,A7 hk h1,h2.mono hk,A7 hk h3,h4,BM.mono hk h5,h6.mono hk⟩,AW.mono hk h7⟩
end
theorem E'.mono {jt:GV→JT}{H K:Hp}(hk:Hle H K){t:Au}{y:Six}{xd:Value}(h:E' jt H t y xd):E' jt K t y xd:=⟨h.1,h.2.1.mono hk,h.2.2.mono hk⟩
theorem AO.mono {jt:GV→JT}{H K:Hp}(hk:Hle H K){l:List Ax}{X:Value}(h:AO jt H l X):AO jt K l X:=by
 obtain⟨b,x,e,hc,hs⟩:=h
 refine⟨b,x,e,A7 hk hc,hs.mono fun a g j hj=> ?_⟩
 obtain⟨b,o,x1,x2,x3,e,⟨h1,h2,h3,h4⟩,h5,h6⟩:=g j hj
 exact⟨b,o,x1,x2,x3,e,⟨A7 hk h1,A7 hk h2,A7 hk h3,A7 hk h4⟩,h5,h6.mono hk⟩
theorem EB {jt:GV→JT}{H:Hp}{r:As}{y:Six}:BM jt H r y↔((r.named=true∧QPtr H r.name y.y0∧y.y1=none∧y.y2=none∧y.y3=none)∨(r.named=false∧y.y0=none∧AI jt H r.atom y.y1 y.y2 y.y3))∧Bk H r.rel y.y4:=by
 cases r;simp only [BM]
theorem Ej {jt:GV→JT}{H:Hp}{a:Ap}{x1 x2 x3:Option Addr}:AI jt H a x1 x2 x3↔Bk H a.sc x1∧QLi jt H a.li x2∧QMa jt H a.ma x3:=by
 cases a;simp only [AI]
end
section
open Go.RowKit
def IsAny (x:Value):Prop:=x= .nilIface∨∃T v,x= .iface T v
theorem RJ.isAny {H:Hp}{t:JT}{x:Value}(h:RJ H t x):IsAny x:=by
 cases t<;>simp only [RJ]at h
 case list l=>obtain⟨a,c,rfl,_⟩:=h;exact .inr ⟨_,_,rfl⟩
 case map ks vs=>obtain⟨r,es,ck,rfl,_⟩:=h;exact .inr ⟨_,_,rfl⟩
 case null=>exact .inl h
 case bool b=>exact .inr ⟨_,_,h⟩
 all_goals exact .inr ⟨_,_,h.1⟩
theorem reuse_c (b:Nat)(x y:Value)(w:World)(hx:IsAny x)(hb:w.heap[b]?=some (.cells #[y] 244 (0,0))):
  Calls Tryz.prog 87 #[.pointer (some ⟨b,0,none⟩),x] w fun e w'=>e= .returned (.iface 184 (.pointer (some ⟨b,0,none⟩)))∧w'=w.setCell ⟨b,0,none⟩ x:=by
 obtain⟨q,f⟩:=A1 hb
 clear hb
 rcases hx with rfl|⟨T,v,rfl⟩
 all_goals
  go_enter Tryz.func87,Tryz.ntmps87
  go_wp2;go_ret;exact⟨rfl,rfl⟩
theorem newVal_c (t:JT)(H:Hp)(x:Value)(w:World)(hi:Imm H w)(hx:RJ H t x):Calls Tryz.prog 53 #[x] w fun e w'=>Bw w w'∧∃X,e= .returned X∧RVal (A6 H w w') t X:=by
 have HX:=Lib.hid hx;have HO:=Lib.hid hx.isAny;clear hx
 go_enter Tryz.func53,Tryz.ntmps53
 go_wp2_with fail
 refine(allocVU_c _ _).mono ?_
 rintro e w1 ⟨rfl,rfl⟩
 go_wp2_with fail
 refine(reuse_c _ x .nilIface _ HO.out BF).mono ?_
 rintro e w1 ⟨rfl,rfl⟩
 go_wp2_with fail
 go_ret
 refine⟨Am,_,rfl,_,x,rfl, ?_,HX.out.mono (AY hi)⟩
 rw [Bh (Nat.le_succ _)]
 exact(A1 BF).1 0
end
section
open Go.RowKit
def RetJ (H:Hp)(w:World)(t:JT):Ending→World→Prop:=fun e w'=>Bw w w'∧∃x,e= .returned x∧RJ (A6 H w w') t x
def CPlain (v:GV):Prop:=∀(H:Hp) (x4 x5:Value) (w:World),Imm H w→RV H v x4 x5→Calls Tryz.prog 54 #[Ar v x4 x5] w (RetJ H w (Ak v))
def RetM (H:Hp)(w:World)(t:JT):Ending→World→Prop:=fun e w'=>Bw w w'∧∃r,e= .returned (.map (some r))∧RJ (A6 H w w') t (.iface 190 (.map (some r)))
def CPlainMap (v:GV):Prop:=∀(H:Hp) (x4 x5:Value) (w:World),Imm H w→RV H v x4 x5→Calls Tryz.prog 88 #[Ar v x4 x5] w (RetM H w (D3 (v.ks.zip (Cu v.l)) [] []))
def PM (H:Hp)(w wr:World)(r:Nat)(all:List (ByteArray × JT))(j:Nat):Prop:=
 ∃ks vs es ck,D3 all [] []=D3 (all.drop j) ks vs∧AZ (AX H w wr (some r)) wr r ks vs es ck∧ks.length≤j
theorem PM.skip {H:Hp}{w wr:World}{r:Nat}{all:List (ByteArray × JT)}{j:Nat}(h:PM H w wr r all j)(hj:all.length≤j):PM H w wr r all (j+1):=by
 obtain⟨ks,vs,es,ck,h1,h2,h3⟩:=h
 exact⟨ks,vs,es,ck,by rw [h1,List.drop_eq_nil_of_le hj,List.drop_eq_nil_of_le (by omega)],h2,by omega⟩
theorem plainMap_of (v:GV)(hc:∀j (h:j<v.l.length),CPlain v.l[j]):CPlainMap v:=by
 intro H x4 x5 w hi hv
 obtain⟨hk,hn,hf,hs,h4,a5,c5,rfl,hn5,hl5,hc5,hat5⟩:=By.1 hv
 obtain⟨a4,c4,rfl,hn4,hl4,hc4,hat4⟩:=h4
 have HC:=Lib.hid hc
 clear hv hc
 rcases v with⟨k,n,f,s,ks,l⟩
 unfold Ar
 simp only at *
 have HL4:=Lib.hid hl4
 unfold lim at hl4 hl5
 have hmm:= @run_makeMap Tryz.prog
 go_enter Tryz.func88,Tryz.ntmps88
 go_wp2_with fail
 clear hmm
 go_loopw [10] (fun i wr=>∃j:Nat,j≤ks.length∧i= .int .i64 j∧PM H w wr (w.heap.size+1) (ks.zip (Cu l)) j∧Bw w wr∧wr.heap[w.heap.size]?=some (.cells #[.int .i64 k, .int .i64 n, .float .f64 f, .string s, .slice a4 ks.length c4, .slice a5 l.length c5] 35)) (fun i _=>ks.length - (intOf i).toNat)
 case atStart=>
  refine⟨0,by omega,rfl,⟨[],[], #[],0,rfl, ?_,by simp⟩,Am,Cs⟩
  simpa using AZ.made (AX H w ((w.alloc _).alloc (.map #[] 0)) (some (w.heap.size+1))) (w.alloc _)
 case round=>
  rename_i wr
  obtain⟨j,hj,rfl,hpm,hb,hbox⟩:=hrel
  have hiw:=hi.below hb
  obtain⟨q,fr⟩:=A1 hbox
  have HB:=Lib.hid hbox
  clear hbox
  by_cases hjk:j<ks.length
  ·obtain⟨b4,o4,rfl,hck,hks⟩:=hat4.look hiw hjk
   by_cases hjl:j<l.length
   ·obtain⟨b,o,d4,e4,d5,e5,rfl,hv',i0,i1,i2,i3,i4,i5⟩:=hat5.look hiw hjl
    go_wp2_with fail
    have HV:=Lib.hid hv';have HKS:=Lib.hid hks;have HPM:=Lib.hid hpm
    clear hv' hks hpm i0 i1 i2 i3 i4 i5 hck q fr
    refine(HC.out j hjl H _ _ _ (hi.below hb) HV.out).mono ?_
    rintro e w1 ⟨hb1,x,rfl,hx⟩
    obtain⟨kk,vs,es,ck,h1,h2,h3⟩:=HPM.out
    have hxx:=hx.mono (Ex (X:=some (w.heap.size+1)) hi hb.size (by intro k' e;cases e;have:=A0 h2.at_;exact this))
    obtain⟨es',ck',w2,hrun,hown,ht⟩:=(h2.mono (Ee hb1) (by rw [hb1.block _ (A0 h2.at_)])).put2 ks[j] HKS.out _ _ hxx
    have H1:=Lib.hid h1;have H2:=Lib.hid (And.intro hown (And.intro ht h3))
    clear h1 h2 h3 hx hxx hown ht HPM
    go_wp2_with fail
    go_roundw
    case rel=>
     obtain⟨hown,ht,h3⟩:=H2.out
     have hbw:Bw w w2:=(hb.tr hb1).turn (by omega) ht
     refine⟨j+1,by omega,by go_num,⟨_,_,es',ck', ?_,hown.mono (hle_growX_turn ht) rfl, ?_⟩,hbw, ?_⟩
     ·rw [H1.out,List.drop_eq_getElem_cons (by simp [BA];omega)]
      simp only [List.getElem_zip,D3,jtsOf_get l j hjl]
     ·have:=putK_length kk ks[j];omega
     ·rw [ht.block _ (by omega)];exact A2 hb1 HB.out
    case measure=>simp [intOf];omega
   ·go_wp2_with fail
    go_roundw
    case rel=>exact⟨j+1,by omega,by go_num,hpm.skip (by simp [BA];omega),hb,HB.out⟩
    case measure=>simp [intOf];omega
  ·go_wp2_with fail
   go_ret
   have:j=ks.length:=by omega
   subst this
   obtain⟨kk,vs,es,ck,h1,h2,h3⟩:=hpm
   refine⟨hb,_,rfl, ?_⟩
   rw [h1,List.drop_eq_nil_of_le (by simp;omega)]
   simp only [D3]
   refine h2.shut Dv ?_ (by have:=HL4.out;omega)
   unfold A6;rw [if_neg (by omega)]
theorem info_any:(Tryz.prog.info? 20).map (fun i=>(i.zero,i.size,i.bytes))=some (some .nilIface,1,16):=by kernel_rfl
theorem und_anys:Tryz.prog.underlying 189=some (.slice 20):=by kernel_rfl
theorem make_anys (n:Nat)(hn:n≤lim)(w:World):(Instr.makeSlice 189 (.int .i64 0) (.int .i64 (n:Int))).run Tryz.prog w= .ok (.slice (some ⟨w.heap.size,0,none⟩) 0 n) (w.alloc (.cells (madeCells #[.nilIface] n) 20)):=by
 obtain⟨i,hi,hz,hs,hb⟩:=info_parts info_any
 unfold lim at hn
 have:=run_make (P:=Tryz.prog) w 189 20 i .nilIface und_anys hi hz .i64 .i64 0 n (by omega) (by omega) (by rw [hb];omega) (by omega)
 simpa [hs,Value.cells]using this
def PL (H:Hp)(w wr:World)(B:Nat)(v:Value)(ts:List JT)(j:Nat):Prop:=
 ∃xs:List Value,wr.ownsRow B 20 1 v j xs∧∀i (h:i<j),∃(h1:i<ts.length) (h2:i<xs.length),RJ (AX H w wr v.ownBlock) ts[i] xs[i]
theorem PL.own {H:Hp}{w wr:World}{B:Nat}{v:Value}{ts:List JT}{j:Nat}(h:PL H w wr B v ts j):∃xs,wr.ownsRow B 20 1 v j xs∧(∀i (h:i<j),∃(h1:i<ts.length) (h2:i<xs.length),RJ (AX H w wr v.ownBlock) ts[i] xs[i]):=h
theorem PL.step {H:Hp}{w wr w1 w2:World}{B:Nat}{v v' x:Value}{ts:List JT}{j:Nat}{xs:List Value}
  (hi:Imm H w) (hB:w.heap.size≤B) (ho:wr.ownsRow B 20 1 v j xs) (hx:∀i (h:i<j),∃(h1:i<ts.length) (h2:i<xs.length),RJ (AX H w wr v.ownBlock) ts[i] xs[i])
  (hb:Bw wr w1) (hj:j<ts.length) (ht:RJ (A6 H wr w1) ts[j] x) (hs:w.heap.size≤wr.heap.size)
  (ho':w2.ownsRow B 20 1 v' (j+1) (xs++[x])) (hg:∀k o,w1.heap[k]?=some o→v.ownBlock≠some k→w2.heap[k]?=some o) (hv:v'.ownBlock=v.ownBlock∨∃k,v'.ownBlock=some k∧w1.heap.size≤k):PL H w w2 B v' ts (j+1):=by
 have hxl:xs.length=j:=by simpa using ho.1
 have hstep:Hle (AX H w w1 v.ownBlock) (AX H w w2 v'.ownBlock):=by
  refine BE fun k o hk he hne=>⟨?_,hg k o he hne⟩
  rcases hv with e|⟨k',e,hk'⟩
  ·rw [e];exact hne
  ·rw [e];intro h;cases h
   have:=A0 he
   omega
 refine⟨xs++[x],ho',fun i h=> ?_⟩
 by_cases hij:i<j
 ·obtain⟨h1,h2,h3⟩:=hx i hij
  refine⟨h1,by simp;omega, ?_⟩
  rw [List.getElem_append_left h2]
  exact(h3.mono (Ee hb)).mono hstep
 ·have:i=j:=by omega
  subst this
  refine⟨hj,by simp;omega, ?_⟩
  have e:(xs++[x])[i]'(by simp;omega)=x:=by simp [hxl]
  rw [e]
  exact(ht.mono (Ex hi hs fun k hk=>(ho.lt k hk).2)).mono hstep
theorem PL.shut {H:Hp}{w wr:World}{B:Nat}{v:Value}{ts:List JT}{K:Hp}(h:PL H w wr B v ts ts.length)(hn:v≠ .slice none 0 0∨True)(hk:Hle (AX H w wr v.ownBlock) K)(hr:∀g,v.ownBlock=some g→K g=wr.heap[g]?)(hl:ts.length≤lim):RJ K (.list ts) (.iface 189 v):=by
 obtain⟨xs,ho,hx⟩:=h
 have hxl:xs.length=ts.length:=by simpa using ho.1
 simp only [RJ]
 rcases ho.2 with⟨rfl,h0⟩|⟨g,cap,cur,rfl,hb,hg,hnc,hcm,hcs,htake⟩
 ·exact⟨none,0,by rw [h0],fun _=>⟨rfl,h0⟩,hl,by omega,by have:ts=[]:=List.eq_nil_of_length_eq_zero h0;subst this;simp only [Ef]⟩
 ·refine⟨_,cap,rfl,by simp,hl,hnc,Ef.mk fun i hi=> ?_⟩
  obtain⟨h1,h2,h3⟩:=hx i hi
  refine⟨g,0,xs[i],rfl, ?_,h3.mono hk⟩
  unfold A8
  rw [hr g (by simp [Value.ownBlock]),hg]
  simp only [Nat.zero_add]
  have:(cur.toList.take (ts.length * 1))[i]?=some xs[i]:=by rw [htake];simp
  rw [List.getElem?_take,if_pos (by omega)]at this
  simpa using this
theorem plain_of (v:GV)(hc:∀j (h:j<v.l.length),CPlain v.l[j])(hm:CPlainMap v):CPlain v:=by
 intro H x4 x5 w hi hv
 have HM:=Lib.hid (hm H x4 x5)
 have HV:=Lib.hid hv
 obtain⟨hk,hn,hf,hs,h4,a5,c5,rfl,hn5,hl5,hc5,hat5⟩:=By.1 hv
 obtain⟨a4,c4,rfl,hn4,hl4,hc4,hat4⟩:=h4
 have HC:=Lib.hid hc
 clear hv hc hm
 rcases v with⟨k,n,f,s,ks,l⟩
 unfold Ar at HM⊢
 simp only at *
 have HL5:=Lib.hid hl5
 by_cases e5:k=5
 ·subst e5
  have hmk:=make_anys l.length hl5
  unfold lim at hl4 hl5
  go_enter Tryz.func54,Tryz.ntmps54
  go_wp2_with fail
  clear hmk
  go_loopw [3,38] (fun v i wr=>∃j:Nat,j≤l.length∧i= .int .i64 j∧PL H w wr (w.heap.size+1) v (Cu l) j∧Bw w wr∧wr.heap[w.heap.size]?=some (.cells #[.int .i64 5, .int .i64 n, .float .f64 f, .string s, .slice a4 ks.length c4, .slice a5 l.length c5] 35)) (fun _ i _=>l.length - (intOf i).toNat)
  case atStart=>
   refine⟨0,by omega,rfl, ?_,Am,Cs⟩
   obtain⟨i,hi',hz,hs',hb'⟩:=info_parts info_any
   refine⟨[], ?_,fun i h=>by omega⟩
   have:=World.ownsRow_made (w.alloc (.cells #[.int .i64 5, .int .i64 n, .float .f64 f, .string s, .slice a4 ks.length c4, .slice a5 l.length c5] 35)) (e:=20) (size:=1) (madeCells #[.nilIface] l.length) l.length (base:=w.heap.size+1) (by simp) (by unfold maxLen;omega) (by simp [size_madeCells])
   simpa using this
  case round=>
   rename_i wr
   obtain⟨j,hj,rfl,hpl,hb,hbox⟩:=hrel
   have hiw:=hi.below hb
   obtain⟨q,fr⟩:=A1 hbox
   have HB:=Lib.hid hbox
   obtain⟨xs,ho,hxs⟩:=hpl.own
   obtain⟨ao,co,rfl⟩:=Aj ho
   have HPL:=Lib.hid (And.intro hpl (And.intro ho hxs))
   clear hbox hpl ho hxs
   by_cases hjl:j<l.length
   ·obtain⟨b,o,d4,e4,d5,e5,rfl,hv',i0,i1,i2,i3,i4,i5⟩:=hat5.look hiw hjl
    go_wp2_with fail
    have HV':=Lib.hid hv'
    clear hv' i0 i1 i2 i3 i4 i5 q fr HM HV
    refine(HC.out j hjl H _ _ _ (hiw.below A5) HV'.out).mono ?_
    rintro e w1 ⟨hb1,x,rfl,hx⟩
    obtain⟨hpl,ho,hxs⟩:=HPL.out
    have hx:=hx.mono (ER (w:=wr) hiw (by simp))
    have hb1:Bw wr w1:=Bw.tr A5 hb1
    have HO1:=Lib.hid (Cq ho hb1)
    have HP:=Lib.hid (And.intro ho (And.intro hxs hx))
    have hone:Hid (∀u ∈ (#[x]:Array Value).toList,u.oneCell'=true):=by intro u hu;simp at hu;subst hu;exact hx.oneCell
    have hsz1:=hb1.size
    have hany:=hx.isAny
    have hsz2:=hb.size
    clear hpl ho hxs hx HPL HC HV'
    rcases hany with rfl|⟨T,y,rfl⟩
    all_goals
     go_wp2_with (at_builtin;refine AF _ rfl (.tmp 42) (.tmp 45) 189 rfl (w.heap.size+1) 20 .nilIface 1 16 und_anys info_any rfl (by decide) (by decide) (.slice ao j co) j xs rfl ((Cq HO1.out A5)) w1.heap.size _ 20 rfl A4 rfl hone.out (by unfold lim;omega) (by simp;omega) ?_)
     intro v' w2 ho2 hg2 hwh2
     obtain⟨ao2,co2,rfl⟩:=Aj ho2
     have HP2:=Lib.hid (And.intro ho2 (And.intro hg2 hwh2))
     clear ho2 hg2 hwh2
     go_wp2_with fail
     go_roundw
     case rel=>
      obtain⟨ho,hxs,hx⟩:=HP.out
      obtain⟨ho2,hg2,hwh2⟩:=HP2.out
      have hjj:(Cu l)[j]'(by rw [BA];exact hjl)=Ak l[j]:=jtsOf_get l j hjl
      have hin:∀k o',w1.heap[k]?=some o'→(Value.slice ao j co).ownBlock≠some k→w2.heap[k]?=some o':=by
       intro k o' hk hne
       rw [hg2.block k (by have:=A0 hk;simp;omega) (fun e=>hne e.symm)]
       exact A3 hk
      refine⟨j+1,by omega,by go_num,PL.step hi (by omega) ho hxs hb1 (by rw [BA];exact hjl) (by rw [hjj];exact hx) hsz2 ho2 hin ?_,Bi ((hb.tr hb1).al _) hg2 (fun k hk=>by have:=(ho.lt k hk).1;omega), ?_⟩
      ·rcases hwh2 with e|e
       ·exact .inl e
       ·exact .inr ⟨_,e,by simp⟩
      ·exact hin _ _ (A2 hb1 HB.out) (fun e=>by have:=(ho.lt _ e).1;omega)
     case measure=>simp [intOf];omega
   ·go_wp2_with fail
    go_ret
    have:j=l.length:=by omega
    subst this
    obtain⟨hpl,ho,hxs⟩:=HPL.out
    refine⟨hb,_,rfl, ?_⟩
    have e1:Ak ⟨5,n,f,s,ks,l⟩= .list (Cu l):=by simp [Ak]
    rw [e1]
    refine PL.shut (by rw [BA];exact hpl) (.inr trivial) Dv ?_ (by rw [BA];exact HL5.out)
    intro g hg
    have:=(ho.lt g hg).1
    unfold A6;rw [if_neg (by omega)]
 ·by_cases e6:k=6
  ·subst e6
   go_enter Tryz.func54,Tryz.ntmps54
   go_wp2_with fail
   refine(HM.out _ (hi.below A5) HV.out).mono ?_
   rintro e w1 ⟨hb1,r,rfl,hx⟩
   have HX:=Lib.hid hx
   clear hx HM HV HC
   go_wp2_with fail
   go_ret
   have e1:Ak ⟨6,n,f,s,ks,l⟩=D3 (ks.zip (Cu l)) [] []:=by simp [Ak]
   exact⟨A5.tr hb1,_,rfl,by rw [e1];exact HX.out.mono (ER hi (by simp))⟩
  ·have e51:(k==5)=false:=by simpa using e5
   have e61:(k==6)=false:=by simpa using e6
   clear HM HC HV
   have HE:=Lib.hid (And.intro e5 e6)
   clear e5 e6
   by_cases e1:k=1
   ·subst e1
    go_enter Tryz.func54,Tryz.ntmps54
    go_wp2_with fail
    go_ret
    exact⟨A5,_,rfl,by simp [Ak,RJ]⟩
   by_cases e2:k=2
   ·subst e2
    go_enter Tryz.func54,Tryz.ntmps54
    go_wp2_with fail
    go_ret
    exact⟨A5,_,rfl,by simp [Ak,RJ];exact hn⟩
   by_cases e3:k=3
   ·subst e3
    go_enter Tryz.func54,Tryz.ntmps54
    go_wp2_with fail
    go_ret
    exact⟨A5,_,rfl,by simp [Ak,RJ];exact hf⟩
   by_cases e4:k=4
   ·subst e4
    go_enter Tryz.func54,Tryz.ntmps54
    go_wp2_with fail
    go_ret
    exact⟨A5,_,rfl,by simp [Ak,RJ];exact hs⟩
   have q1:(k==1)=false:=by simpa using e1
   have q2:(k==2)=false:=by simpa using e2
   have q3:(k==3)=false:=by simpa using e3
   have q4:(k==4)=false:=by simpa using e4
   have HE2:=Lib.hid (And.intro e1 (And.intro e2 (And.intro e3 e4)))
   clear e1 e2 e3 e4
   go_enter Tryz.func54,Tryz.ntmps54
   go_wp2_with fail
   go_ret
   obtain⟨e5,e6⟩:=HE.out
   obtain⟨e1,e2,e3,e4⟩:=HE2.out
   exact⟨A5,_,rfl,by simp [Ak,RJ,e1,e2,e3,e4,e5,e6]⟩
theorem plain_c:∀(z:Nat) (v:GV),v.sz≤z→CPlain v
 |0,v,h=>by have:=v.sz_eq;omega
 |z+1,v,h=>by
  have hc:∀j (hj:j<v.l.length),CPlain v.l[j]:=fun j hj=>plain_c z _ (by have:=v.sz_eq;have:=D0 hj;omega)
  exact plain_of v hc (plainMap_of v hc)
theorem plainMap_c (v:GV):CPlainMap v:=plainMap_of v fun j hj=>plain_c _ _ (Nat.le_refl _)
end
section
open Go.RowKit
def RetQA (H:Hp)(w:World)(a:Ap):Ending→World→Prop:=fun e w'=>Bw w w'∧∃x1 x2 x3,e= .returned (.agg #[.pointer x1, .pointer x2, .pointer x3])∧AI Ak (A6 H w w') a x1 x2 x3
def RetQR (H:Hp)(w:World)(r:As):Ending→World→Prop:=fun e w'=>Bw w w'∧∃y,e= .returned (F9 y)∧BM Ak (A6 H w w') r y
def CToAtom (a:Ap):Prop:=∀(H:Hp) (x1 x2:Value) (w:World),Imm H w→BQ H a x1 x2→Calls Tryz.prog 52 #[aggA a x1 x2] w (RetQA H w a)
def CToRef (r:As):Prop:=∀(H:Hp) (x1 x2:Value) (w:World),Imm H w→Cy H r x1 x2→Calls Tryz.prog 30 #[E8 r x1 x2] w (RetQR H w r)
theorem Bk.nil {H:Hp}{s:ByteArray}(h:s.toList.isEmpty=true):Bk H s none:=by unfold Bk;rw [if_pos h]
theorem Bk.ptr {H:Hp}{s:ByteArray}{b:Nat}(h:s.toList.isEmpty=false)(hc:A8 H b 0=some (.string s))(hs:s.size≤lim):Bk H s (some ⟨b,0,none⟩):=by
 unfold Bk;rw [if_neg (by rw [h];decide)];exact⟨b,rfl,hc,hs⟩
theorem toRef_named (name:ByteArray)(atom:Ap)(rel:ByteArray):CToRef ⟨true,name,atom,rel⟩:=by
 intro H x1 x2 w hi hr
 obtain⟨hn,hrel,ha⟩:=BP.1 hr
 simp only at hn hrel ha
 have HN:=Lib.hid (And.intro hn hrel)
 clear hn hrel ha hr
 cases hre:rel.toList.isEmpty
 ·have hre2:(!rel.toList.isEmpty)=true:=by rw [hre];rfl
  have hre3:¬rel.toList=[]:=by simpa using hre
  go_enter Tryz.func30,Tryz.ntmps30
  go_wp2_with fail
  refine bodyPost_ret (v:=F9 ⟨some ⟨w.heap.size+1+1+1,0,none⟩,none,none,none,some ⟨w.heap.size+1+1+1+1,0,none⟩⟩) (by simp [results,Tryz.results30,go_sem]) rfl ?_
  refine⟨by repeat with_reducible (first|exact Bw.rfl|refine Bw.al ?_ _|refine Bw.set ?_ (by omega) _ _),_,rfl,EB.2 ⟨.inl ⟨rfl,⟨_,rfl, ?_,HN.out.1⟩,rfl,rfl,rfl⟩,Bk.ptr hre ?_ HN.out.2⟩⟩
  ·rw [Bh (by omega)];simp [go_sem]
  ·rw [Bh (by omega)];simp [go_sem]
 ·have hre2:(!rel.toList.isEmpty)=false:=by rw [hre];rfl
  have hre3:rel.toList=[]:=by simpa using hre
  go_enter Tryz.func30,Tryz.ntmps30
  go_wp2_with fail
  refine bodyPost_ret (v:=F9 ⟨some ⟨w.heap.size+1+1+1,0,none⟩,none,none,none,none⟩) (by simp [results,Tryz.results30,go_sem]) rfl ?_
  refine⟨by repeat with_reducible (first|exact Bw.rfl|refine Bw.al ?_ _|refine Bw.set ?_ (by omega) _ _),_,rfl,EB.2 ⟨.inl ⟨rfl,⟨_,rfl, ?_,HN.out.1⟩,rfl,rfl,rfl⟩,Bk.nil hre⟩⟩
  rw [Bh (by omega)];simp [go_sem]
theorem toRef_inline (name:ByteArray)(atom:Ap)(rel:ByteArray)(hc:CToAtom atom):CToRef ⟨false,name,atom,rel⟩:=by
 intro H x1 x2 w hi hr
 obtain⟨hn,hrel,ha⟩:=BP.1 hr
 simp only at hn hrel ha
 have HN:=Lib.hid (And.intro hn hrel)
 have HC:=Lib.hid (hc H x1 x2 · · ha)
 clear hn hrel ha hr hc
 cases hre:rel.toList.isEmpty
 all_goals
  first
   |have hre2:(!rel.toList.isEmpty)=true:=by rw [hre];rfl
   |have hre2:(!rel.toList.isEmpty)=false:=by rw [hre];rfl
  go_enter Tryz.func30,Tryz.ntmps30
  go_wp2_with fail
  refine(HC.out _ (hi.below Co)).mono ?_
  rintro e w1 ⟨hb1,z1,z2,z3,rfl,hx⟩
  have HX:=Lib.hid hx
  obtain⟨q0,f0⟩:=A1 (A2 hb1 b3_0)
  obtain⟨q1,f1⟩:=A1 (A2 hb1 b3_1)
  obtain⟨q2,f2⟩:=A1 (A2 hb1 ET)
  have HQ:=Lib.hid (And.intro (A2 hb1 b3_0) (And.intro (A2 hb1 b3_1) (A2 hb1 ET)))
  have hsz:=A0 (A2 hb1 ET)
  have HB:=Lib.hid (Co.tr hb1)
  clear hx HC hb1
  go_upto_region 6 with(fail)
  obtain⟨wy,hwy⟩:∃wy,wy=((w1.setCell ⟨w.heap.size+1+1,1,none⟩ (.pointer z1)).setCell ⟨w.heap.size+1+1,2,none⟩ (.pointer z2)).setCell ⟨w.heap.size+1+1,3,none⟩ (.pointer z3):=⟨_,rfl⟩
  rw [←hwy]
  have HY:Hid (wy.heap[w.heap.size]?=w1.heap[w.heap.size]?∧wy.heap[w.heap.size+1]?=w1.heap[w.heap.size+1]?∧wy.heap[w.heap.size+1+1]?=some (.cells #[.pointer none, .pointer z1, .pointer z2, .pointer z3, .pointer none, .bool false] 83)∧Bw w wy∧wy.heap.size=w1.heap.size∧∀k,k≠w.heap.size+1+1→wy.heap[k]?=w1.heap[k]?):=by
   subst hwy
   refine⟨by simp only [Ag _ _ _ _ _ (show ¬w.heap.size=w.heap.size+1+1 by omega)],by simp only [Ag _ _ _ _ _ (show ¬w.heap.size+1=w.heap.size+1+1 by omega)], ?_, ?_,by simp,fun k hk=>by simp only [Ag _ _ _ _ _ hk]⟩
   ·simpa using Ae (Ae (Ae HQ.out.2.2 1 (.pointer z1)) 2 (.pointer z2)) 3 (.pointer z3)
   ·exact Bw.set (Bw.set (Bw.set HB.out (by omega) _ _) (by omega) _ _) (by omega) _ _
  clear q0 f0 q1 f1 q2 f2 hwy
  obtain⟨q0,f0⟩:=A1 (HY.out.1.trans HQ.out.1)
  obtain⟨q1,f1⟩:=A1 (HY.out.2.1.trans HQ.out.2.1)
  obtain⟨q2,f2⟩:=A1 HY.out.2.2.1
  have hsz2:w.heap.size+1+1<wy.heap.size:=by rw [HY.out.2.2.2.2.1];exact hsz
  go_upto_region 9 with(fail)
  first
   |obtain⟨wv,hwv⟩:∃wv,wv=(wy.setCell ⟨w.heap.size+1+1,4,none⟩ (.pointer (some ⟨wy.heap.size,0,none⟩))).alloc (.cells #[.string rel] 122):=⟨_,rfl⟩
    rw [←hwv]
    have HV:Hid (∃p,wv.heap[w.heap.size+1+1]?=some (.cells #[.pointer none, .pointer z1, .pointer z2, .pointer z3, .pointer p, .bool false] 83)∧Bk (A6 H w1 wv) rel p∧wv.heap[w.heap.size+1]?=wy.heap[w.heap.size+1]?∧Bw w wv∧wy.heap.size≤wv.heap.size∧∀k,k≠w.heap.size+1+1→k<wy.heap.size→wv.heap[k]?=wy.heap[k]?):=by
     have hne:∀k,k≠w.heap.size+1+1→k<wy.heap.size→wv.heap[k]?=wy.heap[k]?:=by
      intro k hk hl
      rw [hwv,Ad,if_neg (by simp;omega),Ag _ _ _ _ _ hk]
     refine⟨some ⟨wy.heap.size,0,none⟩, ?_,Bk.ptr hre ?_ HN.out.2,hne _ (by omega) (by omega), ?_,by rw [hwv];simp,hne⟩
     ·rw [hwv,Ad,if_neg (by simp;omega)]
      simpa using Ae HY.out.2.2.1 4 (.pointer (some ⟨wy.heap.size,0,none⟩))
     ·rw [Bh (by rw [HY.out.2.2.2.2.1];exact Nat.le_refl _),hwv,(A1 (t:=122) (cs:= #[.string rel]) (by rw [Ad,if_pos (by simp)])).1];rfl
     ·rw [hwv];exact(Bw.set HY.out.2.2.2.1 (by omega) _ _).al _
   |obtain⟨wv,hwv⟩:∃wv,wv=wy:=⟨_,rfl⟩
    have HV:Hid (∃p,wv.heap[w.heap.size+1+1]?=some (.cells #[.pointer none, .pointer z1, .pointer z2, .pointer z3, .pointer p, .bool false] 83)∧Bk (A6 H w1 wv) rel p∧wv.heap[w.heap.size+1]?=wy.heap[w.heap.size+1]?∧Bw w wv∧wy.heap.size≤wv.heap.size∧∀k,k≠w.heap.size+1+1→k<wy.heap.size→wv.heap[k]?=wy.heap[k]?):=by
     subst hwv
     exact⟨none,HY.out.2.2.1,Bk.nil hre,rfl,HY.out.2.2.2.1,Nat.le_refl _,fun _ _ _=>rfl⟩
    rw [←hwv]
  obtain⟨p,hp⟩:=HV.out
  have HP:=Lib.hid hp
  clear hp HV q0 f0 q1 f1 q2 f2 hwv
  obtain⟨q1,f1⟩:=A1 (HP.out.2.2.1.trans (HY.out.2.1.trans HQ.out.2.1))
  obtain⟨q2,f2⟩:=A1 HP.out.1
  have hsz3:w.heap.size+1+1<wv.heap.size:=by have:=HP.out.2.2.2.2.1;omega
  go_wp2_with fail
  refine bodyPost_ret (v:=F9 ⟨none,z1,z2,z3,p⟩) (by simp [results,Tryz.results30,go_sem,q1]) rfl ?_
  refine⟨by repeat with_reducible (first|exact HP.out.2.2.2.1|refine Bw.set ?_ (by omega) _ _),_,rfl,EB.2 ⟨.inr ⟨rfl,rfl, ?_⟩, ?_⟩⟩
  ·refine HX.out.mono (Ba hi (by simp;omega) ?_)
   intro k o hk e
   simp at hk
   repeat rw [Ag _ _ _ _ _ (show ¬k=w.heap.size+1 by omega)]
   have h1:=HY.out.2.2.2.2.2 k (by omega)
   have h2:=A0 e
   rw [HP.out.2.2.2.2.2 k (by omega) (by rw [HY.out.2.2.2.2.1];exact h2),h1];exact e
  ·refine HP.out.2.1.mono (Ba hi (by omega) ?_)
   intro k o hk e
   repeat rw [Ag _ _ _ _ _ (show ¬k=w.heap.size+1 by omega)]
   exact e
theorem toRef_of (r:As)(h:CToAtom r.atom):CToRef r:=by
 rcases r with⟨named,name,atom,rel⟩
 cases named
 ·exact toRef_inline name atom rel h
 ·exact toRef_named name atom rel
end
section
open Go.RowKit
def RetQL (H:Hp)(w:World)(t:B3):Ending→World→Prop:=fun e w'=>Bw w w'∧∃y a c,e= .returned (.agg #[.pointer y.y0, .pointer y.y1, .pointer y.y2, .pointer y.y3, .pointer y.y4, .bool false, .string t.rel, .slice a t.keys.length c])∧
 BM Ak (A6 H w w') t.elem y∧Cv (A6 H w w') t.keys (.slice a t.keys.length c)∧t.rel.size≤lim
def CToList (t:B3):Prop:=∀(H:Hp) (x1 x2 xk:Value) (w:World),Imm H w→D4 H t x1 x2 xk→Calls Tryz.prog 84 #[aggL t x1 x2 xk] w (RetQL H w t)
theorem info_str:(Tryz.prog.info? 9).map (fun i=>(i.zero,i.size,i.bytes))=some (some (.string {data:= #[]}),1,16):=by kernel_rfl
theorem und_strs:Tryz.prog.underlying 32=some (.slice 9):=by kernel_rfl
theorem grown_bw {a b:World}(h:a.grownBy b none):Bw a b:=⟨h.os,h.tape,h.output,h.size,fun k hk=>h.block k hk (by simp)⟩
theorem keep8 {w w1:World}{b:Nat}{u0 u1 u2 u3 u4 u5 u6 u7:Value}(hb:Bw w w1)
  (h:w.cell? ⟨b,0,none⟩=some u0∧w.cell? ⟨b,1,none⟩=some u1∧w.cell? ⟨b,2,none⟩=some u2∧w.cell? ⟨b,3,none⟩=some u3∧w.cell? ⟨b,4,none⟩=some u4∧w.cell? ⟨b,5,none⟩=some u5∧w.cell? ⟨b,6,none⟩=some u6∧w.cell? ⟨b,7,none⟩=some u7):
  w1.cell? ⟨b,0,none⟩=some u0∧w1.cell? ⟨b,1,none⟩=some u1∧w1.cell? ⟨b,2,none⟩=some u2∧w1.cell? ⟨b,3,none⟩=some u3∧w1.cell? ⟨b,4,none⟩=some u4∧w1.cell? ⟨b,5,none⟩=some u5∧w1.cell? ⟨b,6,none⟩=some u6∧w1.cell? ⟨b,7,none⟩=some u7:=by
 have hl:b<w.heap.size:=Ah h.1
 obtain⟨hc,_⟩:=bcell hb
 simp only [hc b _ hl];exact h
theorem toList_of (t:B3)(hc:CToRef t.elem):CToList t:=by
 intro H x1 x2 xk w hi hr
 obtain⟨hrel,hkeys,hel⟩:=C8.1 hr
 obtain⟨a1,c1,a2,c2,rfl,rfl⟩:=hel.open
 have HK:=Lib.hid hkeys
 obtain⟨ak,ck,rfl,hnk,hlk,hck,hatk⟩:=hkeys
 rcases t with⟨⟨named,name,⟨sc,li,ma⟩,erel⟩,rel,keys⟩
 simp only at *
 have HC:=Lib.hid (hc H (.slice a1 li.length c1) (.slice a2 ma.length c2) · · hel)
 have HREL:=Lib.hid hrel
 clear hc hel hr hrel
 unfold lim at hlk
 unfold E8 at HC
 simp only at HC
 go_enter Tryz.func84,Tryz.ntmps84
 go_wp2_with fail
 obtain⟨wa,hwa⟩:∃wa,wa=(w.alloc (.cells #[.bool named, .string name, .string sc, .slice a1 li.length c1, .slice a2 ma.length c2, .string erel, .string rel, .slice ak keys.length ck] 67)).alloc (.cells #[.pointer none, .pointer none, .pointer none, .pointer none, .pointer none, .bool false, .string {data:= #[]}, .slice none 0 0] 177):=⟨_,rfl⟩
 have HA:Hid (wa.heap[w.heap.size]?=some (.cells #[.bool named, .string name, .string sc, .slice a1 li.length c1, .slice a2 ma.length c2, .string erel, .string rel, .slice ak keys.length ck] 67)∧
   wa.heap[w.heap.size+1]?=some (.cells #[.pointer none, .pointer none, .pointer none, .pointer none, .pointer none, .bool false, .string {data:= #[]}, .slice none 0 0] 177)∧Bw w wa∧wa.heap.size=w.heap.size+2):=by
  subst hwa;exact⟨Cs,BF,Am,by simp⟩
 rw [←hwa]
 clear hwa
 have S0:wa.cell? ⟨w.heap.size,0,none⟩=some (.bool named)∧wa.cell? ⟨w.heap.size,1,none⟩=some (.string name)∧wa.cell? ⟨w.heap.size,2,none⟩=some (.string sc)∧wa.cell? ⟨w.heap.size,3,none⟩=some (.slice a1 li.length c1)∧wa.cell? ⟨w.heap.size,4,none⟩=some (.slice a2 ma.length c2)∧wa.cell? ⟨w.heap.size,5,none⟩=some (.string erel)∧wa.cell? ⟨w.heap.size,6,none⟩=some (.string rel)∧wa.cell? ⟨w.heap.size,7,none⟩=some (.slice ak keys.length ck):=by
  obtain⟨q,_⟩:=A1 HA.out.1
  exact⟨q 0,q 1,q 2,q 3,q 4,q 5,q 6,q 7⟩
 obtain⟨i9,hi9,hz9,hs9,hb9⟩:=info_parts info_str
 have HI9:=Lib.hid (And.intro hi9 (And.intro hz9 (And.intro hs9 hb9)))
 clear hi9 hz9 hs9 hb9
 obtain⟨wd,hwd⟩:∃wd,wd=wa.drew:=⟨_,rfl⟩
 have S1:wd.cell? ⟨w.heap.size,0,none⟩=some (.bool named)∧wd.cell? ⟨w.heap.size,1,none⟩=some (.string name)∧wd.cell? ⟨w.heap.size,2,none⟩=some (.string sc)∧wd.cell? ⟨w.heap.size,3,none⟩=some (.slice a1 li.length c1)∧wd.cell? ⟨w.heap.size,4,none⟩=some (.slice a2 ma.length c2)∧wd.cell? ⟨w.heap.size,5,none⟩=some (.string erel)∧wd.cell? ⟨w.heap.size,6,none⟩=some (.string rel)∧wd.cell? ⟨w.heap.size,7,none⟩=some (.slice ak keys.length ck):=by rw [hwd];exact S0
 have HD:Hid (Bw w wd∧wd.heap.size=w.heap.size+2∧wd.heap[w.heap.size+1]?=some (.cells #[.pointer none, .pointer none, .pointer none, .pointer none, .pointer none, .bool false, .string {data:= #[]}, .slice none 0 0] 177)):=by rw [hwd];exact⟨HA.out.2.2.1.dr,HA.out.2.2.2,HA.out.2.1⟩
 have HWD:=Lib.hid hwd.symm
 clear hwd
 go_region_held3 (fun w'=>w'.cell? ⟨w.heap.size,0,none⟩=some (.bool named)∧w'.cell? ⟨w.heap.size,1,none⟩=some (.string name)∧w'.cell? ⟨w.heap.size,2,none⟩=some (.string sc)∧w'.cell? ⟨w.heap.size,3,none⟩=some (.slice a1 li.length c1)∧w'.cell? ⟨w.heap.size,4,none⟩=some (.slice a2 ma.length c2)∧w'.cell? ⟨w.heap.size,5,none⟩=some (.string erel)∧w'.cell? ⟨w.heap.size,6,none⟩=some (.string rel)∧w'.cell? ⟨w.heap.size,7,none⟩=some (.slice ak keys.length ck))
  (first|go_keep|(refine keep8 (by assumption) ?_;assumption))
  (first
   |(go_at_call 30;(try rw [HWD.out]);refine(HC.out _ (hi.below (by first|exact HD.out.1|exact HD.out.1.tr (by assumption)))).mono ?_;rintro e w1 ⟨hb1,y,rfl,hy⟩;obtain⟨qr,fr⟩:=A1 (by first|exact A2 hb1 HD.out.2.2|exact A2 hb1 (A2 hbg HD.out.2.2)))
   |((try rw [HWD.out]);refine step_append_any _ (by rfl) _ _ 32 (by rfl) (w.heap.size+2) 9 i9 (.string {data:= #[]}) 1 16 und_strs HI9.out.1 HI9.out.2.1 HI9.out.2.2.1 HI9.out.2.2.2 (by rfl) (by decide) (.slice none 0 0) 0 [] (by rfl) (World.ownsRow_nil _ _ _ _) ak keys.length ck ((keys.take keys.length).map Value.string) (by rfl) (by simp) (src_strs (hi.below (by first|exact HD.out.1|exact HD.out.1.tr (by assumption))) hnk hatk (Nat.le_refl _)) (Ed _) (by unfold maxLen;omega) (by omega) (by first|(have:=HD.out.2.1;omega)|(have:=HD.out.2.1;have:=hb1.size;omega)) ?_;intro v' w2 ho hg hwh;have hbg:=grown_bw hg;obtain⟨ao,co,rfl⟩:=Aj ho;obtain⟨qr,fr⟩:=A1 (by first|exact A2 hbg HD.out.2.2|exact A2 hbg (A2 hb1 HD.out.2.2))))
 all_goals
  go_wp2_with fail
  refine bodyPost_ret (v:= .agg #[.pointer y.y0, .pointer y.y1, .pointer y.y2, .pointer y.y3, .pointer y.y4, .bool false, .string rel, .slice ao keys.length co]) (by simp [results,Tryz.results84,go_sem,qr]) rfl ?_
  clear qr fr
  have hz:=HD.out.2.1
  have hos:∀g,(Value.slice ao keys.length co).ownBlock=some g→w.heap.size+2≤g∧g<w2.heap.size:=fun g hg=>ho.lt g (by simpa using hg)
  first
   |(have hlast:Bw w1 w2:=hbg
     refine⟨by repeat with_reducible (first|exact HD.out.1.tr (hb1.tr hbg)|refine Bw.set ?_ (by omega) _ _),y,ao,co,rfl, ?_, ?_,HREL.out⟩
     ·refine hy.mono (Ba hi (by omega) fun k o hk e=> ?_)
      repeat rw [Ag _ _ _ _ _ (show ¬k=w.heap.size+1 by omega)]
      exact A2 hbg e
     ·refine Cn (w:=w2) (base:=w.heap.size+2) (by simpa using ho) ?_ (by unfold lim;omega) (strs_lim hatk)
      intro g hg
      have:=hos g hg
      unfold A6;rw [if_neg (by omega)]
      repeat rw [Ag _ _ _ _ _ (show ¬g=w.heap.size+1 by omega)])
   |(have hlast:Bw w2 w1:=hb1
     refine⟨by repeat with_reducible (first|exact HD.out.1.tr (hbg.tr hb1)|refine Bw.set ?_ (by omega) _ _),y,ao,co,rfl, ?_, ?_,HREL.out⟩
     ·refine hy.mono (Ba hi (by have:=hbg.size;omega) fun k o hk e=> ?_)
      have:=hbg.size
      repeat rw [Ag _ _ _ _ _ (show ¬k=w.heap.size+1 by omega)]
      exact e
     ·refine Cn (w:=w2) (base:=w.heap.size+2) (by simpa using ho) ?_ (by unfold lim;omega) (strs_lim hatk)
      intro g hg
      have:=hos g hg
      unfold A6;rw [if_neg (by omega)]
      repeat rw [Ag _ _ _ _ _ (show ¬g=w.heap.size+1 by omega)]
      exact hb1.block g this.2)
end
section
open Go.RowKit
theorem keep8a {w1:World}{o o':Obj}{b:Nat}{u0 u1 u2 u3 u4 u5 u6 u7:Value}(hb:¬b=w1.heap.size)
  (h:(w1.alloc o).cell? ⟨b,0,none⟩=some u0∧(w1.alloc o).cell? ⟨b,1,none⟩=some u1∧(w1.alloc o).cell? ⟨b,2,none⟩=some u2∧(w1.alloc o).cell? ⟨b,3,none⟩=some u3∧(w1.alloc o).cell? ⟨b,4,none⟩=some u4∧(w1.alloc o).cell? ⟨b,5,none⟩=some u5∧(w1.alloc o).cell? ⟨b,6,none⟩=some u6∧(w1.alloc o).cell? ⟨b,7,none⟩=some u7):
  (w1.alloc o').cell? ⟨b,0,none⟩=some u0∧(w1.alloc o').cell? ⟨b,1,none⟩=some u1∧(w1.alloc o').cell? ⟨b,2,none⟩=some u2∧(w1.alloc o').cell? ⟨b,3,none⟩=some u3∧(w1.alloc o').cell? ⟨b,4,none⟩=some u4∧(w1.alloc o').cell? ⟨b,5,none⟩=some u5∧(w1.alloc o').cell? ⟨b,6,none⟩=some u6∧(w1.alloc o').cell? ⟨b,7,none⟩=some u7:=by
 have e:∀i,(w1.alloc o').cell? ⟨b,i,none⟩=(w1.alloc o).cell? ⟨b,i,none⟩:=fun i=>by simp only [World.cell?,Ad,if_neg hb]
 simp only [e];exact h
def dnull:List GV→Bool
 |[]=>true
 |d::_=>(Ak d).isNull
def DForm (l:List GV)(xd:Value):Prop:=(dnull l=true→xd= .nilIface)∧(dnull l=false→∃T v,xd= .iface T v)
theorem RJ.nil_null {H:Hp}{t:JT}(h:RJ H t .nilIface):t.isNull=true:=by
 cases t<;>simp only [RJ]at h
 case null=>rfl
 case bool=>cases h
 case list=>obtain⟨a,c,h,_⟩:=h;cases h
 case map=>obtain⟨r,es,ck,h,_⟩:=h;cases h
 all_goals cases h.1
theorem RJ.iface_some {H:Hp}{t:JT}{T:TypeId}{v:Value}(h:RJ H t (.iface T v)):t.isNull=false:=by
 cases t<;>simp only [RJ]at h<;>first|rfl|(cases h;done)
def RetQF (H:Hp)(w:World)(t:Au):Ending→World→Prop:=fun e w'=>Bw w w'∧∃y xd,e= .returned (.agg #[.string t.name, .pointer y.y0, .pointer y.y1, .pointer y.y2, .pointer y.y3, .pointer y.y4, .bool false,xd])∧DForm t.dflt xd∧E' Ak (A6 H w w') t y xd
def CToField (t:Au):Prop:=∀(H:Hp) (x1 x2 xd:Value) (w:World),Imm H w→Cz H t x1 x2 xd→Calls Tryz.prog 111 #[aggF t x1 x2 xd] w (RetQF H w t)
def FldCut (H:Hp)(w wd wx:World)(type:As)(name:ByteArray)(box:Obj)(b:Nat):Prop:=∃y:Six,wx.heap[b]?=some (.cells #[.string name, .pointer y.y0, .pointer y.y1, .pointer y.y2, .pointer y.y3, .pointer y.y4, .bool false, .nilIface] 241)∧w.heap.size+2≤b∧
 wd.heap.size=w.heap.size+2∧BM Ak (AX H wd wx (some b)) type y∧Bw w wx∧wx.heap[w.heap.size]?=some box∧wx.heap[w.heap.size+1]?=some (.cells #[.string {data:= #[]}, .pointer none, .pointer none, .pointer none, .pointer none, .pointer none, .bool false, .nilIface] 241)
theorem toField_of (t:Au)(hc:CToRef t.type):CToField t:=by
 intro H x1 x2 xd w hi hr
 obtain⟨hname,hel,hd⟩:=C3.1 hr
 obtain⟨a1,c1,a2,c2,rfl,rfl⟩:=hel.open
 obtain⟨ad,cd,rfl,hnd,hld,hcd,hatd⟩:=hd
 rcases t with⟨name,⟨named,nm,⟨sc,li,ma⟩,erel⟩,dflt⟩
 simp only at *
 have HC:=Lib.hid (hc H (.slice a1 li.length c1) (.slice a2 ma.length c2) · · hel)
 have HNAME:=Lib.hid hname
 clear hc hel hr hname
 unfold lim at hld
 unfold E8 at HC
 simp only at HC
 go_enter Tryz.func111,Tryz.ntmps111
 go_wp2_with fail
 obtain⟨wa,hwa⟩:∃wa,wa=((w.alloc (.cells #[.string name, .bool named, .string nm, .string sc, .slice a1 li.length c1, .slice a2 ma.length c2, .string erel, .slice ad dflt.length cd] 45)).alloc (.cells #[.string {data:= #[]}, .pointer none, .pointer none, .pointer none, .pointer none, .pointer none, .bool false, .nilIface] 241)):=⟨_,rfl⟩
 obtain⟨wd,hwd⟩:∃wd,wd=wa.drew:=⟨_,rfl⟩
 have HD:Hid (wd.heap[w.heap.size]?=some (.cells #[.string name, .bool named, .string nm, .string sc, .slice a1 li.length c1, .slice a2 ma.length c2, .string erel, .slice ad dflt.length cd] 45)∧
   wd.heap[w.heap.size+1]?=some (.cells #[.string {data:= #[]}, .pointer none, .pointer none, .pointer none, .pointer none, .pointer none, .bool false, .nilIface] 241)∧Bw w wd∧wd.heap.size=w.heap.size+2):=by
  subst hwd;subst hwa;exact⟨Cs,BF,Am.dr,by simp⟩
 have HA:Hid (Bw w wa∧wa.heap.size=w.heap.size+2):=by subst hwa;exact⟨Am,by simp⟩
 rw [←hwa]
 clear hwa
 have S1:wd.cell? ⟨w.heap.size,0,none⟩=some (.string name)∧wd.cell? ⟨w.heap.size,1,none⟩=some (.bool named)∧wd.cell? ⟨w.heap.size,2,none⟩=some (.string nm)∧wd.cell? ⟨w.heap.size,3,none⟩=some (.string sc)∧wd.cell? ⟨w.heap.size,4,none⟩=some (.slice a1 li.length c1)∧wd.cell? ⟨w.heap.size,5,none⟩=some (.slice a2 ma.length c2)∧wd.cell? ⟨w.heap.size,6,none⟩=some (.string erel)∧wd.cell? ⟨w.heap.size,7,none⟩=some (.slice ad dflt.length cd):=by
  obtain⟨q,_⟩:=A1 HD.out.1
  exact⟨q 0,q 1,q 2,q 3,q 4,q 5,q 6,q 7⟩
 have S0:wa.cell? ⟨w.heap.size,0,none⟩=some (.string name)∧wa.cell? ⟨w.heap.size,1,none⟩=some (.bool named)∧wa.cell? ⟨w.heap.size,2,none⟩=some (.string nm)∧wa.cell? ⟨w.heap.size,3,none⟩=some (.string sc)∧wa.cell? ⟨w.heap.size,4,none⟩=some (.slice a1 li.length c1)∧wa.cell? ⟨w.heap.size,5,none⟩=some (.slice a2 ma.length c2)∧wa.cell? ⟨w.heap.size,6,none⟩=some (.string erel)∧wa.cell? ⟨w.heap.size,7,none⟩=some (.slice ad dflt.length cd):=by
  obtain⟨q,_⟩:=A1 HD.out.1
  rw [hwd]at q
  exact⟨q 0,q 1,q 2,q 3,q 4,q 5,q 6,q 7⟩
 have HWD:=Lib.hid hwd.symm
 clear hwd
 go_upto_region 2 with(fail)
 go_cut [3] (fun s3 wx=>∃b:Nat,s3= .pointer (some ⟨b,0,none⟩)∧FldCut H w wd wx ⟨named,nm,⟨sc,li,ma⟩,erel⟩ name (.cells #[.string name, .bool named, .string nm, .string sc, .slice a1 li.length c1, .slice a2 ma.length c2, .string erel, .slice ad dflt.length cd] 45) b)
 case first=>
  have hn3:¬wd.heap.size=w.heap.size:=by have:=HD.out.2.2.2;omega
  have hn4:¬w.heap.size=wd.heap.size:=fun e=>hn3 e.symm
  have hn5:¬wa.heap.size=w.heap.size:=by rw [show wa.heap.size=wd.heap.size by rw [←HWD.out];rfl];exact hn3
  have hn6:¬w.heap.size=wa.heap.size:=fun e=>hn5 e.symm
  go_region_held3 (fun w'=>w'.cell? ⟨w.heap.size,0,none⟩=some (.string name)∧w'.cell? ⟨w.heap.size,1,none⟩=some (.bool named)∧w'.cell? ⟨w.heap.size,2,none⟩=some (.string nm)∧w'.cell? ⟨w.heap.size,3,none⟩=some (.string sc)∧w'.cell? ⟨w.heap.size,4,none⟩=some (.slice a1 li.length c1)∧w'.cell? ⟨w.heap.size,5,none⟩=some (.slice a2 ma.length c2)∧w'.cell? ⟨w.heap.size,6,none⟩=some (.string erel)∧w'.cell? ⟨w.heap.size,7,none⟩=some (.slice ad dflt.length cd))
   (first|go_keep|(refine keep8 (by first|assumption|exact A5) ?_;assumption)|(refine keep8a (by assumption) (o:= .cells #[.string {data:= #[]}, .pointer none, .pointer none, .pointer none, .pointer none, .pointer none, .bool false, .nilIface] 241) ?_;assumption))
   ((go_at_call 30;(try rw [HWD.out]);refine(HC.out _ (hi.below (by first|exact HD.out.2.2.1|exact(HA.out.1.al _).dr))).mono ?_;rintro e w1 ⟨hb1,y,rfl,hy⟩;have hn1:¬w1.heap.size=w.heap.size:=(by have:=HD.out.2.2.2;have:=HA.out.2;first|(have:=hb1.size;omega)|(have:wa.heap.size+1≤w1.heap.size:=(by simpa using hb1.size);omega));have hn2:¬w.heap.size=w1.heap.size:=fun e=>hn1 e.symm;try obtain⟨qn,fn⟩:=A1 (A2 hb1 (show((wa.alloc _).drew).heap[wa.heap.size]?=some _ from A4))))
  ·go_wp2_with fail
   go_meet
   have hz:=HD.out.2.2.2
   refine⟨_,rfl,y,A4,by have:=hb1.size;omega,hz,hy.mono (B7 (hi.below HD.out.2.2.1) (Nat.le_refl _) fun k o hk e=>⟨fun h=> ?_,A3 e⟩),(HD.out.2.2.1.tr hb1).al _,A3 (A2 hb1 HD.out.1),A3 (A2 hb1 HD.out.2.1)⟩
   cases h
   exact Nat.lt_irrefl _ (A0 e)
  ·go_wp2_with fail
   go_meet
   have hz:=HA.out.2
   have hbx:w1.heap[wa.heap.size]?=some _:=A2 hb1 (show((wa.alloc _).drew).heap[wa.heap.size]?=some _ from A4)
   have hwb:wa.heap=wd.heap:=by rw [←HWD.out];rfl
   have hwa1:Bw wa w1:=(Bw.rfl.al _).dr.tr hb1
   refine⟨_,rfl,y, ?_,by omega,HD.out.2.2.2,hy.mono (B7 (hi.below HD.out.2.2.1) (by have:=HD.out.2.2.2;simp;omega) fun k o hk e=>⟨fun h=> ?_, ?_⟩), ?_, ?_, ?_⟩
   ·have:=Ae (Ae (Ae (Ae (Ae (Ae (Ae (Ae hbx 0 (.string name)) 1 (.pointer y.y0)) 2 (.pointer y.y1)) 3 (.pointer y.y2)) 4 (.pointer y.y3)) 5 (.pointer y.y4)) 6 (.bool false)) 7 .nilIface
    simpa using this
   ·cases h
    have:wa.heap.size+1≤wa.heap.size:=by simpa using hk
    omega
   ·simp at hk
    repeat rw [Ag _ _ _ _ _ (show ¬k=wa.heap.size by omega)]
    exact e
   ·repeat with_reducible (first|exact HA.out.1.tr hwa1|refine Bw.set ?_ (by omega) _ _)
   ·repeat rw [Ag _ _ _ _ _ (show ¬w.heap.size=wa.heap.size by omega)]
    exact A2 hwa1 (by rw [hwb];exact HD.out.1)
   ·repeat rw [Ag _ _ _ _ _ (show ¬w.heap.size+1=wa.heap.size by omega)]
    exact A2 hwa1 (by rw [hwb];exact HD.out.2.1)
 case rest=>
  obtain⟨b,rfl,y,hb,hbl,hwds,hq,hbw,hx0,hx1⟩:=hcut
  obtain⟨q0,f0⟩:=A1 hx0
  obtain⟨q1,f1⟩:=A1 hx1
  obtain⟨q2,f2⟩:=A1 hb
  have hlb:=A0 hb
  have n1:¬b=w.heap.size:=by omega
  have n2:¬b=w.heap.size+1:=by omega
  have n3:¬w.heap.size=b:=by omega
  have n4:¬w.heap.size+1=b:=by omega
  have HX:=Lib.hid (And.intro hb (And.intro hx0 (And.intro hx1 (And.intro hwds hq))))
  clear hb hx0 hx1 hq hwds HC HWD HD HA S0 S1
  rcases dflt with _|⟨d,r⟩
  ·go_wp2_with fail
   refine bodyPost_ret (v:= .agg #[.string name, .pointer y.y0, .pointer y.y1, .pointer y.y2, .pointer y.y3, .pointer y.y4, .bool false, .nilIface]) (by simp [results,Tryz.results111,go_sem,q1]) rfl ?_
   refine⟨by repeat with_reducible (first|exact hbw|refine Bw.set ?_ (by omega) _ _),y, .nilIface,rfl,⟨fun _=>rfl,fun h=>by cases h⟩,HNAME.out,HX.out.2.2.2.2.mono (Bc hi (by have:=HX.out.2.2.2.1;omega) fun k o hk e hne=> ?_),rfl⟩
   have hkk:¬k=w.heap.size+1:=by have:=HX.out.2.2.2.1;omega
   repeat rw [Ag _ _ _ _ _ hkk]
   exact e
  ·obtain⟨b',o',d4,e4,d5,e5,rfl,hv',i0,i1,i2,i3,i4,i5⟩:=hatd.look0 (hi.below hbw)
   go_wp2_with fail
   refine(plain_c _ d (Nat.le_refl _) H _ _ _ (hi.below hbw) hv').mono ?_
   rintro e w1 ⟨hb1,x,rfl,hx⟩
   have hany:=hx.isAny
   have HJ:=Lib.hid (And.intro hb1 hx)
   clear q0 f0 q1 f1 q2 f2 i0 i1 i2 i3 i4 i5 hv' hx
   obtain⟨q2,f2⟩:=A1 (A2 hb1 HX.out.1)
   have hlb1:=A0 (A2 hb1 HX.out.1)
   clear hb1
   rcases hany with rfl|⟨T,z,rfl⟩
   ·go_upto_region 4 with(fail)
    obtain⟨wy,hwy⟩:∃wy,wy=w1.setCell ⟨b,7,none⟩ (.nilIface):=⟨_,rfl⟩
    rw [←hwy]
    have HY:Hid (wy.heap[b]?=some (.cells #[.string name, .pointer y.y0, .pointer y.y1, .pointer y.y2, .pointer y.y3, .pointer y.y4, .bool false, .nilIface] 241)∧wy.heap[w.heap.size+1]?=w1.heap[w.heap.size+1]?∧Bw w wy∧wy.heap.size=w1.heap.size∧∀k,k≠b→wy.heap[k]?=w1.heap[k]?):=by
     subst hwy
     refine⟨?_,Ag _ _ _ _ _ n4, ?_,by simp,fun k hk=>Ag _ _ _ _ _ hk⟩
     ·simpa using Ae (A2 HJ.out.1 HX.out.1) 7 (.nilIface)
     ·exact Bw.set (hbw.tr HJ.out.1) (by omega) _ _
    clear q2 f2 hwy
    obtain⟨q1,f1⟩:=A1 (HY.out.2.1.trans (A2 HJ.out.1 HX.out.2.2.1))
    obtain⟨q2,f2⟩:=A1 HY.out.1
    have hsz2:b<wy.heap.size:=by rw [HY.out.2.2.2.1];exact hlb1
    go_wp2_with fail
    refine bodyPost_ret (v:= .agg #[.string name, .pointer y.y0, .pointer y.y1, .pointer y.y2, .pointer y.y3, .pointer y.y4, .bool false, .nilIface]) (by simp [results,Tryz.results111,go_sem,q1]) rfl ?_
    have hfar:∀k o,w.heap.size+2≤k→k≠b→w1.heap[k]?=some o→wy.heap[k]?=some o:=fun k o hk hne e=>by rw [HY.out.2.2.2.2 k hne];exact e
    refine⟨by repeat with_reducible (first|exact HY.out.2.2.1|refine Bw.set ?_ (by omega) _ _),y,_,rfl,⟨fun h=>by first|rfl|(have:=RJ.iface_some HJ.out.2;simp only [dnull]at h;rw [h]at this;cases this),fun h=>by first|exact⟨_,_,rfl⟩|(have:=RJ.nil_null HJ.out.2;simp only [dnull]at h;rw [h]at this;cases this)⟩,HNAME.out,HX.out.2.2.2.2.mono (Bc hi (by have:=HX.out.2.2.2.1;omega) fun k o hk e hne=> ?_), ?_⟩
    ·have hz:=HX.out.2.2.2.1
     repeat rw [Ag _ _ _ _ _ (show ¬k=w.heap.size+1 by omega)]
     exact hfar k o (by omega) (fun e=>hne (by rw [e])) (A2 HJ.out.1 e)
    ·refine RJ.mono ?_ HJ.out.2
     refine Ba hi hbw.size fun k o hk e=> ?_
     have:=hbw.size
     have hl:=A0 HX.out.1
     repeat rw [Ag _ _ _ _ _ (show ¬k=w.heap.size+1 by omega)]
     exact hfar k o (by omega) (by omega) e
   ·go_upto_region 4 with(fail)
    obtain⟨wy,hwy⟩:∃wy,wy=w1.setCell ⟨b,7,none⟩ (.iface T z):=⟨_,rfl⟩
    rw [←hwy]
    have HY:Hid (wy.heap[b]?=some (.cells #[.string name, .pointer y.y0, .pointer y.y1, .pointer y.y2, .pointer y.y3, .pointer y.y4, .bool false, .iface T z] 241)∧wy.heap[w.heap.size+1]?=w1.heap[w.heap.size+1]?∧Bw w wy∧wy.heap.size=w1.heap.size∧∀k,k≠b→wy.heap[k]?=w1.heap[k]?):=by
     subst hwy
     refine⟨?_,Ag _ _ _ _ _ n4, ?_,by simp,fun k hk=>Ag _ _ _ _ _ hk⟩
     ·simpa using Ae (A2 HJ.out.1 HX.out.1) 7 (.iface T z)
     ·exact Bw.set (hbw.tr HJ.out.1) (by omega) _ _
    clear q2 f2 hwy
    obtain⟨q1,f1⟩:=A1 (HY.out.2.1.trans (A2 HJ.out.1 HX.out.2.2.1))
    obtain⟨q2,f2⟩:=A1 HY.out.1
    have hsz2:b<wy.heap.size:=by rw [HY.out.2.2.2.1];exact hlb1
    go_wp2_with fail
    refine bodyPost_ret (v:= .agg #[.string name, .pointer y.y0, .pointer y.y1, .pointer y.y2, .pointer y.y3, .pointer y.y4, .bool false, .iface T z]) (by simp [results,Tryz.results111,go_sem,q1]) rfl ?_
    have hfar:∀k o,w.heap.size+2≤k→k≠b→w1.heap[k]?=some o→wy.heap[k]?=some o:=fun k o hk hne e=>by rw [HY.out.2.2.2.2 k hne];exact e
    refine⟨by repeat with_reducible (first|exact HY.out.2.2.1|refine Bw.set ?_ (by omega) _ _),y,_,rfl,⟨fun h=>by first|rfl|(have:=RJ.iface_some HJ.out.2;simp only [dnull]at h;rw [h]at this;cases this),fun h=>by first|exact⟨_,_,rfl⟩|(have:=RJ.nil_null HJ.out.2;simp only [dnull]at h;rw [h]at this;cases this)⟩,HNAME.out,HX.out.2.2.2.2.mono (Bc hi (by have:=HX.out.2.2.2.1;omega) fun k o hk e hne=> ?_), ?_⟩
    ·have hz:=HX.out.2.2.2.1
     repeat rw [Ag _ _ _ _ _ (show ¬k=w.heap.size+1 by omega)]
     exact hfar k o (by omega) (fun e=>hne (by rw [e])) (A2 HJ.out.1 e)
    ·refine RJ.mono ?_ HJ.out.2
     refine Ba hi hbw.size fun k o hk e=> ?_
     have:=hbw.size
     have hl:=A0 HX.out.1
     repeat rw [Ag _ _ _ _ _ (show ¬k=w.heap.size+1 by omega)]
     exact hfar k o (by omega) (by omega) e
end
end Go.Proofs.YtmghkmhgpmcoaaaGreat
