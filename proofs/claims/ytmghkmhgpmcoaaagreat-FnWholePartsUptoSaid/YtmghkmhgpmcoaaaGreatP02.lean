/- What the claim's theorem 'proved' rests on: Pure, SpecA, SpecB, SpecC, SpecD, SpecE, SpecF, SpecG. -/
import Derived.Test.YtmghkmhgpmcoaaaGreatProg
import Derived.Deep.QuietTactic
import Derived.BigQuiet
import Derived.Lib.Hide
import Derived.Deep.DeepCutAuto
import Derived.Test.YtmghkmhgpmcoaaaGreatP00
import Derived.Test.YtmghkmhgpmcoaaaGreatP01
set_option linter.unusedVariables false
set_option linter.unusedSimpArgs false
set_option maxRecDepth 100000
set_option maxHeartbeats 10000000
namespace Go.Proofs.YtmghkmhgpmcoaaaGreat
section
abbrev Bv:List UInt8:=[110,117,109,101,114,105,99]
abbrev Cg:List UInt8:=[115,116,114,105,110,103]
abbrev C':List UInt8:=[98,111,111,108,101,97,110]
abbrev D1:List UInt8:=[117,110,116,121,112,101,100]
abbrev An:List UInt8:=[97,116,111,109,105,99]
abbrev E3:List UInt8:=[97,115,115,111,99,105,97,116,105,118,101]
abbrev sSep:List UInt8:=[115,101,112,97,114,97,98,108,101]
def D6 (v:GV):Bool:=decide (1≤v.k) && decide (v.k≤4)
def EE (v:GV):Bool:=v.k==2||v.k==3
def rankV (v:GV):Int:=if v.k=2∨v.k=3 then 0 else if v.k=4 then 1 else if v.k=1 then 2 else if v.k=5 then 3 else if v.k=6 then 4 else 5
def BW (e:GE):Int:=if e.k=1∨e.k=2∨e.k=3 then e.k else 0
def cmpI (a b:Int):Int:=if a<b then -1 else if b<a then 1 else 0
def nanB (f:Nat):Bool:= !(FloatKind.f64.format.order f f==some .eq)
mutual
def ordV:GV→Bool
 |⟨k,n,f,_,_,l⟩=>if k=2 then decide (-9007199254740992≤n) && decide (n≤9007199254740992)else if k=3 then FloatKind.f64.format.order f f==some .eq else if k=5∨k=6 then Df l else true
def Df:List GV→Bool
 |[]=>true
 |v::r=>ordV v && Df r
end
def bareV (v:GV):Bool:=if v.k=1∨v.k=2∨v.k=3∨v.k=4 then false else if v.k=5 then decide (v.l.length=0)else if v.k=6 then decide (min v.ks.length v.l.length=0)else true
mutual
def hollowV:GV→Bool
 |⟨k,n,f,s,ks,l⟩=>bareV ⟨k,n,f,s,ks,l⟩||(if k=5∨k=6 then hollowVs l else false)
def hollowVs:List GV→Bool
 |[]=>false
 |v::r=>hollowV v||hollowVs r
end
def fitsS (kind:ByteArray)(v:GV):Bool:=
 if kind.toList==Bv then EE v else if kind.toList==Cg then v.k==4 else if kind.toList==C' then v.k==1 else if kind.toList==D1 then D6 v else false
def AB (a:Ap):Int:=min a.li.length 1+min a.ma.length 1+(if a.sc.toList.isEmpty then 0 else 1)
def Ds (r:As):Bool:= !r.named && r.rel.toList.isEmpty && AB r.atom==0
def C6:List Ax→ByteArray→Option Ap
 |[],_=>none
 |d::r,name=>if d.name.toList==name.toList then some d.atom else C6 r name
def EI:List Au→ByteArray→Option Au
 |[],_=>none
 |d::r,name=>if d.name.toList==name.toList then some d else EI r name
def BG (a:Ap)(rel:ByteArray):Option Ap:=
 match a.ma with
 |m::_=>some ⟨a.sc,a.li,[⟨m.fields,m.elem,rel⟩]⟩
 |[]=>match a.li with
  |l::_=>some ⟨a.sc,[⟨l.elem,rel,l.keys⟩],[]⟩
  |[]=>none
def AJ (s:List Ax)(r:As):Option Ap:=
 match(if r.named then C6 s r.name else some r.atom)with
 |none=>none
 |some a=>if r.rel.toList.isEmpty then some a else BG a r.rel
def BH (s:List Ax)(m:Bp)(k:ByteArray):Bool:=
 match EI m.fields k with
 |none=>false
 |some f=>match AJ s f.type with
  |none=>false
  |some a=>AB a==1 && !a.sc.toList.isEmpty && (match f.dflt with
   |[]=>true
   |d::_=>d.k !=0 && fitsS a.sc d)
def BY (s:List Ax)(m:Bp)(pre:List ByteArray):List ByteArray→Bool
 |[]=>true
 |k::r=> !(pre.any fun j=>j.toList==k.toList) && BH s m k && BY s m (pre++[k]) r
def AS (s:List Ax)(l:B3):Bool:=
 match AJ s l.elem with
 |none=>false
 |some a=>AB a==1 && (match l.keys with
  |[]=> !a.sc.toList.isEmpty
  |_::_=>match a.ma with
   |[]=>false
   |m::_=>BY s m [] l.keys)
def Eh (s:List Ax)(r:As):Bool:=
 match AJ s r with
 |none=>false
 |some a=>AB a !=0 && (r.rel.toList.isEmpty||(AB a==1 && (match a.ma with
  |_::_=>r.rel.toList==sSep||r.rel.toList==An
  |[]=>r.rel.toList==An||(r.rel.toList==E3 && (match a.li with
   |[]=>false
   |l::_=>AS s l)))))
def scOk (sc:ByteArray):Bool:=sc.toList.isEmpty||sc.toList==Bv||sc.toList==Cg||sc.toList==C'||sc.toList==D1
mutual
def BL (s:List Ax):Ap→Bool
 |⟨sc,li,ma⟩=>scOk sc && AB ⟨sc,li,ma⟩ !=0 && Dg s li && DE s ma
def Dg (s:List Ax):List B3→Bool
 |[]=>true
 |l::_=>Ev s l
def DE (s:List Ax):List Bp→Bool
 |[]=>true
 |l::_=>Ei s l
def AP (s:List Ax):As→Bool
 |⟨named,name,atom,rel⟩=>(named||BL s atom) && Eh s ⟨named,name,atom,rel⟩
def Ei (s:List Ax):Bp→Bool
 |⟨fields,elem,rel⟩=>(rel.toList.isEmpty||rel.toList==sSep||rel.toList==An) && BB s [] fields && (Ds elem||AP s elem)
def BB (s:List Ax)(pre:List Au):List Au→Bool
 |[]=>true
 |f::r=> !(pre.any fun g=>g.name.toList==f.name.toList) && fieldFormed s f && BB s (pre++[f]) r
def fieldFormed (s:List Ax):Au→Bool
 |⟨_,type,_⟩=>AP s type
def Ev (s:List Ax):B3→Bool
 |⟨elem,rel,keys⟩=>AP s elem && (rel.toList==An||(rel.toList==E3 && AS s ⟨elem,rel,keys⟩))
end
def BK (s:List Ax)(pre:List Ax):List Ax→Bool
 |[]=>true
 |t::r=> !(pre.any fun u=>u.name.toList==t.name.toList) && BL s t.atom && BK s (pre++[t]) r
def Dz (s:List Ax)(r:As):Bool:=BK s [] s && AP s r
mutual
def D5:Ap→Bool
 |⟨sc,li,ma⟩=>decide (AB ⟨sc,li,ma⟩≤1) && F1 li && singleMs ma
def F1:List B3→Bool
 |[]=>true
 |⟨elem,_,_⟩::_=>DK elem
def singleMs:List Bp→Bool
 |[]=>true
 |⟨fields,elem,_⟩::_=>DS fields && DK elem
def DS:List Au→Bool
 |[]=>true
 |⟨_,type,_⟩::r=>DK type && DS r
def DK:As→Bool
 |⟨named,_,atom,_⟩=>named||D5 atom
end
def Dr:List Ax→Bool
 |[]=>true
 |d::r=>D5 d.atom && Dr r
def De (s:List Ax)(r:As):Bool:=Dr s && DK r
mutual
def Er:Ap→Bool
 |⟨_,li,ma⟩=>ordLs li && ordMs ma
def ordLs:List B3→Bool
 |[]=>true
 |⟨⟨_,_,atom,_⟩,_,_⟩::r=>Er atom && ordLs r
def ordMs:List Bp→Bool
 |[]=>true
 |⟨fields,⟨_,_,atom,_⟩,_⟩::r=>F4 fields && Er atom && ordMs r
def F4:List Au→Bool
 |[]=>true
 |⟨_,⟨_,_,atom,_⟩,dflt⟩::r=>Df dflt && Er atom && F4 r
end
def ordDs:List Ax→Bool
 |[]=>true
 |d::r=>Er d.atom && ordDs r
def ED (s:List Ax)(r:As)(v:GV):Bool:=ordDs s && Er r.atom && ordV v
end
section
open Go.RowKit
theorem number_c (v:GV)(x4 x5:Value)(w:World):Calls Tryz.prog 69 #[Ar v x4 x5] w (Pur w (.bool (EE v))):=by
 unfold Ar
 go_enter Tryz.func69,Tryz.ntmps69
 go_wp2
 all_goals (go_ret;exact⟨AQ (by simp_all [EE]),A5⟩)
theorem scalar_c (v:GV)(x4 x5:Value)(w:World):Calls Tryz.prog 107 #[Ar v x4 x5] w (Pur w (.bool (D6 v))):=by
 unfold Ar
 go_enter Tryz.func107,Tryz.ntmps107
 go_wp2
 all_goals (go_ret;exact⟨AQ (by unfold D6;simp_all;try omega),A5⟩)
theorem kindRank_c (v:GV)(x4 x5:Value)(w:World):Calls Tryz.prog 174 #[Ar v x4 x5] w (Pur w (.int .i64 (rankV v))):=by
 unfold Ar
 go_enter Tryz.func174,Tryz.ntmps174
 go_wp2
 all_goals (go_ret;exact⟨retI (by simp_all [rankV]),A5⟩)
theorem elemRank_c (e:GE)(x2 x3 y4 y5:Value)(w:World):Calls Tryz.prog 148 #[Dl e x2 x3 y4 y5] w (Pur w (.int .i64 (BW e))):=by
 unfold Dl
 go_enter Tryz.func148,Tryz.ntmps148
 go_wp2
 all_goals (go_ret;exact⟨retI (by simp_all [BW]),A5⟩)
theorem cmpInts_c (a b:Int)(w:World):Calls Tryz.prog 146 #[.int .i64 a, .int .i64 b] w (Pur w (.int .i64 (cmpI a b))):=by
 go_enter Tryz.func146,Tryz.ntmps146
 go_wp2
 all_goals (go_ret;refine⟨retI ?_,Below.refl _ _⟩)
 all_goals (unfold cmpI;(try simp_all);try omega)
theorem ord_c:∀(z:Nat) (v:GV),v.sz≤z→∀(H:Hp) (x4 x5:Value) (w:World),Imm H w→RV H v x4 x5→Calls Tryz.prog 49 #[Ar v x4 x5] w (Pur w (.bool (ordV v))):=by
 intro z
 induction z with
 |zero=>intro v hz;have:=v.sz_eq;omega
 |succ z ih=>
  intro v hz H x4 x5 w hi hv
  obtain⟨hk,hn,hf,hs,h4,a,c,rfl,hnil,hl,hlc,hat⟩:=By.1 hv
  have hsz:=v.sz_eq
  rcases v with⟨k,n,f,s,ks,l⟩
  unfold Ar
  unfold lim at hl
  simp only at *
  by_cases e5:k=5∨k=6
  ·have hspec2:Hid (ordV ⟨k,n,f,s,ks,l⟩=Df l):=by
    rcases e5 with e|e<;>subst e<;>simp [Hid,ordV]
   rcases e5 with e5|e5
   all_goals
    subst e5
    go_enter Tryz.func49,Tryz.ntmps49
    go_wp2_with fail
    go_loopw [30] (fun i wr=>∃j:Nat,j≤l.length∧i= .int .i64 j∧Hid (Df l=Df (l.drop j))∧Bw w wr) (fun i _=>l.length - (intOf i).toNat)
    case atStart=>exact⟨0,by omega,rfl,by simp [Hid],A5⟩
    case round=>
     rename_i wr
     obtain⟨j,hj,rfl,hd,hb⟩:=hrel
     have hiw:=hi.below hb
     by_cases hjl:j<l.length
     ·obtain⟨b,o,a4,d4,a5,d5,rfl,hv',c0,c1,c2,c3,c4,c5⟩:=hat.look hiw hjl
      have hdr:Hid (l.drop j=l[j]::l.drop (j+1)):=C1 hjl
      have HC:=Lib.hid (ih l[j] (by have:=D0 hjl;omega) H)
      clear ih
      cases hq:ordV l[j]
      all_goals
       have HQ:=Lib.hid hq
       go_wp2_with fail
       refine(HC.out _ _ _ (hiw.below A5) hv').mono ?_
       rintro e w1 ⟨rfl,hb1⟩
       clear HC
       rw [HQ.out]
       go_wp2_with fail
      ·go_ret
       exact⟨AQ (by rw [hspec2.out,hd.out,hdr.out];simp [Df,HQ.out]),(hb.al _).tr hb1⟩
      ·go_roundw
       case rel=>exact⟨j+1,by omega,by go_num,by unfold Hid;rw [hd.out,hdr.out];simp [Df,HQ.out],(hb.al _).tr hb1⟩
       case measure=>simp [intOf];omega
     ·clear ih
      go_wp2_with fail
      go_ret
      have:j=l.length:=by omega
      subst this
      exact⟨AQ (by rw [hspec2.out,hd.out];simp [Df]),hb⟩
  ·clear ih
   go_enter Tryz.func49,Tryz.ntmps49
   go_wp2_with fail
   all_goals (go_ret;exact⟨AQ (by first|(simp_all [ordV];done)|(simp_all [ordV];omega)),A5⟩)
theorem ords_c (l:List GV)(H:Hp)(x:Value)(w:World)(hi:Imm H w)(hv:RVs H l x):Calls Tryz.prog 79 #[x] w (Pur w (.bool (Df l))):=by
 obtain⟨a,c,rfl,hnil,hl,hlc,hat⟩:=hv
 unfold lim at hl
 go_enter Tryz.func79,Tryz.ntmps79
 go_wp2_with fail
 go_loopw [7] (fun i wr=>∃j:Nat,j≤l.length∧i= .int .i64 j∧Hid (Df l=Df (l.drop j))∧Bw w wr) (fun i _=>l.length - (intOf i).toNat)
 case atStart=>exact⟨0,by omega,rfl,by simp [Hid],Bw.rfl⟩
 case round=>
  rename_i wr
  obtain⟨j,hj,rfl,hd,hb⟩:=hrel
  have hiw:=hi.below hb
  by_cases hjl:j<l.length
  ·obtain⟨b,o,a4,d4,a5,d5,rfl,hv',c0,c1,c2,c3,c4,c5⟩:=hat.look hiw hjl
   have hdr:Hid (l.drop j=l[j]::l.drop (j+1)):=C1 hjl
   have HC:=Lib.hid (ord_c _ l[j] (Nat.le_refl _) H)
   cases hq:ordV l[j]
   all_goals
    have HQ:=Lib.hid hq
    go_wp2_with fail
    refine(HC.out _ _ _ (hiw.below A5) hv').mono ?_
    rintro e w1 ⟨rfl,hb1⟩
    clear HC
    rw [HQ.out]
    go_wp2_with fail
   ·go_ret
    exact⟨AQ (by rw [hd.out,hdr.out];simp [Df,HQ.out]),(hb.al _).tr hb1⟩
   ·go_roundw
    case rel=>exact⟨j+1,by omega,by go_num,by unfold Hid;rw [hd.out,hdr.out];simp [Df,HQ.out],(hb.al _).tr hb1⟩
    case measure=>simp [intOf];omega
  ·go_wp2_with fail
   go_ret
   have:j=l.length:=by omega
   subst this
   exact⟨AQ (by rw [hd.out];simp [Df]),hb⟩
theorem bare_c (v:GV)(H:Hp)(x4 x5:Value)(w:World)(hv:RV H v x4 x5):Calls Tryz.prog 11 #[Ar v x4 x5] w (Pur w (.bool (bareV v))):=by
 obtain⟨_,_,_,_,⟨a4,c4,rfl,_,h4,_⟩,⟨a5,c5,rfl,_,h5,_⟩⟩:=By.1 hv
 unfold lim at h4 h5
 rcases v with⟨k,n,f,s,ks,l⟩
 unfold Ar
 simp only at *
 go_enter Tryz.func11,Tryz.ntmps11
 go_wp2
 all_goals (go_ret;refine⟨AQ ?_,A5⟩)
 all_goals (cases ks<;>cases l<;>simp_all [bareV]<;>omega)
end
section
open Go.RowKit
theorem parts_c (a:Ap)(a1 a2:Option Addr)(c1 c2:Nat)(h1:a.li.length≤4294967296)(h2:a.ma.length≤4294967296)(w:World):
  Calls Tryz.prog 51 #[aggA a (.slice a1 a.li.length c1) (.slice a2 a.ma.length c2)] w (Pur w (.int .i64 (AB a))):=by
 rcases a with⟨sc,li,ma⟩
 simp only at *
 go_enter Tryz.func51,Tryz.ntmps51
 go_wp2
 all_goals go_ret
 all_goals (refine⟨retI ?_,A5⟩;simp_all [AB];try omega)
theorem F3 {H:Hp}{a:Ap}{x1 x2:Value}(h:BQ H a x1 x2)(w:World):Calls Tryz.prog 51 #[aggA a x1 x2] w (Pur w (.int .i64 (AB a))):=by
 obtain⟨_,⟨a1,c1,rfl,_,l1,_⟩,⟨a2,c2,rfl,_,l2,_⟩⟩:=Bd.1 h
 exact parts_c a a1 a2 c1 c2 l1 l2 w
theorem noOther_c {H:Hp}{r:As}{x1 x2:Value}(h:BQ H r.atom x1 x2)(w:World):Calls Tryz.prog 105 #[E8 r x1 x2] w (Pur w (.bool (Ds r))):=by
 have HP:=Lib.hid (F3 h)
 rcases r with⟨named,name,atom,rel⟩
 simp only at *
 cases named
 all_goals
  go_enter Tryz.func105,Tryz.ntmps105
  go_wp2_with (go_at_call 51;refine(HP.out _).mono ?_;rintro e w1 ⟨rfl,hb1⟩)
  all_goals go_ret
  all_goals first
   |(refine⟨AQ ?_,A5.tr (by assumption)⟩;simp_all [Ds];done)
   |(refine⟨AQ ?_,A5⟩;simp_all [Ds];done)
theorem fits_c (s:ByteArray)(v:GV)(x4 x5:Value)(w:World):Calls Tryz.prog 81 #[.string s,Ar v x4 x5] w (Pur w (.bool (fitsS s v))):=by
 have HN:=Lib.hid (number_c v x4 x5)
 have HS:=Lib.hid (scalar_c v x4 x5)
 unfold Ar at *
 go_enter Tryz.func81,Tryz.ntmps81
 go_wp2_with (first
  |(go_at_call 69;refine(HN.out _).mono ?_;rintro e w1 ⟨rfl,hb1⟩)
  |(go_at_call 107;refine(HS.out _).mono ?_;rintro e w1 ⟨rfl,hb1⟩))
 all_goals go_ret
 all_goals first
  |(refine⟨AQ ?_,A5.tr (by assumption)⟩;simp_all [fitsS];done)
  |(refine⟨AQ ?_,A5⟩;simp_all [fitsS];done)
end
section
open Go.RowKit
def DM (H:Hp)(w:World)(o:Option Ap):Ending→World→Prop:=fun e w'=>Bw w w'∧match o with
 |some a=>∃x1 x2,e= .returned (.tuple #[aggA a x1 x2, .bool true])∧BQ H a x1 x2
 |none=>e= .returned (.tuple #[.agg #[.string {data:= #[]}, .slice none 0 0, .slice none 0 0], .bool false])
theorem DM.yes {H:Hp}{w w1:World}{o:Option Ap}{a:Ap}{x1 x2:Value}(ho:Hid (o=some a))(hb:Bw w w1)(hv:BQ H a x1 x2):
  DM H w o (.returned (.tuple #[aggA a x1 x2, .bool true])) w1:=by
 unfold DM;rw [ho.out]
 exact⟨hb,_,_,rfl,hv⟩
theorem DM.no {H:Hp}{w w1:World}{o:Option Ap}(ho:Hid (o=none))(hb:Bw w w1):
  DM H w o (.returned (.tuple #[.agg #[.string {data:= #[]}, .slice none 0 0, .slice none 0 0], .bool false])) w1:=by
 unfold DM;rw [ho.out]
 exact⟨hb,rfl⟩
theorem named_c (H:Hp)(s:List Ax)(name:ByteArray)(x:Value)(w:World)(hi:Imm H w)(hs:DH H s x):
  Calls Tryz.prog 22 #[E1 x, .string name] w (DM H w (C6 s name)):=by
 obtain⟨a,c,rfl,hnil,hl,hlc,hat⟩:=hs
 unfold lim at hl
 go_enter Tryz.func22,Tryz.ntmps22
 go_wp2_with fail
 go_loopw [11] (fun i wr=>∃j:Nat,j≤s.length∧i= .int .i64 j∧Hid (C6 s name=C6 (s.drop j) name)∧Bw w wr∧w.heap.size+1<wr.heap.size∧wr.heap[w.heap.size+1]?=some (.cells #[.string {data:= #[]}, .slice none 0 0, .slice none 0 0] 28))
   (fun i _=>s.length - (intOf i).toNat)
 case atStart=>exact⟨0,by omega,rfl,by simp [Hid],Am,by simp,by simpa using A4 (w:=w.alloc (.cells #[.slice a s.length c] 24)) (o:= .cells #[.string {data:= #[]}, .slice none 0 0, .slice none 0 0] 28)⟩
 case round=>
  rename_i wr
  obtain⟨j,hj,rfl,hd,hb,hz,hbox⟩:=hrel
  have hiw:=hi.below hb
  obtain⟨hbc,hbf⟩:=A1 hbox
  by_cases hjl:j<s.length
  ·obtain⟨b,o,a1,d1,a2,d2,rfl,hv,hns,c0,c1,c2,c3⟩:=hat.look hiw hjl
   have hdr:Hid (s.drop j=s[j]::s.drop (j+1)):=C1 hjl
   cases hq:(s[j].name.toList==name.toList)
   all_goals
    go_wp2_with fail
   ·go_roundw
    case rel=>exact⟨j+1,by omega,by go_num,by unfold Hid;rw [hd.out,hdr.out];simp [C6,hq],hb.al _,by simp;omega,A3 hbox⟩
    case measure=>simp [intOf];omega
   ·have hres:Hid (C6 s name=some s[j].atom):=by unfold Hid;rw [hd.out,hdr.out];simp [C6,hq]
    refine bodyPost_ret (v:= .tuple #[.agg #[.string s[j].atom.sc, .slice a1 s[j].atom.li.length d1, .slice a2 s[j].atom.ma.length d2], .bool true]) (by simp [results,Tryz.results22,go_sem,hz,hbc]) rfl ?_
    exact DM.yes hres (by repeat with_reducible (first|exact hb|refine Bw.al ?_ _|refine Bw.set ?_ (by omega) _ _)) hv
  ·go_wp2_with fail
   have:j=s.length:=by omega
   subst this
   have hres:Hid (C6 s name=none):=by unfold Hid;rw [hd.out];simp [C6]
   refine bodyPost_ret (v:= .tuple #[.agg #[.string {data:= #[]}, .slice none 0 0, .slice none 0 0], .bool false]) (by simp [results,Tryz.results22,go_sem,hz,hbc]) rfl ?_
   exact DM.no hres (by repeat with_reducible (first|exact hb|refine Bw.al ?_ _|refine Bw.set ?_ (by omega) _ _))
def CO (H:Hp)(w:World)(o:Option Au):Ending→World→Prop:=fun e w'=>Bw w w'∧match o with
 |some a=>∃x1 x2 xd,e= .returned (.tuple #[aggF a x1 x2 xd, .bool true])∧Cz H a x1 x2 xd
 |none=>e= .returned (.tuple #[.agg #[.string {data:= #[]}, .bool false, .string {data:= #[]}, .string {data:= #[]}, .slice none 0 0, .slice none 0 0, .string {data:= #[]}, .slice none 0 0], .bool false])
theorem CO.yes {H:Hp}{w w1:World}{o:Option Au}{a:Au}{x1 x2 xd:Value}(ho:Hid (o=some a))(hb:Bw w w1)(hv:Cz H a x1 x2 xd):
  CO H w o (.returned (.tuple #[aggF a x1 x2 xd, .bool true])) w1:=by
 unfold CO;rw [ho.out]
 exact⟨hb,_,_,_,rfl,hv⟩
theorem CO.no {H:Hp}{w w1:World}{o:Option Au}(ho:Hid (o=none))(hb:Bw w w1):
  CO H w o (.returned (.tuple #[.agg #[.string {data:= #[]}, .bool false, .string {data:= #[]}, .string {data:= #[]}, .slice none 0 0, .slice none 0 0, .string {data:= #[]}, .slice none 0 0], .bool false])) w1:=by
 unfold CO;rw [ho.out]
 exact⟨hb,rfl⟩
theorem findF_c (H:Hp)(m:Bp)(name:ByteArray)(xf x1 x2:Value)(w:World)(hi:Imm H w)(hs:Fu H m.fields xf):
  Calls Tryz.prog 108 #[aggM m xf x1 x2, .string name] w (CO H w (EI m.fields name)):=by
 rcases m with⟨s,elem,rel⟩
 simp only at *
 obtain⟨a,c,rfl,hnil,hl,hlc,hat⟩:=hs
 unfold lim at hl
 go_enter Tryz.func108,Tryz.ntmps108
 go_wp2_with fail
 go_loopw [11] (fun i wr=>∃j:Nat,j≤s.length∧i= .int .i64 j∧Hid (EI s name=EI (s.drop j) name)∧Bw w wr∧w.heap.size+1<wr.heap.size∧
   wr.heap[w.heap.size+1]?=some (.cells #[.string {data:= #[]}, .bool false, .string {data:= #[]}, .string {data:= #[]}, .slice none 0 0, .slice none 0 0, .string {data:= #[]}, .slice none 0 0] 45))
   (fun i _=>s.length - (intOf i).toNat)
 case atStart=>exact⟨0,by omega,rfl,by simp [Hid],Am,by simp,by simpa using A4 (w:=w.alloc _) (o:= .cells #[.string {data:= #[]}, .bool false, .string {data:= #[]}, .string {data:= #[]}, .slice none 0 0, .slice none 0 0, .string {data:= #[]}, .slice none 0 0] 45)⟩
 case round=>
  rename_i wr
  obtain⟨j,hj,rfl,hd,hb,hz,hbox⟩:=hrel
  have hiw:=hi.below hb
  obtain⟨hbc,hbf⟩:=A1 hbox
  by_cases hjl:j<s.length
  ·obtain⟨b,o,a1,d1,a2,d2,ad,dd,rfl,hv,c0,c1,c2,c3,c4,c5,c6,c7⟩:=hat.look hiw hjl
   have hdr:Hid (s.drop j=s[j]::s.drop (j+1)):=C1 hjl
   cases hq:(s[j].name.toList==name.toList)
   all_goals
    go_wp2_with fail
   ·go_roundw
    case rel=>exact⟨j+1,by omega,by go_num,by unfold Hid;rw [hd.out,hdr.out];simp [EI,hq],hb.al _,by simp;omega,A3 hbox⟩
    case measure=>simp [intOf];omega
   ·have hres:Hid (EI s name=some s[j]):=by unfold Hid;rw [hd.out,hdr.out];simp [EI,hq]
    refine bodyPost_ret (v:= .tuple #[.agg #[.string s[j].name, .bool s[j].type.named, .string s[j].type.name, .string s[j].type.atom.sc, .slice a1 s[j].type.atom.li.length d1, .slice a2 s[j].type.atom.ma.length d2, .string s[j].type.rel, .slice ad s[j].dflt.length dd], .bool true]) (by simp [results,Tryz.results108,go_sem,hz,hbc]) rfl ?_
    exact CO.yes hres (by repeat with_reducible (first|exact hb|refine Bw.al ?_ _|refine Bw.set ?_ (by omega) _ _)) hv
  ·go_wp2_with fail
   have:j=s.length:=by omega
   subst this
   have hres:Hid (EI s name=none):=by unfold Hid;rw [hd.out];simp [EI]
   refine bodyPost_ret (v:= .tuple #[.agg #[.string {data:= #[]}, .bool false, .string {data:= #[]}, .string {data:= #[]}, .slice none 0 0, .slice none 0 0, .string {data:= #[]}, .slice none 0 0], .bool false]) (by simp [results,Tryz.results108,go_sem,hz,hbc]) rfl ?_
   exact CO.no hres (by repeat with_reducible (first|exact hb|refine Bw.al ?_ _|refine Bw.set ?_ (by omega) _ _))
end
section
open Go.RowKit
def Cx (H:Hp)(w:World)(o:Option Ap):Ending→World→Prop:=fun e w'=>Bw w w'∧match o with
 |some a=>∃x1 x2,e= .returned (.tuple #[aggA a x1 x2, .bool true])∧BQ (A6 H w w') a x1 x2
 |none=>e= .returned (.tuple #[.agg #[.string {data:= #[]}, .slice none 0 0, .slice none 0 0], .bool false])
theorem Cx.yes {H:Hp}{w w1:World}{o:Option Ap}{a:Ap}{x1 x2:Value}(ho:Hid (o=some a))(hb:Bw w w1)(hv:BQ (A6 H w w1) a x1 x2):
  Cx H w o (.returned (.tuple #[aggA a x1 x2, .bool true])) w1:=by
 unfold Cx;rw [ho.out]
 exact⟨hb,_,_,rfl,hv⟩
theorem Cx.no {H:Hp}{w w1:World}{o:Option Ap}(ho:Hid (o=none))(hb:Bw w w1):
  Cx H w o (.returned (.tuple #[.agg #[.string {data:= #[]}, .slice none 0 0, .slice none 0 0], .bool false])) w1:=by
 unfold Cx;rw [ho.out]
 exact⟨hb,rfl⟩
theorem RMaps.one {K:Hp}{b:Nat}{m:Bp}{xf x1 x2:Value}(hc:cellsM K b 0 m xf x1 x2)(hm:RMap K m xf x1 x2):RMaps K [m] (.slice (some ⟨b,0,none⟩) 1 1):=
 ⟨_,_,rfl,by simp,by simp [lim],Nat.le_refl _,Bu.mk fun j hj=>by
  have:j=0:=by simpa using hj
  subst this
  exact⟨b,0,xf,x1,x2,rfl,by simpa using hc,hm⟩⟩
theorem E9.one {K:Hp}{b:Nat}{m:B3}{x1 x2 xk:Value}(hc:cellsL K b 0 m x1 x2 xk)(hm:D4 K m x1 x2 xk):E9 K [m] (.slice (some ⟨b,0,none⟩) 1 1):=
 ⟨_,_,rfl,by simp,by simp [lim],Nat.le_refl _,Bb.mk fun j hj=>by
  have:j=0:=by simpa using hj
  subst this
  exact⟨b,0,x1,x2,xk,rfl,by simpa using hc,hm⟩⟩
theorem E9.nil {K:Hp}:E9 K [] (.slice none 0 0):=⟨_,_,rfl,by simp,by simp,by simp,by simp only [Bb]⟩
theorem RMaps.nil {K:Hp}:RMaps K [] (.slice none 0 0):=⟨_,_,rfl,by simp,by simp,by simp,by simp only [Bu]⟩
theorem Eg (H:Hp)(s:List Ax)(r:As)(xs x1 x2:Value)(w:World)(hi:Imm H w)(hs:DH H s xs)(hr:Cy H r x1 x2):
  Calls Tryz.prog 7 #[E1 xs,E8 r x1 x2] w (Cx H w (AJ s r)):=by
 rcases r with⟨named,name,⟨sc0,li0,ma0⟩,rel⟩
 obtain⟨_,hrel,ha0⟩:=BP.1 hr
 obtain⟨a5,c5,a6,c6,rfl,rfl⟩:=ha0.open
 have HN:=Lib.hid (fun w0 h0=>named_c H s name xs w0 h0 hs)
 obtain⟨aq,cq,rfl,_⟩:=hs
 have hlook:Hid (AJ s ⟨named,name,⟨sc0,li0,ma0⟩,rel⟩=match(if named then C6 s name else some ⟨sc0,li0,ma0⟩)with
   |none=>none
   |some a=>if rel.toList.isEmpty then some a else BG a rel):=rfl
 go_enter Tryz.func7,Tryz.ntmps7
 go_upto_if 14 with(fail)
 go_cut [7,8] (fun s7 s8 wx=>∃a y1 y2,Hid (AJ s ⟨named,name,⟨sc0,li0,ma0⟩,rel⟩=if rel.toList.isEmpty then some a else BG a rel)∧BQ H a y1 y2∧Bw w wx∧w.heap.size+1+1+1<wx.heap.size∧
   wx.heap[w.heap.size+1]?=some (.cells #[.bool named, .string name, .string sc0, .slice a5 li0.length c5, .slice a6 ma0.length c6, .string rel] 30)∧
   wx.heap[w.heap.size+1+1]?=some (.cells #[.string {data:= #[]}, .slice none 0 0, .slice none 0 0] 28)∧
   wx.heap[w.heap.size+1+1+1]?=some (.cells #[.string a.sc,y1,y2] 28))
 case first=>
  cases named
  ·go_wp2_with fail
   go_meet
   exact⟨⟨sc0,li0,ma0⟩,_,_,rfl,ha0,(by repeat with_reducible (first|exact Bw.rfl|assumption|refine Bw.al ?_ _|refine Bw.set ?_ (by omega) _ _)),by simp,by repeat (first|(rw [Ad,if_pos (by simp;done)];done)|rw [Ad,if_neg (by simp;done)]),by repeat (first|(rw [Ad,if_pos (by simp;done)];done)|rw [Ad,if_neg (by simp;done)]),by repeat (first|(rw [Ad,if_pos (by simp;done)];done)|rw [Ad,if_neg (by simp;done)])⟩
  ·go_wp2_with fail
   refine(HN.out _ (hi.below (by repeat with_reducible (first|exact Bw.rfl|assumption|refine Bw.al ?_ _|refine Bw.set ?_ (by omega) _ _)))).mono ?_
   clear HN
   rintro e w1 hpost
   unfold DM at hpost
   obtain⟨hb1,hpost⟩:=hpost
   obtain⟨hc1,hf1⟩:=bcell hb1
   have hz1:=hb1.size
   simp at hz1
   have hbw1:Bw w w1:=Bw.tr (by repeat with_reducible (first|exact Bw.rfl|assumption|refine Bw.al ?_ _|refine Bw.set ?_ (by omega) _ _)) hb1
   obtain⟨z0,z1,z2,z3⟩:w.heap.size<w1.heap.size∧w.heap.size+1<w1.heap.size∧w.heap.size+1+1<w1.heap.size∧w.heap.size+1+1+1<w1.heap.size:=by omega
   have hk1:Hid (w1.heap[w.heap.size+1]?=some (.cells #[.bool true, .string name, .string sc0, .slice a5 li0.length c5, .slice a6 ma0.length c6, .string rel] 30)):=
    (hb1.block _ (by simp)).trans (by repeat (first|(rw [Ad,if_pos (by simp;done)];done)|rw [Ad,if_neg (by simp;done)]))
   have hk2:Hid (w1.heap[w.heap.size+1+1]?=some (.cells #[.string {data:= #[]}, .slice none 0 0, .slice none 0 0] 28)):=
    (hb1.block _ (by simp)).trans (by repeat (first|(rw [Ad,if_pos (by simp;done)];done)|rw [Ad,if_neg (by simp;done)]))
   have hk3:Hid (w1.heap[w.heap.size+1+1+1]?=some (.cells #[.string sc0, .slice a5 li0.length c5, .slice a6 ma0.length c6] 28)):=
    (hb1.block _ (by simp)).trans (by repeat (first|(rw [Ad,if_pos (by simp;done)];done)|rw [Ad,if_neg (by simp;done)]))
   cases hq:C6 s name with
   |none=>
    rw [hq]at hpost
    simp only at hpost
    subst hpost
    have hres:Hid (AJ s ⟨true,name,⟨sc0,li0,ma0⟩,rel⟩=none):=by simp [Hid,AJ,hq]
    go_wp2_with fail
    refine bodyPost_ret (v:= .tuple #[.agg #[.string {data:= #[]}, .slice none 0 0, .slice none 0 0], .bool false]) (by simp [results,Tryz.results7,go_sem,hc1,hf1,z0,z1,z2,z3]) rfl ?_
    exact Cx.no hres (by repeat with_reducible (first|exact Bw.rfl|assumption|refine Bw.al ?_ _|refine Bw.set ?_ (by omega) _ _))
   |some a=>
    rw [hq]at hpost
    obtain⟨y1,y2,rfl,ha⟩:=hpost
    have hres:Hid (AJ s ⟨true,name,⟨sc0,li0,ma0⟩,rel⟩=if rel.toList.isEmpty then some a else BG a rel):=by simp [Hid,AJ,hq]
    obtain⟨a7,c7,a8,c8,rfl,rfl⟩:=ha.open
    clear hlook
    go_wp2_with fail
    go_meet
    have hk4:=Ae (Ae (Ae hk3.out 0 (.string a.sc)) 1 (.slice a7 a.li.length c7)) 2 (.slice a8 a.ma.length c8)
    simp at hk4
    refine⟨a,_,_,hres,ha,(by repeat with_reducible (first|exact Bw.rfl|assumption|refine Bw.al ?_ _|refine Bw.set ?_ (by omega) _ _)),by simp;omega, ?_, ?_,A3 hk4⟩
    ·exact A3 (by rw [Ag _ _ _ _ _ (by omega),Ag _ _ _ _ _ (by omega),Ag _ _ _ _ _ (by omega)];exact hk1.out)
    ·exact A3 (by rw [Ag _ _ _ _ _ (by omega),Ag _ _ _ _ _ (by omega),Ag _ _ _ _ _ (by omega)];exact hk2.out)
 case rest=>
  clear HN hlook
  obtain⟨⟨sc,li,ma⟩,y1,y2,hres0,ha,hbw,hz3,hb1,hb2,hb3⟩:=hcut
  obtain⟨hsc,⟨a1,d1,rfl,hn1,hl1,hc1',hat1⟩,⟨a2,d2,rfl,hn2,hl2,hc2,hat2⟩⟩:=Bd.1 ha
  simp only at *
  have hl1':=hl1
  have hl2':=hl2
  unfold lim at hl1 hl2
  have hix:=hi.below hbw
  have HB1:=Lib.hid hb1;have HB2:=Lib.hid hb2;have HB3:=Lib.hid hb3
  obtain⟨q1,f1⟩:=A1 hb1
  obtain⟨q2,f2⟩:=A1 hb2
  obtain⟨q3,f3⟩:=A1 hb3
  clear hb1 hb2 hb3
  obtain⟨z0,z1,z2⟩:w.heap.size<wc.heap.size∧w.heap.size+1<wc.heap.size∧w.heap.size+1+1<wc.heap.size:=by omega
  obtain⟨t0,t1,t2,_⟩:=ltx z2
  cases hre:rel.toList.isEmpty
  ·have hres:Hid (AJ s ⟨named,name,⟨sc0,li0,ma0⟩,rel⟩=BG ⟨sc,li,ma⟩ rel):=by have:=hres0.out;rw [hre]at this;unfold Hid;simpa using this
   clear hres0
   rcases ma with _|⟨m,mr⟩
   ·rcases li with _|⟨l,lr⟩
    ·have hres1:Hid (AJ s ⟨named,name,⟨sc0,li0,ma0⟩,rel⟩=none):=hres.out
     go_wp2_with fail
     refine bodyPost_ret (v:= .tuple #[.agg #[.string {data:= #[]}, .slice none 0 0, .slice none 0 0], .bool false]) (by simp [results,Tryz.results7,go_sem,q2]) rfl ?_
     exact Cx.no hres1 (by repeat with_reducible (first|exact Bw.rfl|assumption|refine Bw.al ?_ _|refine Bw.set ?_ (by omega) _ _))
    ·have hres1:Hid (AJ s ⟨named,name,⟨sc0,li0,ma0⟩,rel⟩=some ⟨sc,[⟨l.elem,rel,l.keys⟩],[]⟩):=hres.out
     obtain⟨b,o,a3,c3,a4,c4,ak,ck,rfl,hm,k0,k1,k2,k3,k4,k5,k6,k7⟩:=hat1.look0 hix
     have hbs:b<w.heap.size:=by
      obtain⟨b1,o1,_,_,_,e,hc,_⟩:=hat1.get 0 (by simp)
      cases e
      exact Ah (hi.cell hc.1.1)
     obtain⟨n1,n2,n3⟩:¬(w.heap.size+1=b)∧¬(w.heap.size+1+1=b)∧¬(w.heap.size+1+1+1=b):=by omega
     obtain⟨s0,s1,s2,s3,s4,s5,s6,s7,s8⟩:=ltx (Ah k0:b<wc.heap.size)
     obtain⟨_,hkm,hem⟩:=C8.1 hm
     go_wp2_with fail
     refine bodyPost_ret (v:= .tuple #[.agg #[.string sc, .slice (some {block:=wc.heap.size+1,off:=0}) 1 1, .slice a2 0 d2], .bool true]) (by simp [results,Tryz.results7,go_sem,q2,q3,t0,t1,t2]) rfl ?_
     refine Cx.yes (x2:= .slice a2 0 d2) hres1 (by repeat with_reducible (first|exact Bw.rfl|assumption|refine Bw.al ?_ _|refine Bw.set ?_ (by omega) _ _)) (Bd.2 ⟨hsc, ?_, ?_⟩)
     ·refine E9.one (x1:= .slice a3 l.elem.atom.li.length c3) (x2:= .slice a4 l.elem.atom.ma.length c4) (xk:= .slice ak l.keys.length ck) ?_ (C8.2 ⟨hrel, ?_, ?_⟩)
      ·refine⟨⟨?_, ?_, ?_, ?_, ?_, ?_⟩, ?_, ?_⟩<;>(rw [Bh (by omega)];simp [go_sem])
      ·exact hkm.mono (AY hi)
      ·exact hem.mono (AY hi)
     ·exact RMaps.mono (AY hi) ⟨a2,d2,rfl,hn2,hl2',hc2,hat2⟩
   ·have hres1:Hid (AJ s ⟨named,name,⟨sc0,li0,ma0⟩,rel⟩=some ⟨sc,li,[⟨m.fields,m.elem,rel⟩]⟩):=hres.out
    obtain⟨b,o,af,cf,a3,c3,a4,c4,rfl,hm,k0,k1,k2,k3,k4,k5,k6,k7⟩:=hat2.look0 hix
    have hbs:b<w.heap.size:=by
     obtain⟨b1,o1,_,_,_,e,hc,_⟩:=hat2.get 0 (by simp)
     cases e
     exact Ah (hi.cell hc.1)
    obtain⟨n1,n2,n3⟩:¬(w.heap.size+1=b)∧¬(w.heap.size+1+1=b)∧¬(w.heap.size+1+1+1=b):=by omega
    obtain⟨s0,s1,s2,s3,s4,s5,s6,s7,s8⟩:=ltx (Ah k0:b<wc.heap.size)
    obtain⟨_,hfm,hem⟩:=Cl.1 hm
    go_wp2_with fail
    refine bodyPost_ret (v:= .tuple #[.agg #[.string sc, .slice a1 li.length d1, .slice (some {block:=wc.heap.size+1,off:=0}) 1 1], .bool true]) (by simp [results,Tryz.results7,go_sem,q2,q3,t0,t1,t2]) rfl ?_
    refine Cx.yes (x1:= .slice a1 li.length d1) hres1 (by repeat with_reducible (first|exact Bw.rfl|assumption|refine Bw.al ?_ _|refine Bw.set ?_ (by omega) _ _)) (Bd.2 ⟨hsc, ?_, ?_⟩)
    ·exact E9.mono (AY hi) ⟨a1,d1,rfl,hn1,hl1',hc1',hat1⟩
    ·refine RMaps.one (xf:= .slice af m.fields.length cf) (x1:= .slice a3 m.elem.atom.li.length c3) (x2:= .slice a4 m.elem.atom.ma.length c4) ?_ (Cl.2 ⟨hrel, ?_, ?_⟩)
     ·refine⟨?_,⟨?_, ?_, ?_, ?_, ?_, ?_⟩, ?_⟩<;>(rw [Bh (by omega)];simp [go_sem])
     ·exact hfm.mono (AY hi)
     ·exact hem.mono (AY hi)
  ·have hres:Hid (AJ s ⟨named,name,⟨sc0,li0,ma0⟩,rel⟩=some ⟨sc,li,ma⟩):=by have:=hres0.out;rw [hre]at this;unfold Hid;simpa using this
   go_wp2_with fail
   refine bodyPost_ret (v:= .tuple #[.agg #[.string sc, .slice a1 li.length d1, .slice a2 ma.length d2], .bool true]) (by simp [results,Tryz.results7,go_sem,q2,q3,t0,t1,t2]) rfl ?_
   exact Cx.yes hres (by repeat with_reducible (first|exact Bw.rfl|assumption|refine Bw.al ?_ _|refine Bw.set ?_ (by omega) _ _)) (ha.mono (AY hi))
end
section
open Go.RowKit
def CSingleA (a:Ap):Prop:=∀(H:Hp) (x1 x2:Value) (w:World),Imm H w→BQ H a x1 x2→Calls Tryz.prog 27 #[aggA a x1 x2] w (Pur w (.bool (D5 a)))
def CSingleR (r:As):Prop:=∀(H:Hp) (x1 x2:Value) (w:World),Imm H w→Cy H r x1 x2→Calls Tryz.prog 28 #[E8 r x1 x2] w (Pur w (.bool (DK r)))
theorem Ff (r:As)(hc:CSingleA r.atom):CSingleR r:=by
 intro H x1 x2 w hi hr
 obtain⟨_,_,ha⟩:=BP.1 hr
 rcases r with⟨named,name,atom,rel⟩
 simp only at *
 cases named
 ·go_enter Tryz.func28,Tryz.ntmps28
  go_wp2_with fail
  refine(hc H x1 x2 _ (hi.below A5) ha).mono ?_
  rintro e w1 ⟨rfl,hb1⟩
  go_wp2_with fail
  go_ret
  exact⟨AQ (by simp [DK]),Bw.tr A5 hb1⟩
 ·go_enter Tryz.func28,Tryz.ntmps28
  go_wp2_with fail
  go_ret
  exact⟨AQ (by simp [DK]),A5⟩
theorem singleA_c:∀(z:Nat) (a:Ap),a.sz≤z→CSingleA a:=by
 intro z
 induction z with
 |zero=>intro v hz;have:=v.sz_eq;omega
 |succ z ih=>
  intro a hz H x1 x2 w hi ha
  have hsz:=a.sz_eq
  have HP:=Lib.hid (F3 ha)
  obtain⟨hsc,⟨a1,d1,rfl,hn1,hl1,hc1,hat1⟩,⟨a2,d2,rfl,hn2,hl2,hc2,hat2⟩⟩:=Bd.1 ha
  rcases a with⟨sc,li,ma⟩
  simp only at *
  unfold lim at hl1 hl2
  by_cases hp:AB ⟨sc,li,ma⟩≤1
  case neg=>
   go_enter Tryz.func27,Tryz.ntmps27
   go_wp2_with fail
   refine(HP.out _).mono ?_
   rintro e w1 ⟨rfl,hb1⟩
   have hp1:1<AB ⟨sc,li,ma⟩:=by omega
   clear ih
   go_wp2_with fail
   go_ret
   exact⟨AQ (by simp only [D5];rw [decide_eq_false (by omega:¬(AB ⟨sc,li,ma⟩≤1))];rfl),Bw.tr A5 hb1⟩
  case pos=>
  have hspec:Hid (D5 ⟨sc,li,ma⟩=(F1 li && singleMs ma)):=by simp [Hid,D5,hp]
  have HL:∀l lr,li=l::lr→CSingleR l.elem:=by
   rintro l lr rfl
   exact Ff _ (ih _ (by simp only [szLs]at hsz;have:=l.sz_eq;have:=l.elem.sz_eq;omega))
  have HM:∀m mr,ma=m::mr→CSingleR m.elem∧∀j (h:j<m.fields.length),CSingleR m.fields[j].type:=by
   rintro m mr rfl
   simp only [szMs]at hsz
   have h1:=m.sz_eq
   have h2:=m.elem.sz_eq
   refine⟨Ff _ (ih _ (by omega)),fun j h=>Ff _ (ih _ ?_)⟩
   have h3:=F0 h
   have h4:=m.fields[j].sz_eq
   have h5:=m.fields[j].type.sz_eq
   omega
  have HL:=Lib.hid HL
  have HM:=Lib.hid HM
  clear ih
  go_enter Tryz.func27,Tryz.ntmps27
  go_wp2_with fail
  refine(HP.out _).mono ?_
  rintro e w1 ⟨rfl,hb1⟩
  clear HP
  have hx1:w1.heap[w.heap.size]?=some (.cells #[.string sc, .slice a1 li.length d1, .slice a2 ma.length d2] 28):=A2 hb1 A4
  have hbw1:Bw w w1:=Bw.tr A5 hb1
  have HX1:=Lib.hid hx1
  obtain⟨q1,f1⟩:=A1 hx1
  clear hx1
  have hi1:=hi.below hbw1
  go_upto_region 3 with(fail)
  go_cut [20] (fun s20 wx=>s20= .bool (!F1 li)∧Bw w wx∧wx.heap[w.heap.size]?=some (.cells #[.string sc, .slice a1 li.length d1, .slice a2 ma.length d2] 28))
  case first=>
   rcases li with _|⟨l,lr⟩
   ·go_wp2_with fail
    go_meet
    exact⟨by simp [F1],hbw1,HX1.out⟩
   ·obtain⟨b,o,a3,c3,a4,c4,ak,ck,rfl,hm,k0,k1,k2,k3,k4,k5,k6,k7⟩:=hat1.look0 hi1
    obtain⟨_,hkm,hem⟩:=C8.1 hm
    go_wp2_with fail
    refine(HL.out l lr rfl H _ _ _ hi1 hem).mono ?_
    rintro e w2 ⟨rfl,hb2⟩
    go_wp2_with fail
    go_meet
    exact⟨by rcases l with⟨e,r,k⟩;simp [F1],hbw1.tr hb2,A2 hb2 HX1.out⟩
  case rest=>
   obtain⟨rfl,hbw,hx⟩:=hcut
   clear q1 f1 HX1 hb1 hbw1 hi1
   have HX:=Lib.hid hx
   obtain⟨q1,f1⟩:=A1 hx
   clear hx
   have hi1:=hi.below hbw
   cases hls:F1 li
   ·go_wp2_with fail
    go_ret
    exact⟨AQ (by rw [hspec.out,hls];rfl),hbw⟩
   ·have hspec2:Hid (D5 ⟨sc,li,ma⟩=singleMs ma):=by unfold Hid;rw [hspec.out,hls];rfl
    have HLS:=Lib.hid hls
    clear hls
    rcases ma with _|⟨m,mr⟩
    ·go_wp2_with fail
     go_ret
     exact⟨AQ (by rw [hspec2.out];simp [singleMs]),hbw⟩
    ·obtain⟨b,o,af,cf,a3,c3,a4,c4,rfl,hm,k0,k1,k2,k3,k4,k5,k6,k7⟩:=hat2.look0 hi1
     obtain⟨_,⟨af',cf',e,hnf,hlf,hcf,hatf⟩,hem⟩:=Cl.1 hm
     cases e
     unfold lim at hlf
     obtain⟨hme,hmf⟩:=HM.out m mr rfl
     have HMF:=Lib.hid hmf
     clear hmf
     have hspec3:Hid (D5 ⟨sc,li,m::mr⟩=(DS m.fields && DK m.elem)):=by unfold Hid;rw [hspec2.out];rcases m with⟨f,e,r⟩;simp [singleMs]
     clear hspec hspec2 HM HL
     go_wp2_with fail
     go_loopw [31] (fun i wr=>∃j:Nat,j≤m.fields.length∧i= .int .i64 j∧Hid (DS m.fields=DS (m.fields.drop j))∧Bw wc wr) (fun i _=>m.fields.length - (intOf i).toNat)
     case atStart=>exact⟨0,by omega,rfl,by simp [Hid],Bw.rfl⟩
     case round=>
      rename_i wr
      obtain⟨j,hj,rfl,hd,hb⟩:=hrel
      clear q1 f1 k0 k1 k2 k3 k4 k5 k6 k7
      have hir:=hi.below (hbw.tr hb)
      by_cases hjl:j<m.fields.length
      ·obtain⟨b2,o2,a5,d5,a6,d6,ad,dd,rfl,hv,c0,c1,c2,c3,c4,c5,c6,c7⟩:=hatf.look hir hjl
       have hdr:Hid (m.fields.drop j=m.fields[j]::m.fields.drop (j+1)):=C1 hjl
       obtain⟨_,hvr,_⟩:=C3.1 hv
       have HC:=Lib.hid (HMF.out j hjl)
       cases hq:DK m.fields[j].type
       all_goals
        have HQ:=Lib.hid hq
        clear hq
        go_wp2_with fail
        refine(HC.out H _ _ _ (hir.below A5) hvr).mono ?_
        rintro e w3 ⟨rfl,hb3⟩
        rw [HQ.out]
        go_wp2_with fail
       ·go_ret
        exact⟨AQ (by rw [hspec3.out,hd.out,hdr.out];rcases hf:m.fields[j]with⟨n,t,dd⟩;have:=HQ.out;rw [hf]at this;simp_all [DS]),hbw.tr ((hb.al _).tr hb3)⟩
       ·go_roundw
        case rel=>(repeat apply Exists.intro);exact⟨⟨j+1,by omega,by go_num,by unfold Hid;rw [hd.out,hdr.out];rcases hf:m.fields[j]with⟨n,t,dd⟩;have:=HQ.out;rw [hf]at this;simp_all [DS],(hb.al _).tr hb3⟩,rfl⟩
        case measure=>simp [intOf];omega
      ·have:j=m.fields.length:=by omega
       subst this
       have hx2:=A2 hb HX.out
       obtain⟨q1,f1⟩:=A1 hx2
       clear hx2
       obtain⟨b1,o1,af1,cf1,a31,c31,a41,c41,e1,hm1,k0,k1,k2,k3,k4,k5,k6,k7⟩:=hat2.look0 hir
       cases e1
       obtain⟨_,_,hem1⟩:=Cl.1 hm1
       go_wp2_with fail
       refine(hme H _ _ _ hir hem1).mono ?_
       rintro e w3 ⟨rfl,hb3⟩
       go_wp2_with fail
       go_ret
       exact⟨AQ (by rw [hspec3.out,hd.out];simp [DS]),hbw.tr (hb.tr hb3)⟩
end
section
open Go.RowKit
theorem singleKinds_c (H:Hp)(s:List Ax)(r:As)(xs x1 x2:Value)(w:World)(hi:Imm H w)(hs:DH H s xs)(hr:Cy H r x1 x2):
  Calls Tryz.prog 9 #[E1 xs,E8 r x1 x2] w (Pur w (.bool (De s r))):=by
 obtain⟨a,c,rfl,hnil,hl,hlc,hat⟩:=hs
 unfold lim at hl
 have HR:=Lib.hid (Ff r (singleA_c _ _ (Nat.le_refl _)))
 go_enter Tryz.func9,Tryz.ntmps9
 go_wp2_with fail
 go_loopw [10] (fun i wr=>∃j:Nat,j≤s.length∧i= .int .i64 j∧Hid (Dr s=Dr (s.drop j))∧Bw w wr∧
   wr.heap[w.heap.size+1]?=some (.cells #[.bool r.named, .string r.name, .string r.atom.sc,x1,x2, .string r.rel] 30)) (fun i _=>s.length - (intOf i).toNat)
 case atStart=>exact⟨0,by omega,rfl,by simp [Hid],Am,(by repeat (first|(rw [Ad,if_pos (by simp;done)];done)|rw [Ad,if_neg (by simp;done)]))⟩
 case round=>
  rename_i wr
  obtain⟨j,hj,rfl,hd,hb,hx⟩:=hrel
  have hiw:=hi.below hb
  by_cases hjl:j<s.length
  ·have HX:=Lib.hid hx;clear hx
   obtain⟨b,o,a4,d4,a5,d5,rfl,hv',hns,c0,c1,c2,c3⟩:=hat.look hiw hjl
   have hdr:Hid (s.drop j=s[j]::s.drop (j+1)):=C1 hjl
   have HC:=Lib.hid (singleA_c _ s[j].atom (Nat.le_refl _))
   cases hq:D5 s[j].atom
   all_goals
    have HQ:=Lib.hid hq
    clear hq
    go_wp2_with fail
    refine(HC.out H _ _ _ (hiw.below A5) hv').mono ?_
    rintro e w1 ⟨rfl,hb1⟩
    rw [HQ.out]
    go_wp2_with fail
   ·go_ret
    exact⟨AQ (by unfold De;rw [hd.out,hdr.out];simp [Dr,HQ.out]),(hb.al _).tr hb1⟩
   ·go_roundw
    case rel=>exact⟨j+1,by omega,by go_num,by unfold Hid;rw [hd.out,hdr.out];simp [Dr,HQ.out],(hb.al _).tr hb1,A2 hb1 (A3 HX.out)⟩
    case measure=>simp [intOf];omega
  ·have:j=s.length:=by omega
   subst this
   obtain⟨q1,f1⟩:=A1 hx
   clear hx
   go_wp2_with fail
   refine(HR.out H _ _ _ hiw hr).mono ?_
   rintro e w1 ⟨rfl,hb1⟩
   go_wp2_with fail
   go_ret
   exact⟨AQ (by unfold De;rw [hd.out];simp [Dr]),hb.tr hb1⟩
def COrdA (a:Ap):Prop:=∀(H:Hp) (x1 x2:Value) (w:World),Imm H w→BQ H a x1 x2→Calls Tryz.prog 48 #[aggA a x1 x2] w (Pur w (.bool (Er a)))
theorem ordL_cons (l:B3)(r:List B3):ordLs (l::r)=(Er l.elem.atom && ordLs r):=by
 rcases l with⟨⟨n,m,a,e⟩,b,c⟩;simp only [ordLs]
theorem ordM_cons (l:Bp)(r:List Bp):ordMs (l::r)=(F4 l.fields && Er l.elem.atom && ordMs r):=by
 rcases l with⟨f,⟨n,m,a,e⟩,b⟩;simp only [ordMs]
theorem ordF_cons (l:Au)(r:List Au):F4 (l::r)=(Df l.dflt && Er l.type.atom && F4 r):=by
 rcases l with⟨f,⟨n,m,a,e⟩,b⟩;simp only [F4]
theorem ordA_c:∀(z:Nat) (a:Ap),a.sz≤z→COrdA a:=by
 intro z
 induction z with
 |zero=>intro v hz;have:=v.sz_eq;omega
 |succ z ih=>
  intro a hz H x1 x2 w hi ha
  have hsz:=a.sz_eq
  obtain⟨hsc,⟨a1,d1,rfl,hn1,hl1,hc1,hat1⟩,⟨a2,d2,rfl,hn2,hl2,hc2,hat2⟩⟩:=Bd.1 ha
  rcases a with⟨sc,li,ma⟩
  simp only at *
  unfold lim at hl1 hl2
  have HL:Hid (∀j (h:j<li.length),COrdA li[j].elem.atom):=fun j h=>ih _ (by have:=szLs_get h;have:=li[j].sz_eq;have:=li[j].elem.sz_eq;omega)
  have HM:Hid (∀j (h:j<ma.length),COrdA ma[j].elem.atom∧∀k (g:k<ma[j].fields.length),COrdA ma[j].fields[k].type.atom):=fun j h=>by
   have h1:=szMs_get h
   have h2:=ma[j].sz_eq
   have h3:=ma[j].elem.sz_eq
   refine⟨ih _ (by omega),fun k g=>ih _ ?_⟩
   have h4:=F0 g
   have h5:=ma[j].fields[k].sz_eq
   have h6:=ma[j].fields[k].type.sz_eq
   omega
  clear ih
  have hspec:Hid (Er ⟨sc,li,ma⟩=(ordLs li && ordMs ma)):=by simp [Hid,Er]
  go_enter Tryz.func48,Tryz.ntmps48
  go_wp2_with fail
  go_loopw [12] (fun i wr=>∃j:Nat,j≤li.length∧i= .int .i64 j∧Hid (ordLs li=ordLs (li.drop j))∧Bw w wr∧
    wr.heap[w.heap.size]?=some (.cells #[.string sc, .slice a1 li.length d1, .slice a2 ma.length d2] 28)) (fun i _=>li.length - (intOf i).toNat)
  case atStart=>exact⟨0,by omega,rfl,by simp [Hid],A5,A4⟩
  case round=>
   rename_i wr
   obtain⟨j,hj,rfl,hd,hb,hx⟩:=hrel
   have hiw:=hi.below hb
   by_cases hjl:j<li.length
   ·have HX:=Lib.hid hx;clear hx
    obtain⟨b,o,a3,c3,a4,c4,ak,ck,rfl,hm,k0,k1,k2,k3,k4,k5,k6,k7⟩:=hat1.look hiw hjl
    have hdr:Hid (li.drop j=li[j]::li.drop (j+1)):=C1 hjl
    obtain⟨_,_,hem⟩:=C8.1 hm
    obtain⟨_,_,hem⟩:=BP.1 hem
    have HC:=Lib.hid (HL.out j hjl)
    cases hq:Er li[j].elem.atom
    all_goals
     have HQ:=Lib.hid hq
     clear hq
     go_wp2_with fail
     refine(HC.out H _ _ _ (hiw.below A5) hem).mono ?_
     rintro e w1 ⟨rfl,hb1⟩
     rw [HQ.out]
     go_wp2_with fail
    ·go_ret
     exact⟨AQ (by rw [hspec.out,hd.out,hdr.out,ordL_cons,HQ.out];rfl),(hb.al _).tr hb1⟩
    ·go_roundw
     case rel=>exact⟨j+1,by omega,by go_num,by unfold Hid;rw [hd.out,hdr.out,ordL_cons,HQ.out];rfl,(hb.al _).tr hb1,A2 hb1 (A3 HX.out)⟩
     case measure=>simp [intOf];omega
   ·have:j=li.length:=by omega
    subst this
    have HX:=Lib.hid hx
    obtain⟨q1,f1⟩:=A1 hx
    clear hx
    have hspec2:Hid (Er ⟨sc,li,ma⟩=ordMs ma):=by unfold Hid;rw [hspec.out,hd.out];simp [ordLs]
    clear hspec hd HL
    go_wp2_with fail
    obtain⟨wa,hwa⟩:∃wa:World,wa=wr:=⟨_,rfl⟩
    subst hwa
    go_loopw [25] (fun i wr=>∃j:Nat,j≤ma.length∧i= .int .i64 j∧Hid (ordMs ma=ordMs (ma.drop j))∧Bw w wr) (fun i _=>ma.length - (intOf i).toNat)
    case atStart=>exact⟨0,by omega,rfl,by simp [Hid],hb⟩
    case round=>
     rename_i wr
     obtain⟨j,hj,rfl,hd,hb2⟩:=hrel
     have hiw2:=hi.below hb2
     clear q1 f1
     by_cases hjl:j<ma.length
     ·obtain⟨b,o,af,cf,a3,c3,a4,c4,rfl,hm,k0,k1,k2,k3,k4,k5,k6,k7⟩:=hat2.look hiw2 hjl
      have hdr:Hid (ma.drop j=ma[j]::ma.drop (j+1)):=C1 hjl
      obtain⟨_,⟨af',cf',e,hnf,hlf,hcf,hatf⟩,hem⟩:=Cl.1 hm
      cases e
      unfold lim at hlf
      obtain⟨_,_,hem⟩:=BP.1 hem
      obtain⟨hme,hmf⟩:=HM.out j hjl
      have HMF:=Lib.hid hmf
      clear hmf
      go_wp2_with fail
      obtain⟨wo,hwo⟩:∃wo:World,wo=wr:=⟨_,rfl⟩
      subst hwo
      go_loopw [32] (fun i wr=>∃k:Nat,k≤ma[j].fields.length∧i= .int .i64 k∧Hid (F4 ma[j].fields=F4 (ma[j].fields.drop k))∧Bw wo wr∧
       wr.heap[wo.heap.size]?=some (.cells #[.slice af ma[j].fields.length cf, .bool ma[j].elem.named, .string ma[j].elem.name, .string ma[j].elem.atom.sc, .slice a3 ma[j].elem.atom.li.length c3, .slice a4 ma[j].elem.atom.ma.length c4, .string ma[j].elem.rel, .string ma[j].rel] 48))
       (fun i _=>ma[j].fields.length - (intOf i).toNat)
      case atStart=>exact⟨0,by omega,rfl,by simp [Hid],A5,A4⟩
      case round=>
       rename_i wr
       obtain⟨k,hk,rfl,hdk,hb3,hx⟩:=hrel
       have hbr:=hb2.tr hb3
       have hir:=hi.below hbr
       clear k0 k1 k2 k3 k4 k5 k6 k7
       by_cases hkl:k<ma[j].fields.length
       ·have HX:=Lib.hid hx;clear hx
        obtain⟨b2,o2,a5,d5,a6,d6,ad,dd,rfl,hv,c0,c1,c2,c3,c4,c5,c6,c7⟩:=hatf.look hir hkl
        have hdr2:Hid (ma[j].fields.drop k=ma[j].fields[k]::ma[j].fields.drop (k+1)):=C1 hkl
        obtain⟨_,hvr,hvd⟩:=C3.1 hv
        obtain⟨_,_,hva⟩:=BP.1 hvr
        have HC:=Lib.hid (HMF.out k hkl)
        have HD:=Lib.hid (fun w0 h0=>ords_c ma[j].fields[k].dflt H _ w0 h0 hvd)
        cases hq:Df ma[j].fields[k].dflt
        ·have HQ:=Lib.hid hq
         clear hq
         go_wp2_with fail
         refine(HD.out _ (hir.below A5)).mono ?_
         rintro e w1 ⟨rfl,hb4⟩
         rw [HQ.out]
         go_wp2_with fail
         go_ret
         exact⟨AQ (by rw [hspec2.out,hd.out,hdr.out,ordM_cons,hdk.out,hdr2.out,ordF_cons,HQ.out];rfl),(hbr.al _).tr hb4⟩
        ·have HQ:=Lib.hid hq
         clear hq
         cases hq2:Er ma[j].fields[k].type.atom
         all_goals
          have HQ2:=Lib.hid hq2
          clear hq2
          go_wp2_with fail
          refine(HD.out _ (hir.below A5)).mono ?_
          rintro e w1 ⟨rfl,hb4⟩
          rw [HQ.out]
          obtain⟨q4,f4⟩:=bcell hb4
          have hz4:=hb4.size
          simp at hz4
          go_wp2_with fail
          refine(HC.out H _ _ _ ((hir.below A5).below hb4) hva).mono ?_
          rintro e w5 ⟨rfl,hb5⟩
          rw [HQ2.out]
          go_wp2_with fail
         ·go_ret
          exact⟨AQ (by rw [hspec2.out,hd.out,hdr.out,ordM_cons,hdk.out,hdr2.out,ordF_cons,HQ.out,HQ2.out];rfl),((hbr.al _).tr hb4).tr hb5⟩
         ·go_roundw
          case rel=>exact⟨k+1,by omega,by go_num,by unfold Hid;rw [hdk.out,hdr2.out,ordF_cons,HQ.out,HQ2.out];rfl,((hb3.al _).tr hb4).tr hb5,A2 hb5 (A2 hb4 (A3 HX.out))⟩
          case measure=>simp [intOf];omega
       ·have:k=ma[j].fields.length:=by omega
        subst this
        obtain⟨q3,f3⟩:=A1 hx
        clear hx
        cases hq2:Er ma[j].elem.atom
        all_goals
         have HQ2:=Lib.hid hq2
         clear hq2
         go_wp2_with fail
         refine(hme H _ _ _ hir hem).mono ?_
         rintro e w5 ⟨rfl,hb5⟩
         rw [HQ2.out]
         go_wp2_with fail
        ·go_ret
         exact⟨AQ (by rw [hspec2.out,hd.out,hdr.out,ordM_cons,hdk.out,HQ2.out];simp [F4]),hbr.tr hb5⟩
        ·go_roundw
         case rel=>exact⟨j+1,by omega,by go_num,by unfold Hid;rw [hd.out,hdr.out,ordM_cons,hdk.out,HQ2.out];simp [F4],hbr.tr hb5⟩
         case measure=>simp [intOf];omega
     ·go_wp2_with fail
      go_ret
      have:j=ma.length:=by omega
      subst this
      exact⟨AQ (by rw [hspec2.out,hd.out];simp [ordMs]),hb2⟩
theorem ordKeys_c (H:Hp)(s:List Ax)(r:As)(v:GV)(xs x1 x2 x4 x5:Value)(w:World)(hi:Imm H w)(hs:DH H s xs)(hr:Cy H r x1 x2)(hv:RV H v x4 x5):
  Calls Tryz.prog 25 #[E1 xs,E8 r x1 x2,Ar v x4 x5] w (Pur w (.bool (ED s r v))):=by
 obtain⟨a,c,rfl,hnil,hl,hlc,hat⟩:=hs
 unfold lim at hl
 obtain⟨_,_,hra⟩:=BP.1 hr
 have HR:=Lib.hid (ordA_c _ r.atom (Nat.le_refl _))
 have HV:=Lib.hid (ord_c _ v (Nat.le_refl _))
 unfold Ar at *
 go_enter Tryz.func25,Tryz.ntmps25
 go_wp2_with fail
 go_loopw [12] (fun i wr=>∃j:Nat,j≤s.length∧i= .int .i64 j∧Hid (ordDs s=ordDs (s.drop j))∧Bw w wr∧
   wr.heap[w.heap.size+1]?=some (.cells #[.bool r.named, .string r.name, .string r.atom.sc,x1,x2, .string r.rel] 30)∧
   wr.heap[w.heap.size+1+1]?=some (.cells #[.int .i64 v.k, .int .i64 v.n, .float .f64 v.f, .string v.s,x4,x5] 35)) (fun i _=>s.length - (intOf i).toNat)
 case atStart=>exact⟨0,by omega,rfl,by simp [Hid],Co,(by repeat (first|(rw [Ad,if_pos (by simp;done)];done)|rw [Ad,if_neg (by simp;done)])),(by repeat (first|(rw [Ad,if_pos (by simp;done)];done)|rw [Ad,if_neg (by simp;done)]))⟩
 case round=>
  rename_i wr
  obtain⟨j,hj,rfl,hd,hb,hx,hy⟩:=hrel
  have hiw:=hi.below hb
  by_cases hjl:j<s.length
  ·have HX:=Lib.hid hx;clear hx
   have HY:=Lib.hid hy;clear hy
   obtain⟨b,o,a4,d4,a5,d5,rfl,hv',hns,c0,c1,c2,c3⟩:=hat.look hiw hjl
   have hdr:Hid (s.drop j=s[j]::s.drop (j+1)):=C1 hjl
   have HC:=Lib.hid (ordA_c _ s[j].atom (Nat.le_refl _))
   cases hq:Er s[j].atom
   all_goals
    have HQ:=Lib.hid hq
    clear hq
    go_wp2_with fail
    refine(HC.out H _ _ _ (hiw.below A5) hv').mono ?_
    rintro e w1 ⟨rfl,hb1⟩
    rw [HQ.out]
    go_wp2_with fail
   ·go_ret
    exact⟨AQ (by unfold ED;rw [hd.out,hdr.out];simp [ordDs,HQ.out]),(hb.al _).tr hb1⟩
   ·go_roundw
    case rel=>exact⟨j+1,by omega,by go_num,by unfold Hid;rw [hd.out,hdr.out];simp [ordDs,HQ.out],(hb.al _).tr hb1,A2 hb1 (A3 HX.out),A2 hb1 (A3 HY.out)⟩
    case measure=>simp [intOf];omega
  ·have:j=s.length:=by omega
   subst this
   have HY:=Lib.hid hy
   obtain⟨q1,f1⟩:=A1 hx
   clear hx hy
   have hspec:Hid (ED s r v=(Er r.atom && ordV v)):=by unfold Hid ED;rw [hd.out];simp [ordDs]
   cases hq:Er r.atom
   ·have HQ:=Lib.hid hq
    clear hq
    go_wp2_with fail
    refine(HR.out H _ _ _ hiw hra).mono ?_
    rintro e w1 ⟨rfl,hb1⟩
    rw [HQ.out]
    go_wp2_with fail
    go_ret
    exact⟨AQ (by rw [hspec.out,HQ.out];rfl),hb.tr hb1⟩
   ·have HQ:=Lib.hid hq
    clear hq
    go_wp2_with fail
    refine(HR.out H _ _ _ hiw hra).mono ?_
    rintro e w1 ⟨rfl,hb1⟩
    rw [HQ.out]
    obtain⟨q2,f2⟩:=A1 (A2 hb1 HY.out)
    go_wp2_with fail
    refine(HV.out H _ _ _ (hiw.below hb1) hv).mono ?_
    rintro e w2 ⟨rfl,hb2⟩
    go_wp2_with fail
    go_ret
    exact⟨AQ (by rw [hspec.out,HQ.out];simp),(hb.tr hb1).tr hb2⟩
end
section
open Go.RowKit
def nullB (v:GV):Bool:= !D6 v && (v.k !=5) && (v.k !=6)
def part1 (a:Ap)(v:GV):Bool:=decide (0<a.ma.length) && (nullB v||v.k==6)
def part2 (a:Ap)(v:GV):Bool:= !a.sc.toList.isEmpty && (nullB v||D6 v)
def part3 (a:Ap)(v:GV):Bool:=decide (0<a.li.length) && (nullB v||v.k==5)
def BN (a:Ap)(v:GV):Int:=if part1 a v then 1 else if part2 a v then 2 else if part3 a v then 3 else 0
theorem partFor_c (H:Hp)(a:Ap)(v:GV)(x1 x2 x4 x5:Value)(w:World)(ha:BQ H a x1 x2):Calls Tryz.prog 80 #[aggA a x1 x2,Ar v x4 x5] w (Pur w (.int .i64 (BN a v))):=by
 obtain⟨hsc,⟨a1,d1,rfl,hn1,hl1,hc1,hat1⟩,⟨a2,d2,rfl,hn2,hl2,hc2,hat2⟩⟩:=Bd.1 ha
 have HS:=Lib.hid (scalar_c v x4 x5)
 clear hat1 hat2 ha
 rcases a with⟨sc,li,ma⟩
 rcases v with⟨k,n,f,s,ks,l⟩
 unfold Ar at *
 simp only at *
 unfold lim at hl1 hl2
 go_enter Tryz.func80,Tryz.ntmps80
 go_upto_region 1 with(fail)
 go_cut [5] (fun s5 wx=>∃nb,Hid (nullB ⟨k,n,f,s,ks,l⟩=nb)∧s5= .bool nb∧Bw w wx∧wx.heap[w.heap.size]?=some (.cells #[.string sc, .slice a1 li.length d1, .slice a2 ma.length d2] 28)∧
  wx.heap[w.heap.size+1]?=some (.cells #[.int .i64 k, .int .i64 n, .float .f64 f, .string s,x4,x5] 35))
 case first=>
  cases hs:D6 ⟨k,n,f,s,ks,l⟩
  all_goals
   cases h5:(k !=5)
  all_goals
   cases h6:(k !=6)
  all_goals
   have HQ:=Lib.hid hs
   clear hs
   go_wp2_with fail
   refine(HS.out _).mono ?_
   rintro e w1 ⟨rfl,hb1⟩
   rw [HQ.out]
   have hx:=A2 (k:=w.heap.size) (p:= .cells #[.string sc, .slice a1 li.length d1, .slice a2 ma.length d2] 28) hb1 (by repeat (first|(rw [Ad,if_pos (by simp;done)];done)|rw [Ad,if_neg (by simp;done)]))
   have hy:=A2 (k:=w.heap.size+1) (p:= .cells #[.int .i64 k, .int .i64 n, .float .f64 f, .string s,x4,x5] 35) hb1 (by repeat (first|(rw [Ad,if_pos (by simp;done)];done)|rw [Ad,if_neg (by simp;done)]))
   have HX:=Lib.hid hx;have HY:=Lib.hid hy
   obtain⟨q2,f2⟩:=A1 hy
   clear hx hy
   go_wp2_with fail
   go_meet
   exact⟨_,rfl,by simp [nullB,HQ.out,h5,h6],Bw.tr Am hb1,HX.out,HY.out⟩
 case rest=>
  obtain⟨nb,hnb,rfl,hbw,hx,hy⟩:=hcut
  have HX:=Lib.hid hx;have HY:=Lib.hid hy
  obtain⟨q1,f1⟩:=A1 hx
  obtain⟨q2,f2⟩:=A1 hy
  clear hx hy
  have hz0:w.heap.size+1<wc.heap.size:=A0 HY.out
  go_upto_region 2 with(fail)
  go_cut [19] (fun s19 wx=>s19= .bool (part1 ⟨sc,li,ma⟩ ⟨k,n,f,s,ks,l⟩)∧wx=wc)
  case first=>
   cases hm2:decide (0<ma.length)
   all_goals
    cases nb
   all_goals
    have hm:=hm2
    simp only [decide_eq_true_eq,decide_eq_false_iff_not]at hm
    go_wp2_with fail
    go_meet
    exact⟨by simp [part1,hm,hnb.out],rfl⟩
  case rest=>
   obtain⟨rfl,rfl⟩:=hcut
   cases hp1:part1 ⟨sc,li,ma⟩ ⟨k,n,f,s,ks,l⟩
   ·have HP1:=Lib.hid hp1
    clear hp1
    go_upto_region 4 with(fail)
    go_cut [32] (fun s32 wx=>s32= .bool (part2 ⟨sc,li,ma⟩ ⟨k,n,f,s,ks,l⟩)∧Bw wc wx)
    case first=>
     cases hsce:sc.toList.isEmpty
     ·have hsn:(!sc.toList.isEmpty)=true:=by rw [hsce];rfl
      cases nb
      ·go_wp2_with fail
       refine(HS.out _).mono ?_
       rintro e w1 ⟨rfl,hb1⟩
       go_wp2_with fail
       go_meet
       exact⟨by simp [part2,hsce,hnb.out],hb1⟩
      ·go_wp2_with fail
       go_meet
       exact⟨by simp [part2,hsce,hnb.out],Bw.rfl⟩
     ·have hsn:(!sc.toList.isEmpty)=false:=by rw [hsce];rfl
      go_wp2_with fail
      go_meet
      exact⟨by simp [part2,hsce],Bw.rfl⟩
    case rest=>
     obtain⟨rfl,hb2⟩:=hcut
     have hx2:=A2 hb2 HX.out
     have hy2:=A2 hb2 HY.out
     have hbw2:=hbw.tr hb2
     clear q1 f1 q2 f2 HS
     obtain⟨q1,f1⟩:=A1 hx2
     obtain⟨q2,f2⟩:=A1 hy2
     clear hx2 hy2
     cases hp2:part2 ⟨sc,li,ma⟩ ⟨k,n,f,s,ks,l⟩
     ·have HP2:=Lib.hid hp2
      clear hp2
      cases hm2:decide (0<li.length)
      all_goals
       cases nb
      all_goals
       cases h5:(k==5)
      all_goals
       have hm:=hm2
       simp only [decide_eq_true_eq,decide_eq_false_iff_not]at hm
       go_wp2_with fail
       go_ret
       exact⟨retI (by unfold BN;rw [HP1.out,HP2.out];simp [part3,hm,hnb.out,h5]),hbw2⟩
     ·go_wp2_with fail
      go_ret
      exact⟨retI (by unfold BN;rw [HP1.out,hp2];rfl),hbw2⟩
   ·go_wp2_with fail
    go_ret
    exact⟨retI (by unfold BN;rw [hp1];rfl),hbw⟩
end
end Go.Proofs.YtmghkmhgpmcoaaaGreat
