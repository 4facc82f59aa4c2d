/- What the claim's theorem 'proved' rests on: Tree, ValA, JEq, TreeMap, Frame. -/
import Derived.MapKept
import Derived.Deep.QuietTactic
import Derived.BigQuiet
import Derived.Lib.Hide
import Derived.Maps.RangeRun
import Derived.Test.YtmghkmhgpmcoaaaGreatP00
import Derived.Test.YtmghkmhgpmcoaaaGreatP07
set_option linter.unusedVariables false
set_option linter.unusedSimpArgs false
set_option maxRecDepth 100000
set_option maxHeartbeats 10000000
namespace Go.Proofs.YtmghkmhgpmcoaaaGreat
section
open Go.RowKit Go.MapKept
instance:LawfulBEq ByteArray where
 eq_of_beq h:=(bytes_beq _ _).1 h
 rfl:=(bytes_beq _ _).2 rfl
instance:DecidableEq ByteArray:=fun a b=>decidable_of_iff ((a==b)=true) (bytes_beq a b)
inductive JT where
 |null
 |bool (b:Bool)
 |int (n:Int)
 |flt (f:Nat)
 |str (s:ByteArray)
 |list (l:List JT)
 |map (ks:List ByteArray) (vs:List JT)
abbrev tAny:TypeId:=20
abbrev tInt64:TypeId:=2
abbrev tFloat:TypeId:=31
abbrev tList:TypeId:=189
abbrev tMap:TypeId:=190
mutual
def RJ (H:Hp):JT→Value→Prop
 | .null,x=>x= .nilIface
 | .bool b,x=>x= .iface 4 (.bool b)
 | .int n,x=>x= .iface 2 (.int .i64 n)∧I64 n
 | .flt f,x=>x= .iface 31 (.float .f64 f)∧f<18446744073709551616
 | .str s,x=>x= .iface 9 (.string s)∧s.size≤lim
 | .list l,x=>∃a c,x= .iface 189 (.slice a l.length c)∧(a=none→c=0∧l.length=0)∧l.length≤lim∧l.length≤c∧Ef H a 0 l
 | .map ks vs,x=>∃r es ck,x= .iface 190 (.map (some r))∧H r=some (.map es ck)∧es.size=ks.length∧ks.length=vs.length∧ks.length≤lim∧ks.Nodup∧Stamped es ck∧DI H es ks 0 vs
def Ef (H:Hp)(a:Option Addr):Nat→List JT→Prop
 |_,[]=>True
 |i,t::r=>(∃b o x,a=some ⟨b,o,none⟩∧A8 H b (o+i)=some x∧RJ H t x)∧Ef H a (i+1) r
def DI (H:Hp)(es:Array MapEntry)(ks:List ByteArray):Nat→List JT→Prop
 |_,[]=>True
 |i,t::r=>(∃e k,es[i]?=some e∧ks[i]?=some k∧e.key= .string k∧k.size≤lim∧RJ H t e.val)∧DI H es ks (i+1) r
end
mutual
def JT.sz:JT→Nat
 | .list l=>1+szJs l
 | .map _ vs=>1+szJs vs
 |_=>1
def szJs:List JT→Nat
 |[]=>0
 |t::r=>t.sz+szJs r
end
theorem CJ:∀{l:List JT} {j:Nat} (h:j<l.length),(l[j]).sz≤szJs l
 |[],_,h=>by simp at h
 |v::r,0,_=>by simp only [szJs,List.getElem_cons_zero];omega
 |v::r,j+1,h=>by
  have:=CJ (l:=r) (j:=j) (by simpa using h)
  simp only [szJs,List.getElem_cons_succ];omega
theorem Ef.get {H:Hp}{a:Option Addr}:∀{l:List JT} {i:Nat},Ef H a i l→∀j (h:j<l.length),∃b o x,a=some ⟨b,o,none⟩∧A8 H b (o+(i+j))=some x∧RJ H l[j] x
 |[],_,_,j,h=>by simp at h
 |_::r,i,h,j,hj=>by
  simp only [Ef]at h
  cases j with
  |zero=>exact h.1
  |succ j=>
   have:=Ef.get h.2 j (by simpa using hj)
   simpa [Nat.add_assoc,Nat.add_comm 1 j]using this
theorem Ef.mk {H:Hp}{a:Option Addr}:∀{l:List JT} {i:Nat},(∀j (h:j<l.length),∃b o x,a=some ⟨b,o,none⟩∧A8 H b (o+(i+j))=some x∧RJ H l[j] x)→Ef H a i l
 |[],_,_=>by simp only [Ef]
 |_::r,i,h=>by
  simp only [Ef]
  refine⟨h 0 (by simp),Ef.mk fun j hj=> ?_⟩
  have:=h (j+1) (by simpa using hj)
  simpa [Nat.add_assoc,Nat.add_comm 1 j]using this
theorem DI.get {H:Hp}{es:Array MapEntry}{ks:List ByteArray}:∀{l:List JT} {i:Nat},DI H es ks i l→∀j (h:j<l.length),∃e k,es[i+j]?=some e∧ks[i+j]?=some k∧e.key= .string k∧k.size≤lim∧RJ H l[j] e.val
 |[],_,_,j,h=>by simp at h
 |_::r,i,h,j,hj=>by
  simp only [DI]at h
  cases j with
  |zero=>exact h.1
  |succ j=>
   have:=DI.get h.2 j (by simpa using hj)
   simpa [Nat.add_assoc,Nat.add_comm 1 j]using this
theorem DI.mk {H:Hp}{es:Array MapEntry}{ks:List ByteArray}:∀{l:List JT} {i:Nat},(∀j (h:j<l.length),∃e k,es[i+j]?=some e∧ks[i+j]?=some k∧e.key= .string k∧k.size≤lim∧RJ H l[j] e.val)→DI H es ks i l
 |[],_,_=>by simp only [DI]
 |_::r,i,h=>by
  simp only [DI]
  refine⟨h 0 (by simp),DI.mk fun j hj=> ?_⟩
  have:=h (j+1) (by simpa using hj)
  simpa [Nat.add_assoc,Nat.add_comm 1 j]using this
mutual
theorem RJ.mono {H K:Hp}(hk:Hle H K):∀{v:JT} {x:Value},RJ H v x→RJ K v x
 | .null,_,h=>by simp only [RJ]at h⊢;exact h
 | .bool _,_,h=>by simp only [RJ]at h⊢;exact h
 | .int _,_,h=>by simp only [RJ]at h⊢;exact h
 | .flt _,_,h=>by simp only [RJ]at h⊢;exact h
 | .str _,_,h=>by simp only [RJ]at h⊢;exact h
 | .list l,x,h=>by
  simp only [RJ]at h⊢
  obtain⟨a,c,e,h1,h2,h3,h4⟩:=h
  exact⟨a,c,e,h1,h2,h3,Ef.mono hk h4⟩
 | .map ks vs,x,h=>by
  simp only [RJ]at h⊢
  obtain⟨r,es,ck,e,h1,h2,h3,h4,h5,h6,h7⟩:=h
  exact⟨r,es,ck,e,hk _ _ h1,h2,h3,h4,h5,h6,DI.mono hk h7⟩
theorem Ef.mono {H K:Hp}(hk:Hle H K){a:Option Addr}:∀{l:List JT} {i:Nat},Ef H a i l→Ef K a i l
 |[],_,_=>by simp only [Ef]
 |v::r,i,h=>by
  simp only [Ef]at h⊢
  obtain⟨⟨b,o,x,e,hc,h1⟩,h2⟩:=h
  exact⟨⟨b,o,x,e,A7 hk hc,RJ.mono hk h1⟩,Ef.mono hk h2⟩
theorem DI.mono {H K:Hp}(hk:Hle H K){es:Array MapEntry}{ks:List ByteArray}:∀{l:List JT} {i:Nat},DI H es ks i l→DI K es ks i l
 |[],_,_=>by simp only [DI]
 |v::r,i,h=>by
  simp only [DI]at h⊢
  obtain⟨⟨e,k,h1,h2,h3,h4,h5⟩,h6⟩:=h
  exact⟨⟨e,k,h1,h2,h3,h4,RJ.mono hk h5⟩,DI.mono hk h6⟩
end
end
section
open Go.RowKit
abbrev tVU:TypeId:=184
def RVal (H:Hp)(t:JT)(X:Value):Prop:=∃b x,X= .iface 184 (.pointer (some ⟨b,0,none⟩))∧A8 H b 0=some x∧RJ H t x
theorem RVal.mono {H K:Hp}(hk:Hle H K){t:JT}{X:Value}(h:RVal H t X):RVal K t X:=by
 obtain⟨b,x,e,hc,hx⟩:=h
 exact⟨b,x,e,A7 hk hc,hx.mono hk⟩
def JT.isBool:JT→Bool| .bool _=>true|_=>false
def JT.isInt:JT→Bool| .int _=>true|_=>false
def JT.isFlt:JT→Bool| .flt _=>true|_=>false
def JT.isStr:JT→Bool| .str _=>true|_=>false
def JT.isList:JT→Bool| .list _=>true|_=>false
def JT.isMap:JT→Bool| .map _ _=>true|_=>false
def JT.isNull:JT→Bool| .null=>true|_=>false
theorem B6 (t:JT)(H:Hp)(x:Value)(w:World)(hx:RJ H t x):Calls Tryz.prog 266 #[.agg #[x]] w (Pur w (.bool t.isBool)):=by
 cases t<;>simp only [RJ]at hx
 case list l=>obtain⟨a,c,rfl,_⟩:=hx;go_enter Tryz.func266,Tryz.ntmps266;go_wp2;go_ret;exact⟨rfl,A5⟩
 case map ks vs=>obtain⟨r,es,ck,rfl,_⟩:=hx;go_enter Tryz.func266,Tryz.ntmps266;go_wp2;go_ret;exact⟨rfl,A5⟩
 case null=>subst hx;go_enter Tryz.func266,Tryz.ntmps266;go_wp2;go_ret;exact⟨rfl,A5⟩
 case bool b=>subst hx;go_enter Tryz.func266,Tryz.ntmps266;go_wp2;go_ret;exact⟨rfl,A5⟩
 all_goals (obtain⟨rfl,_⟩:=hx;go_enter Tryz.func266,Tryz.ntmps266;go_wp2;go_ret;exact⟨rfl,A5⟩)
theorem AM (t:JT)(H:Hp)(x:Value)(w:World)(hx:RJ H t x):Calls Tryz.prog 268 #[.agg #[x]] w (Pur w (.bool t.isInt)):=by
 cases t<;>simp only [RJ]at hx
 case list l=>obtain⟨a,c,rfl,_⟩:=hx;go_enter Tryz.func268,Tryz.ntmps268;go_wp2;go_ret;exact⟨rfl,A5⟩
 case map ks vs=>obtain⟨r,es,ck,rfl,_⟩:=hx;go_enter Tryz.func268,Tryz.ntmps268;go_wp2;go_ret;exact⟨rfl,A5⟩
 case null=>subst hx;go_enter Tryz.func268,Tryz.ntmps268;go_wp2;go_ret;exact⟨rfl,A5⟩
 case bool b=>subst hx;go_enter Tryz.func268,Tryz.ntmps268;go_wp2;go_ret;exact⟨rfl,A5⟩
 all_goals (obtain⟨rfl,_⟩:=hx;go_enter Tryz.func268,Tryz.ntmps268;go_wp2;go_ret;exact⟨rfl,A5⟩)
theorem AA (t:JT)(H:Hp)(x:Value)(w:World)(hx:RJ H t x):Calls Tryz.prog 267 #[.agg #[x]] w (Pur w (.bool t.isFlt)):=by
 cases t<;>simp only [RJ]at hx
 case list l=>obtain⟨a,c,rfl,_⟩:=hx;go_enter Tryz.func267,Tryz.ntmps267;go_wp2;go_ret;exact⟨rfl,A5⟩
 case map ks vs=>obtain⟨r,es,ck,rfl,_⟩:=hx;go_enter Tryz.func267,Tryz.ntmps267;go_wp2;go_ret;exact⟨rfl,A5⟩
 case null=>subst hx;go_enter Tryz.func267,Tryz.ntmps267;go_wp2;go_ret;exact⟨rfl,A5⟩
 case bool b=>subst hx;go_enter Tryz.func267,Tryz.ntmps267;go_wp2;go_ret;exact⟨rfl,A5⟩
 all_goals (obtain⟨rfl,_⟩:=hx;go_enter Tryz.func267,Tryz.ntmps267;go_wp2;go_ret;exact⟨rfl,A5⟩)
theorem B5 (t:JT)(H:Hp)(x:Value)(w:World)(hx:RJ H t x):Calls Tryz.prog 272 #[.agg #[x]] w (Pur w (.bool t.isStr)):=by
 cases t<;>simp only [RJ]at hx
 case list l=>obtain⟨a,c,rfl,_⟩:=hx;go_enter Tryz.func272,Tryz.ntmps272;go_wp2;go_ret;exact⟨rfl,A5⟩
 case map ks vs=>obtain⟨r,es,ck,rfl,_⟩:=hx;go_enter Tryz.func272,Tryz.ntmps272;go_wp2;go_ret;exact⟨rfl,A5⟩
 case null=>subst hx;go_enter Tryz.func272,Tryz.ntmps272;go_wp2;go_ret;exact⟨rfl,A5⟩
 case bool b=>subst hx;go_enter Tryz.func272,Tryz.ntmps272;go_wp2;go_ret;exact⟨rfl,A5⟩
 all_goals (obtain⟨rfl,_⟩:=hx;go_enter Tryz.func272,Tryz.ntmps272;go_wp2;go_ret;exact⟨rfl,A5⟩)
theorem Bx (t:JT)(H:Hp)(x:Value)(w:World)(hx:RJ H t x):Calls Tryz.prog 269 #[.agg #[x]] w (Pur w (.bool t.isList)):=by
 cases t<;>simp only [RJ]at hx
 case list l=>obtain⟨a,c,rfl,_⟩:=hx;go_enter Tryz.func269,Tryz.ntmps269;go_wp2;go_ret;exact⟨rfl,A5⟩
 case map ks vs=>obtain⟨r,es,ck,rfl,_⟩:=hx;go_enter Tryz.func269,Tryz.ntmps269;go_wp2;go_ret;exact⟨rfl,A5⟩
 case null=>subst hx;go_enter Tryz.func269,Tryz.ntmps269;go_wp2;go_ret;exact⟨rfl,A5⟩
 case bool b=>subst hx;go_enter Tryz.func269,Tryz.ntmps269;go_wp2;go_ret;exact⟨rfl,A5⟩
 all_goals (obtain⟨rfl,_⟩:=hx;go_enter Tryz.func269,Tryz.ntmps269;go_wp2;go_ret;exact⟨rfl,A5⟩)
theorem CH (t:JT)(H:Hp)(x:Value)(w:World)(hx:RJ H t x):Calls Tryz.prog 270 #[.agg #[x]] w (Pur w (.bool t.isMap)):=by
 cases t<;>simp only [RJ]at hx
 case list l=>obtain⟨a,c,rfl,_⟩:=hx;go_enter Tryz.func270,Tryz.ntmps270;go_wp2;go_ret;exact⟨rfl,A5⟩
 case map ks vs=>obtain⟨r,es,ck,rfl,_⟩:=hx;go_enter Tryz.func270,Tryz.ntmps270;go_wp2;go_ret;exact⟨rfl,A5⟩
 case null=>subst hx;go_enter Tryz.func270,Tryz.ntmps270;go_wp2;go_ret;exact⟨rfl,A5⟩
 case bool b=>subst hx;go_enter Tryz.func270,Tryz.ntmps270;go_wp2;go_ret;exact⟨rfl,A5⟩
 all_goals (obtain⟨rfl,_⟩:=hx;go_enter Tryz.func270,Tryz.ntmps270;go_wp2;go_ret;exact⟨rfl,A5⟩)
theorem AU (t:JT)(H:Hp)(x:Value)(w:World)(hx:RJ H t x):Calls Tryz.prog 271 #[.agg #[x]] w (Pur w (.bool t.isNull)):=by
 cases t<;>simp only [RJ]at hx
 case list l=>obtain⟨a,c,rfl,_⟩:=hx;go_enter Tryz.func271,Tryz.ntmps271;go_wp2;go_ret;exact⟨rfl,A5⟩
 case map ks vs=>obtain⟨r,es,ck,rfl,_⟩:=hx;go_enter Tryz.func271,Tryz.ntmps271;go_wp2;go_ret;exact⟨rfl,A5⟩
 case null=>subst hx;go_enter Tryz.func271,Tryz.ntmps271;go_wp2;go_ret;exact⟨rfl,A5⟩
 case bool b=>subst hx;go_enter Tryz.func271,Tryz.ntmps271;go_wp2;go_ret;exact⟨rfl,A5⟩
 all_goals (obtain⟨rfl,_⟩:=hx;go_enter Tryz.func271,Tryz.ntmps271;go_wp2;go_ret;exact⟨rfl,A5⟩)
theorem asBool_c b (w:World):Calls Tryz.prog 258 #[.agg #[.iface 4 (.bool b)]] w (Pur w (.bool b)):=by
 go_enter Tryz.func258,Tryz.ntmps258
 go_wp2;go_ret;exact⟨rfl,A5⟩
theorem asStr_c b (w:World):Calls Tryz.prog 265 #[.agg #[.iface 9 (.string b)]] w (Pur w (.string b)):=by
 go_enter Tryz.func265,Tryz.ntmps265
 go_wp2;go_ret;exact⟨rfl,A5⟩
theorem asFlt_c b (w:World):Calls Tryz.prog 259 #[.agg #[.iface 31 (.float .f64 b)]] w (Pur w (.float .f64 b)):=by
 go_enter Tryz.func259,Tryz.ntmps259
 go_wp2;go_ret;exact⟨rfl,A5⟩
theorem asInt_c b (w:World):Calls Tryz.prog 260 #[.agg #[.iface 2 (.int .i64 b)]] w (Pur w (.int .i64 b)):=by
 go_enter Tryz.func260,Tryz.ntmps260
 go_wp2;go_ret;exact⟨rfl,A5⟩
theorem asList_c a n c (u:Value)(w:World):Calls Tryz.prog 262 #[.agg #[.iface 189 (.slice a n c)],u] w (Pur w (.iface 445 (.slice a n c))):=by
 go_enter Tryz.func262,Tryz.ntmps262
 go_wp2;go_ret;exact⟨rfl,A5⟩
theorem asMap_c r (u:Value)(w:World):Calls Tryz.prog 264 #[.agg #[.iface 190 (.map r)],u] w (Pur w (.iface 446 (.map r))):=by
 go_enter Tryz.func264,Tryz.ntmps264
 go_wp2;go_ret;exact⟨rfl,A5⟩
theorem unstr_c (x:Value)(w:World):Calls Tryz.prog 273 #[.agg #[x]] w (Pur w x):=by
 go_enter Tryz.func273,Tryz.ntmps273
 go_wp2;go_ret;exact⟨rfl,A5⟩
theorem allocVU_c (u:Value)(w:World):Calls Tryz.prog 86 #[u] w fun e w'=>e= .returned (.pointer (some ⟨w.heap.size,0,none⟩))∧w'=w.alloc (.cells #[.nilIface] 244):=by
 go_enter Tryz.func86,Tryz.ntmps86
 go_wp2;go_ret;exact⟨rfl,rfl⟩
theorem RJ.oneCell {H:Hp}{t:JT}{x:Value}(h:RJ H t x):x.oneCell'=true:=by
 cases t<;>simp only [RJ]at h
 case list l=>obtain⟨a,c,rfl,_⟩:=h;rfl
 case map ks vs=>obtain⟨r,es,ck,rfl,_⟩:=h;rfl
 case null=>subst h;rfl
 case bool b=>subst h;rfl
 all_goals (obtain⟨rfl,_⟩:=h;rfl)
end
section
open Go Go.RowKit
def BZ (a b:Nat):Bool:=FloatKind.f64.format.order a b==some .eq
def toF (n:Int):Nat:=floatOfInt .f64 n
mutual
def eqJ:JT→JT→Bool
 | .null, .null=>true
 | .bool a, .bool b=>a==b
 | .int a, .int b=>a==b
 | .flt a, .flt b=>BZ a b
 | .flt a, .int b=>BZ a (toF b)
 | .int a, .flt b=>BZ (toF a) b
 | .str a, .str b=>a.toList==b.toList
 | .list a, .list b=>decide (a.length=b.length) && eqJs a b
 | .map ka va, .map kb vb=>decide (ka.length=kb.length) && eqJm ka va kb vb
 |_,_=>false
def eqJs:List JT→List JT→Bool
 |a::l,b::m=>eqJ a b && eqJs l m
 |_,_=>true
def eqJm:List ByteArray→List JT→List ByteArray→List JT→Bool
 |ka,va,k::kb,u::vb=>(match va[ka.idxOf k]? with|some v=>eqJ v u|none=>false) && eqJm ka va kb vb
 |_,_,_,_=>true
end
theorem C7 {t u:JT}(hf:t.isFlt=false)(hg:u.isFlt=false)(h:t.isInt≠u.isInt∨t.isStr≠u.isStr∨t.isBool≠u.isBool∨t.isList≠u.isList∨t.isMap≠u.isMap∨t.isNull≠u.isNull):eqJ t u=false:=by
 cases t<;>cases u<;>first|(simp [JT.isFlt]at hf;done)|(simp [JT.isFlt]at hg;done)|(simp [JT.isInt,JT.isStr,JT.isBool,JT.isList,JT.isMap,JT.isNull]at h;done)|simp [eqJ]
theorem eqJ_fltL {t u:JT}(hf:t.isFlt=false)(hg:u.isFlt=true)(h:t.isInt=false):eqJ t u=false:=by
 cases t<;>cases u<;>first|(simp [JT.isFlt]at hf;done)|(simp [JT.isFlt]at hg;done)|(simp [JT.isInt]at h;done)|simp [eqJ]
theorem eqJ_fltR {t u:JT}(hf:t.isFlt=true)(hg:u.isFlt=false)(h:u.isInt=false):eqJ t u=false:=by
 cases t<;>cases u<;>first|(simp [JT.isFlt]at hf;done)|(simp [JT.isFlt]at hg;done)|(simp [JT.isInt]at h;done)|simp [eqJ]
end
section
open Go Go.RowKit Go.MapKept
def strK:TypeDesc:= .string
theorem Fa:Tryz.prog.underlying 190=some (.map 9 20):=by kernel_rfl
theorem CG:Tryz.prog.underlying 9=some .string:=by kernel_rfl
structure AZ (K:Hp) (w:World) (r:Nat) (ks:List ByteArray) (vs:List JT) (es:Array MapEntry) (ck:Nat):Prop where
 at_:w.heap[r]?=some (.map es ck)
 size:es.size=ks.length
 len:ks.length=vs.length
 nodup:ks.Nodup
 stamped:Stamped es ck
 es_:DI K es ks 0 vs
theorem AZ.keys {K:Hp}{w:World}{r:Nat}{ks:List ByteArray}{vs:List JT}{es:Array MapEntry}{ck:Nat}(h:AZ K w r ks vs es ck){j:Nat}{e:MapEntry}(he:es[j]?=some e):∃k,ks[j]?=some k∧e.key= .string k:=by
 have hj:j<vs.length:=by rw [←h.len,←h.size];exact(Array.getElem?_eq_some_iff.1 he).1
 obtain⟨e',k,h1,h2,h3,_⟩:=h.es_.get j hj
 rw [Nat.zero_add]at h1 h2
 rw [h1]at he;cases he
 exact⟨k,h2,h3⟩
theorem AZ.isKey {K:Hp}{w:World}{r:Nat}{ks:List ByteArray}{vs:List JT}{es:Array MapEntry}{ck:Nat}(h:AZ K w r ks vs es ck):∀x ∈ es.toList,IsKey .string x.key:=by
 intro x hx
 obtain⟨j,hj,rfl⟩:=List.mem_iff_getElem.1 hx
 obtain⟨k,_,hk⟩:=h.keys (j:=j) (e:=es.toList[j]) (by simp)
 rw [hk];trivial
def E4 (ks:List ByteArray)(k:ByteArray):List ByteArray:=if k ∈ ks then ks else ks++[k]
def putV (ks:List ByteArray)(vs:List JT)(k:ByteArray)(t:JT):List JT:=if k ∈ ks then vs.set (ks.idxOf k) t else vs++[t]
theorem AZ.put {K:Hp}{w:World}{r:Nat}{ks:List ByteArray}{vs:List JT}{es:Array MapEntry}{ck:Nat}(h:AZ K w r ks vs es ck)(k:ByteArray)(hk:k.size≤lim)(t:JT)(v:Value)(ht:RJ K t v):
  ∃es' ck',(Instr.mapUpdate 190 (.map (some r)) (.string k) v).run Tryz.prog w= .ok () {w with heap:=w.heap.setIfInBounds r (.map es' ck')}∧
   AZ K {w with heap:=w.heap.setIfInBounds r (.map es' ck')} r (E4 ks k) (putV ks vs k t) es' ck':=by
 have hik:IsKey .string (.string k):=trivial
 rcases findNow_spec hik es.toList 0 h.isKey with⟨h1,h2⟩|⟨j,e,h1,h2,h3⟩
 ·have hnot:k ∉ ks:=by
   intro hm
   obtain⟨j,hj,rfl⟩:=List.mem_iff_getElem.1 hm
   obtain⟨e,k',g1,g2,g3,_⟩:=h.es_.get j (by rw [←h.len];exact hj)
   rw [Nat.zero_add]at g1 g2
   rw [List.getElem?_eq_getElem hj]at g2;cases g2
   exact h2 e (by rw [List.mem_iff_getElem?];exact⟨j,by simpa using g1⟩) g3
  refine⟨es.push {key:= .string k,val:=v,born:=ck},ck+1,by simp [Instr.mapUpdate,run_underlying Fa,Go.MapKept.run_getObj_map h.at_,run_checkKey CG hik,run_findKey CG h1,run_setObj_map _ h.at_,Result.andThen], ?_⟩
  refine⟨(heap_set h.at_).1, ?_, ?_, ?_,stamped_push h.stamped h2, ?_⟩
  ·simp [E4,hnot,h.size]
  ·simp [E4,putV,hnot,h.len]
  ·simp only [E4,if_neg hnot]
   exact List.nodup_append.2 ⟨h.nodup,by simp,by intro a ha b hb;simp at hb;subst hb;intro e;subst e;exact hnot ha⟩
  ·refine DI.mk fun j hj=> ?_
   simp only [E4,putV,if_neg hnot]at hj⊢
   rw [Nat.zero_add]
   by_cases hjl:j<vs.length
   ·obtain⟨e,k',g1,g2,g3,g4,g5⟩:=h.es_.get j hjl
    rw [Nat.zero_add]at g1 g2
    have hjs:j<es.size:=(Array.getElem?_eq_some_iff.1 g1).1
    refine⟨e,k',by rw [Array.getElem?_push,if_neg (by omega)];exact g1,by rw [List.getElem?_append_left (by rw [h.len];exact hjl)];exact g2,g3,g4, ?_⟩
    rw [List.getElem_append_left hjl];exact g5
   ·have hje:j=vs.length:=by simp at hj;omega
    subst hje
    refine⟨⟨.string k,v,ck⟩,k,by rw [Array.getElem?_push,if_pos (by rw [h.size,h.len])],by rw [←h.len];simp,rfl,hk, ?_⟩
    simpa using ht
 ·have hj:es[j]?=some e:=by simpa using h2
  obtain⟨k',g1,g2⟩:=h.keys hj
  rw [h3]at g2;cases g2
  have hmem:k ∈ ks:=List.mem_of_getElem? g1
  have hjl:j<ks.length:=(List.getElem?_eq_some_iff.1 g1).1
  have hidx:ks.idxOf k=j:=by
   have e1:ks[j]=k:=by rw [List.getElem?_eq_getElem hjl]at g1;exact Option.some.inj g1
   rw [←e1];exact h.nodup.idxOf_getElem j hjl
  refine⟨es.modify j fun e=>{e with key:= .string k,val:=v},ck,by simp [Instr.mapUpdate,run_underlying Fa,Go.MapKept.run_getObj_map h.at_,run_checkKey CG hik,run_findKey CG h1,hj,h3,run_keyThatStays hik,run_setObj_map _ h.at_,Result.andThen], ?_⟩
  have hkey:∀e',es[j]?=some e'→({e' with key:= .string k,val:=v}:MapEntry).key=e'.key:=fun e' he'=>by rw [hj]at he';cases he';exact h3.symm
  refine⟨(heap_set h.at_).1, ?_, ?_, ?_,stamped_modify h.stamped _ _ (fun _ _=>rfl) (fun e' _ he'=>hkey e' he'), ?_⟩
  ·simp [E4,hmem,h.size]
  ·simp [E4,putV,hmem,h.len]
  ·simpa [E4,hmem]using h.nodup
  ·refine DI.mk fun i hi=> ?_
   simp only [E4,putV,if_pos hmem,hidx]at hi⊢
   rw [Nat.zero_add]
   have hil:i<vs.length:=by simpa using hi
   obtain⟨e2,k2,q1,q2,q3,q4,q5⟩:=h.es_.get i hil
   rw [Nat.zero_add]at q1 q2
   by_cases hij:i=j
   ·subst hij
    refine⟨{e with key:= .string k,val:=v},k,by rw [Array.getElem?_modify,if_pos rfl,hj];rfl,g1,rfl,hk, ?_⟩
    simpa using ht
   ·refine⟨e2,k2,by rw [Array.getElem?_modify,if_neg (fun e=>hij e.symm)];exact q1,q2,q3,q4, ?_⟩
    rw [List.getElem_set_ne (fun e=>hij e.symm)];exact q5
theorem AZ.made (K:Hp)(w:World):AZ K (w.alloc (.map #[] 0)) w.heap.size [] [] #[] 0:=
 ⟨A4,rfl,rfl,List.nodup_nil,stamped_empty 0,by simp only [DI]⟩
end
section
open Go Go.RowKit
def AX (H:Hp)(w wr:World)(X:Option Nat):Hp:=fun k=>if k<w.heap.size then H k else if X=some k then none else wr.heap[k]?
theorem Imm.growX {H:Hp}{w wr:World}(hi:Imm H w)(hb:Bw w wr)(X:Option Nat):Imm (AX H w wr X) wr:=by
 intro k o e
 unfold AX at e
 by_cases hk:k<w.heap.size
 ·rw [if_pos hk]at e
  show wr.heap[k]?=some o
  rw [hb.block k hk];exact hi k o e
 ·rw [if_neg hk]at e
  by_cases hx:X=some k
  ·rw [if_pos hx]at e;cases e
  ·rw [if_neg hx]at e;exact e
theorem hle_growX {H:Hp}{w wr:World}{X:Option Nat}(hi:Imm H w):Hle H (AX H w wr X):=by
 intro k o e
 unfold AX
 rw [if_pos (A0 (hi k o e))];exact e
theorem BE {H:Hp}{w wr wr':World}{X X':Option Nat}(h:∀k o,w.heap.size≤k→wr.heap[k]?=some o→X≠some k→X'≠some k∧wr'.heap[k]?=some o):Hle (AX H w wr X) (AX H w wr' X'):=by
 intro k o e
 unfold AX at e⊢
 by_cases hk:k<w.heap.size
 ·rw [if_pos hk]at e⊢;exact e
 ·rw [if_neg hk]at e⊢
  by_cases hx:X=some k
  ·rw [if_pos hx]at e;cases e
  ·rw [if_neg hx]at e
   obtain⟨h1,h2⟩:=h k o (by omega) e hx
   rw [if_neg h1];exact h2
theorem Ee {H:Hp}{w wr wr':World}{X:Option Nat}(hb:Bw wr wr'):Hle (AX H w wr X) (AX H w wr' X):=
 BE fun k o _ h hx=>⟨hx,A2 hb h⟩
theorem Dv {H:Hp}{w wr:World}{X:Option Nat}:Hle (AX H w wr X) (A6 H w wr):=by
 intro k o e
 unfold AX at e
 unfold A6
 by_cases hk:k<w.heap.size
 ·rw [if_pos hk]at e⊢;exact e
 ·rw [if_neg hk]at e⊢
  by_cases hx:X=some k
  ·rw [if_pos hx]at e;cases e
  ·rw [if_neg hx]at e;exact e
theorem Ex {H:Hp}{w wc w1:World}{X:Option Nat}(hi:Imm H w)(hs:w.heap.size≤wc.heap.size)(hx:∀k,X=some k→k<wc.heap.size):Hle (A6 H wc w1) (AX H w w1 X):=by
 intro k o e
 unfold A6 at e
 unfold AX
 by_cases hk:k<wc.heap.size
 ·rw [if_pos hk]at e
  rw [if_pos (A0 (hi k o e))];exact e
 ·rw [if_neg hk]at e
  rw [if_neg (by omega),if_neg (fun h=>hk (hx k h))];exact e
theorem ER {H:Hp}{w wc w1:World}(hi:Imm H w)(hs:w.heap.size≤wc.heap.size):Hle (A6 H wc w1) (A6 H w w1):=by
 intro k o e
 unfold A6 at e⊢
 by_cases hk:k<wc.heap.size
 ·rw [if_pos hk]at e
  rw [if_pos (A0 (hi k o e))];exact e
 ·rw [if_neg hk]at e
  rw [if_neg (by omega)];exact e
theorem Ba {H:Hp}{w wc w1 w2:World}(hi:Imm H w)(hs:w.heap.size≤wc.heap.size)(h:∀k o,wc.heap.size≤k→w1.heap[k]?=some o→w2.heap[k]?=some o):Hle (A6 H wc w1) (A6 H w w2):=by
 intro k o e
 unfold A6 at e⊢
 by_cases hk:k<wc.heap.size
 ·rw [if_pos hk]at e
  rw [if_pos (A0 (hi k o e))];exact e
 ·rw [if_neg hk]at e
  rw [if_neg (by omega)];exact h k o (by omega) e
theorem B7 {H:Hp}{w wc w1 w2:World}{X:Option Nat}(hi:Imm H w)(hs:w.heap.size≤wc.heap.size)(h:∀k o,wc.heap.size≤k→w1.heap[k]?=some o→X≠some k∧w2.heap[k]?=some o):Hle (A6 H wc w1) (AX H w w2 X):=by
 intro k o e
 unfold A6 at e
 unfold AX
 by_cases hk:k<wc.heap.size
 ·rw [if_pos hk]at e
  rw [if_pos (A0 (hi k o e))];exact e
 ·rw [if_neg hk]at e
  obtain⟨h1,h2⟩:=h k o (by omega) e
  rw [if_neg (by omega),if_neg h1];exact h2
theorem hle_growX_grow_far {H:Hp}{w wr w2:World}{X:Option Nat}(h:∀k o,w.heap.size≤k→wr.heap[k]?=some o→X≠some k→w2.heap[k]?=some o):Hle (AX H w wr X) (A6 H w w2):=by
 intro k o e
 unfold AX at e
 unfold A6
 by_cases hk:k<w.heap.size
 ·rw [if_pos hk]at e⊢;exact e
 ·rw [if_neg hk]at e⊢
  by_cases hx:X=some k
  ·rw [if_pos hx]at e;cases e
  ·rw [if_neg hx]at e;exact h k o (by omega) e hx
theorem Bc {H:Hp}{w wd wr w2:World}{X:Option Nat}(hi:Imm H w)(hs:w.heap.size≤wd.heap.size)(h:∀k o,wd.heap.size≤k→wr.heap[k]?=some o→X≠some k→w2.heap[k]?=some o):Hle (AX H wd wr X) (A6 H w w2):=by
 intro k o e
 unfold AX at e
 unfold A6
 by_cases hk:k<wd.heap.size
 ·rw [if_pos hk]at e
  rw [if_pos (A0 (hi k o e))];exact e
 ·rw [if_neg hk]at e
  by_cases hx:X=some k
  ·rw [if_pos hx]at e;cases e
  ·rw [if_neg hx]at e;rw [if_neg (by omega)];exact h k o (by omega) e hx
theorem AZ.mono {K K':Hp}{w w':World}{r:Nat}{ks:List ByteArray}{vs:List JT}{es:Array MapEntry}{ck:Nat}(h:AZ K w r ks vs es ck)(hk:Hle K K')(hw:w'.heap[r]?=w.heap[r]?):AZ K' w' r ks vs es ck:=
 ⟨by rw [hw];exact h.at_,h.size,h.len,h.nodup,h.stamped,DI.mono hk h.es_⟩
theorem AZ.shut {K H:Hp}{w:World}{r:Nat}{ks:List ByteArray}{vs:List JT}{es:Array MapEntry}{ck:Nat}(h:AZ K w r ks vs es ck)(hk:Hle K H)(hr:H r=w.heap[r]?)(hl:ks.length≤lim):RJ H (.map ks vs) (.iface 190 (.map (some r))):=by
 simp only [RJ]
 exact⟨r,es,ck,rfl,by rw [hr];exact h.at_,h.size,h.len,hl,h.nodup,h.stamped,DI.mono hk h.es_⟩
structure Az (w w2:World) (r:Nat):Prop where
 os:w2.os=w.os
 tape:w2.tape=w.tape
 output:w2.output=w.output
 size:w2.heap.size=w.heap.size
 block:∀k,k≠r→w2.heap[k]?=w.heap[k]?
theorem Bw.turn {a w w2:World}{r:Nat}(h:Bw a w)(hr:a.heap.size≤r)(t:Az w w2 r):Bw a w2:=
 ⟨t.os.trans h.os,t.tape.trans h.tape,t.output.trans h.output,by rw [t.size];exact h.size,fun k hk=>by rw [t.block k (by omega)];exact h.block k hk⟩
theorem hle_growX_turn {H:Hp}{w wr wr':World}{r:Nat}(t:Az wr wr' r):Hle (AX H w wr (some r)) (AX H w wr' (some r)):=
 BE fun k o _ h hx=>⟨hx,by rw [t.block k (fun e=>hx (by rw [e]))];exact h⟩
theorem AZ.put2 {K:Hp}{w:World}{r:Nat}{ks:List ByteArray}{vs:List JT}{es:Array MapEntry}{ck:Nat}(h:AZ K w r ks vs es ck)(k:ByteArray)(hk:k.size≤lim)(t:JT)(v:Value)(ht:RJ K t v):
  ∃es' ck' w2,(Instr.mapUpdate 190 (.map (some r)) (.string k) v).run Tryz.prog w= .ok () w2∧AZ K w2 r (E4 ks k) (putV ks vs k t) es' ck'∧Az w w2 r:=by
 obtain⟨es',ck',h1,h2⟩:=h.put k hk t v ht
 exact⟨es',ck',_,h1,h2,⟨rfl,rfl,rfl,by simp,fun k hk=>by simp [Ne.symm hk]⟩⟩
theorem putK_length (ks:List ByteArray)(k:ByteArray):(E4 ks k).length≤ks.length+1:=by unfold E4;split<;>simp
def D3:List (ByteArray × JT)→List ByteArray→List JT→JT
 |[],ks,vs=> .map ks vs
 |(k,t)::r,ks,vs=>D3 r (E4 ks k) (putV ks vs k t)
mutual
def Ak:GV→JT
 |⟨k,n,f,s,ks,l⟩=>if k=1 then .bool (n !=0)else if k=2 then .int n else if k=3 then .flt f else if k=4 then .str s else if k=5 then .list (Cu l)else if k=6 then D3 (ks.zip (Cu l)) [] []else .null
def Cu:List GV→List JT
 |[]=>[]
 |v::r=>Ak v::Cu r
end
theorem BA:∀l:List GV,(Cu l).length=l.length
 |[]=>rfl
 |v::r=>by simp only [Cu,List.length_cons,BA r]
theorem jtsOf_get:∀(l:List GV) (j:Nat) (h:j<l.length),(Cu l)[j]'(by rw [BA];exact h)=Ak l[j]
 |[],_,h=>by simp at h
 |v::r,0,_=>by simp only [Cu,List.getElem_cons_zero]
 |v::r,j+1,h=>by
  have:=jtsOf_get r j (by simpa using h)
  simp only [Cu,List.getElem_cons_succ];exact this
end
end Go.Proofs.YtmghkmhgpmcoaaaGreat
