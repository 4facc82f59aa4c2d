/- What the claim's theorem 'proved' rests on: Base, Down, Data. -/
import Derived.WalkKit
import Derived.Test.YtmghkmhgpmcoaaaGreatRows
import Derived.ChangeArms
import Derived.Deep.Slices
import Derived.Laws.Cover2
import Derived.KernelRfl
set_option linter.unusedVariables false
set_option linter.unusedSimpArgs false
set_option maxRecDepth 100000
set_option maxHeartbeats 10000000
namespace Go.Proofs.YtmghkmhgpmcoaaaGreat
section
open Go.RowKit
abbrev Hp:=Nat→Option Obj
def A8 (H:Hp)(b o:Nat):Option Value:=match H b with|some (.cells c _ _)=>c[o]?|_=>none
def Hle (H K:Hp):Prop:=∀k o,H k=some o→K k=some o
def At (w:World):Hp:=fun k=>w.heap[k]?
def Imm (H:Hp)(w:World):Prop:=Hle H (At w)
theorem Hle.refl (H:Hp):Hle H H:=fun _ _ h=>h
theorem Hle.trans {H K L:Hp}(h:Hle H K)(g:Hle K L):Hle H L:=fun k o e=>g k o (h k o e)
theorem A7 {H K:Hp}(h:Hle H K){b o:Nat}{v:Value}(e:A8 H b o=some v):A8 K b o=some v:=by
 unfold A8 at e⊢
 cases hb:H b with
 |none=>simp [hb]at e
 |some x=>rw [h _ _ hb];rw [hb]at e;exact e
theorem Ai {w:World}{b o:Nat}:A8 (At w) b o=w.cell? ⟨b,o,none⟩:=by
 unfold A8 At World.cell?
 cases hb:w.heap[b]? with
 |none=>simp
 |some x=>cases x<;>simp
theorem Imm.cell {H:Hp}{w:World}(h:Imm H w){b o:Nat}{v:Value}(e:A8 H b o=some v):w.cell? ⟨b,o,none⟩=some v:=by
 rw [←Ai];exact A7 h e
theorem Ah {w:World}{a:Addr}{v:Value}(e:w.cell? a=some v):a.block<w.heap.size:=by
 by_cases h:a.block<w.heap.size
 ·exact h
 ·simp [World.cell?,Array.getElem?_eq_none (Nat.le_of_not_lt h)]at e
theorem Imm.below {H:Hp}{w w':World}(h:Imm H w)(hb:Below w.heap.size w w'):Imm H w':=by
 intro k o e
 have e1:w.heap[k]?=some o:=h k o e
 have hk:k<w.heap.size:=by
  by_cases c:k<w.heap.size
  ·exact c
  ·rw [Array.getElem?_eq_none (Nat.le_of_not_lt c)]at e1;cases e1
 show w'.heap[k]?=some o
 rw [hb.block k hk];exact e1
theorem Imm.self (w:World):Imm (At w) w:=Hle.refl _
theorem Imm.mono {H K:Hp}{w:World}(h:Hle H K)(g:Imm K w):Imm H w:=h.trans g
theorem AG {w w':World}(hb:Below w.heap.size w w'):Hle (At w) (At w'):=(Imm.self w).below hb
def lim:Nat:=4294967296
def I64 (n:Int):Prop:= -9223372036854775808≤n∧n≤9223372036854775807
def Sl (P:Option Addr→Prop)(n:Nat)(x:Value):Prop:=∃a c,x= .slice a n c∧(a=none→c=0∧n=0)∧n≤lim∧n≤c∧P a
theorem Sl.mono {P Q:Option Addr→Prop}{n:Nat}{x:Value}(h:Sl P n x)(hq:∀a,P a→Q a):Sl Q n x:=by
 obtain⟨a,c,e,hn,hl,hc,hp⟩:=h
 exact⟨a,c,e,hn,hl,hc,hq a hp⟩
def Bt (H:Hp)(a:Option Addr):Nat→List ByteArray→Prop
 |_,[]=>True
 |i,s::r=>(∃b o,a=some ⟨b,o,none⟩∧A8 H b (o+i)=some (.string s)∧s.size≤lim)∧Bt H a (i+1) r
def Cv (H:Hp)(l:List ByteArray)(x:Value):Prop:=Sl (fun a=>Bt H a 0 l) l.length x
structure GV where
 k:Int
 n:Int
 f:Nat
 s:ByteArray
 ks:List ByteArray
 l:List GV
def CV (H:Hp)(b o:Nat)(v:GV)(x4 x5:Value):Prop:=
 A8 H b o=some (.int .i64 v.k)∧A8 H b (o+1)=some (.int .i64 v.n)∧A8 H b (o+2)=some (.float .f64 v.f)∧A8 H b (o+3)=some (.string v.s)∧
  A8 H b (o+4)=some x4∧A8 H b (o+5)=some x5
def Ar (v:GV)(x4 x5:Value):Value:= .agg #[.int .i64 v.k, .int .i64 v.n, .float .f64 v.f, .string v.s,x4,x5]
mutual
def RV (H:Hp):GV→Value→Value→Prop
 |⟨k,n,f,s,ks,l⟩,x4,x5=>I64 k∧I64 n∧f<18446744073709551616∧s.size≤lim∧Cv H ks x4∧Sl (fun a=>CX H a 0 l) l.length x5
def CX (H:Hp)(a:Option Addr):Nat→List GV→Prop
 |_,[]=>True
 |i,v::r=>(∃b o x4 x5,a=some ⟨b,o,none⟩∧CV H b (o+i * 6) v x4 x5∧RV H v x4 x5)∧CX H a (i+1) r
end
def RVs (H:Hp)(l:List GV)(x:Value):Prop:=Sl (fun a=>CX H a 0 l) l.length x
theorem By {H:Hp}{v:GV}{x4 x5:Value}:RV H v x4 x5↔I64 v.k∧I64 v.n∧v.f<18446744073709551616∧v.s.size≤lim∧Cv H v.ks x4∧RVs H v.l x5:=by
 cases v;simp only [RV,RVs]
mutual
structure Ap where
 sc:ByteArray
 li:List B3
 ma:List Bp
structure As where
 named:Bool
 name:ByteArray
 atom:Ap
 rel:ByteArray
structure B3 where
 elem:As
 rel:ByteArray
 keys:List ByteArray
structure Bp where
 fields:List Au
 elem:As
 rel:ByteArray
structure Au where
 name:ByteArray
 type:As
 dflt:List GV
end
structure Ax where
 name:ByteArray
 atom:Ap
def Ft (H:Hp)(b o:Nat)(r:As)(x1 x2:Value):Prop:=
 A8 H b o=some (.bool r.named)∧A8 H b (o+1)=some (.string r.name)∧A8 H b (o+2)=some (.string r.atom.sc)∧A8 H b (o+3)=some x1∧
  A8 H b (o+4)=some x2∧A8 H b (o+5)=some (.string r.rel)
def cellsL (H:Hp)(b o:Nat)(t:B3)(x1 x2 xk:Value):Prop:=
 Ft H b o t.elem x1 x2∧A8 H b (o+6)=some (.string t.rel)∧A8 H b (o+7)=some xk
def cellsM (H:Hp)(b o:Nat)(t:Bp)(xf x1 x2:Value):Prop:=
 A8 H b o=some xf∧Ft H b (o+1) t.elem x1 x2∧A8 H b (o+7)=some (.string t.rel)
def cellsF (H:Hp)(b o:Nat)(t:Au)(x1 x2 xd:Value):Prop:=
 A8 H b o=some (.string t.name)∧Ft H b (o+1) t.type x1 x2∧A8 H b (o+7)=some xd
def cellsD (H:Hp)(b o:Nat)(t:Ax)(x1 x2:Value):Prop:=
 A8 H b o=some (.string t.name)∧A8 H b (o+1)=some (.string t.atom.sc)∧A8 H b (o+2)=some x1∧A8 H b (o+3)=some x2
mutual
def BQ (H:Hp):Ap→Value→Value→Prop
 |⟨sc,li,ma⟩,x1,x2=>sc.size≤lim∧Sl (fun a=>Bb H a 0 li) li.length x1∧Sl (fun a=>Bu H a 0 ma) ma.length x2
def Cy (H:Hp):As→Value→Value→Prop
 |⟨_,name,atom,rel⟩,x1,x2=>name.size≤lim∧rel.size≤lim∧BQ H atom x1 x2
def D4 (H:Hp):B3→Value→Value→Value→Prop
 |⟨elem,rel,keys⟩,x1,x2,xk=>rel.size≤lim∧Cv H keys xk∧Cy H elem x1 x2
def RMap (H:Hp):Bp→Value→Value→Value→Prop
 |⟨fields,elem,rel⟩,xf,x1,x2=>rel.size≤lim∧Sl (fun a=>B8 H a 0 fields) fields.length xf∧Cy H elem x1 x2
def Cz (H:Hp):Au→Value→Value→Value→Prop
 |⟨name,type,dflt⟩,x1,x2,xd=>name.size≤lim∧Cy H type x1 x2∧RVs H dflt xd
def Bb (H:Hp)(a:Option Addr):Nat→List B3→Prop
 |_,[]=>True
 |i,t::r=>(∃b o x1 x2 xk,a=some ⟨b,o,none⟩∧cellsL H b (o+i * 8) t x1 x2 xk∧D4 H t x1 x2 xk)∧Bb H a (i+1) r
def Bu (H:Hp)(a:Option Addr):Nat→List Bp→Prop
 |_,[]=>True
 |i,t::r=>(∃b o xf x1 x2,a=some ⟨b,o,none⟩∧cellsM H b (o+i * 8) t xf x1 x2∧RMap H t xf x1 x2)∧Bu H a (i+1) r
def B8 (H:Hp)(a:Option Addr):Nat→List Au→Prop
 |_,[]=>True
 |i,t::r=>(∃b o x1 x2 xd,a=some ⟨b,o,none⟩∧cellsF H b (o+i * 8) t x1 x2 xd∧Cz H t x1 x2 xd)∧B8 H a (i+1) r
end
def CF (H:Hp)(a:Option Addr):Nat→List Ax→Prop
 |_,[]=>True
 |i,t::r=>(∃b o x1 x2,a=some ⟨b,o,none⟩∧cellsD H b (o+i * 4) t x1 x2∧t.name.size≤lim∧BQ H t.atom x1 x2)∧CF H a (i+1) r
def DH (H:Hp)(l:List Ax)(x:Value):Prop:=Sl (fun a=>CF H a 0 l) l.length x
def E9 (H:Hp)(l:List B3)(x:Value):Prop:=Sl (fun a=>Bb H a 0 l) l.length x
def RMaps (H:Hp)(l:List Bp)(x:Value):Prop:=Sl (fun a=>Bu H a 0 l) l.length x
def Fu (H:Hp)(l:List Au)(x:Value):Prop:=Sl (fun a=>B8 H a 0 l) l.length x
theorem Bd {H:Hp}{v:Ap}{x1 x2:Value}:BQ H v x1 x2↔v.sc.size≤lim∧E9 H v.li x1∧RMaps H v.ma x2:=by
 cases v;simp only [BQ,E9,RMaps]
theorem BP {H:Hp}{v:As}{x1 x2:Value}:Cy H v x1 x2↔v.name.size≤lim∧v.rel.size≤lim∧BQ H v.atom x1 x2:=by
 cases v;simp only [Cy]
theorem C8 {H:Hp}{v:B3}{x1 x2 xk:Value}:D4 H v x1 x2 xk↔v.rel.size≤lim∧Cv H v.keys xk∧Cy H v.elem x1 x2:=by
 cases v;simp only [D4]
theorem Cl {H:Hp}{v:Bp}{xf x1 x2:Value}:RMap H v xf x1 x2↔v.rel.size≤lim∧Fu H v.fields xf∧Cy H v.elem x1 x2:=by
 cases v;simp only [RMap,Fu]
theorem C3 {H:Hp}{v:Au}{x1 x2 xd:Value}:Cz H v x1 x2 xd↔v.name.size≤lim∧Cy H v.type x1 x2∧RVs H v.dflt xd:=by
 cases v;simp only [Cz]
structure GE where
 k:Int
 s:ByteArray
 ks:List ByteArray
 l:List GV
 v:GV
 n:Int
def cells11 (H:Hp)(b o:Nat)(e:GE)(x2 x3 y4 y5:Value):Prop:=
 A8 H b o=some (.int .i64 e.k)∧A8 H b (o+1)=some (.string e.s)∧A8 H b (o+2)=some x2∧A8 H b (o+3)=some x3∧CV H b (o+4) e.v y4 y5∧
  A8 H b (o+10)=some (.int .i64 e.n)
def Dl (e:GE)(x2 x3 y4 y5:Value):Value:= .agg #[.int .i64 e.k, .string e.s,x2,x3, .int .i64 e.v.k, .int .i64 e.v.n, .float .f64 e.v.f, .string e.v.s,y4,y5, .int .i64 e.n]
def RE (H:Hp)(e:GE)(x2 x3 y4 y5:Value):Prop:=I64 e.k∧I64 e.n∧e.s.size≤lim∧Cv H e.ks x2∧RVs H e.l x3∧RV H e.v y4 y5
def Fv (H:Hp)(a:Option Addr):Nat→List GE→Prop
 |_,[]=>True
 |i,e::r=>(∃b o x2 x3 y4 y5,a=some ⟨b,o,none⟩∧cells11 H b (o+i * 11) e x2 x3 y4 y5∧RE H e x2 x3 y4 y5)∧Fv H a (i+1) r
def EA (H:Hp)(l:List GE)(x:Value):Prop:=Sl (fun a=>Fv H a 0 l) l.length x
def BI (H:Hp)(a:Option Addr):Nat→List (List GE)→Prop
 |_,[]=>True
 |i,p::r=>(∃b o x,a=some ⟨b,o,none⟩∧A8 H b (o+i)=some x∧EA H p x)∧BI H a (i+1) r
def Bz (H:Hp)(l:List (List GE))(x:Value):Prop:=Sl (fun a=>BI H a 0 l) l.length x
theorem Bt.get {H:Hp}{a:Option Addr}:∀{l:List ByteArray} {i:Nat},Bt H a i l→∀j (h:j<l.length),∃b o,a=some ⟨b,o,none⟩∧A8 H b (o+(i+j))=some (.string l[j])∧l[j].size≤lim
 |[],_,_,j,h=>by simp at h
 |_::r,i,h,j,hj=>by
  simp only [Bt]at h
  cases j with
  |zero=>exact h.1
  |succ j=>
   have:=Bt.get h.2 j (by simpa using hj)
   simpa [Nat.add_assoc,Nat.add_comm 1 j]using this
theorem Bt.mk {H:Hp}{a:Option Addr}:∀{l:List ByteArray} {i:Nat},(∀j (h:j<l.length),∃b o,a=some ⟨b,o,none⟩∧A8 H b (o+(i+j))=some (.string l[j])∧l[j].size≤lim)→Bt H a i l
 |[],_,_=>by simp only [Bt]
 |_::r,i,h=>by
  simp only [Bt]
  refine⟨h 0 (by simp),Bt.mk fun j hj=> ?_⟩
  have:=h (j+1) (by simpa using hj)
  simpa [Nat.add_assoc,Nat.add_comm 1 j]using this
theorem CX.get {H:Hp}{a:Option Addr}:∀{l:List GV} {i:Nat},CX H a i l→∀j (h:j<l.length),∃b o x4 x5,a=some ⟨b,o,none⟩∧CV H b (o+(i+j) * 6) l[j] x4 x5∧RV H l[j] x4 x5
 |[],_,_,j,h=>by simp at h
 |_::r,i,h,j,hj=>by
  simp only [CX]at h
  cases j with
  |zero=>exact h.1
  |succ j=>
   have:=CX.get h.2 j (by simpa using hj)
   simpa [Nat.add_assoc,Nat.add_comm 1 j]using this
theorem CX.mk {H:Hp}{a:Option Addr}:∀{l:List GV} {i:Nat},(∀j (h:j<l.length),∃b o x4 x5,a=some ⟨b,o,none⟩∧CV H b (o+(i+j) * 6) l[j] x4 x5∧RV H l[j] x4 x5)→CX H a i l
 |[],_,_=>by simp only [CX]
 |_::r,i,h=>by
  simp only [CX]
  refine⟨h 0 (by simp),CX.mk fun j hj=> ?_⟩
  have:=h (j+1) (by simpa using hj)
  simpa [Nat.add_assoc,Nat.add_comm 1 j]using this
theorem Bb.get {H:Hp}{a:Option Addr}:∀{l:List B3} {i:Nat},Bb H a i l→∀j (h:j<l.length),∃b o x1 x2 xk,a=some ⟨b,o,none⟩∧cellsL H b (o+(i+j) * 8) l[j] x1 x2 xk∧D4 H l[j] x1 x2 xk
 |[],_,_,j,h=>by simp at h
 |_::r,i,h,j,hj=>by
  simp only [Bb]at h
  cases j with
  |zero=>exact h.1
  |succ j=>
   have:=Bb.get h.2 j (by simpa using hj)
   simpa [Nat.add_assoc,Nat.add_comm 1 j]using this
theorem Bb.mk {H:Hp}{a:Option Addr}:∀{l:List B3} {i:Nat},(∀j (h:j<l.length),∃b o x1 x2 xk,a=some ⟨b,o,none⟩∧cellsL H b (o+(i+j) * 8) l[j] x1 x2 xk∧D4 H l[j] x1 x2 xk)→Bb H a i l
 |[],_,_=>by simp only [Bb]
 |_::r,i,h=>by
  simp only [Bb]
  refine⟨h 0 (by simp),Bb.mk fun j hj=> ?_⟩
  have:=h (j+1) (by simpa using hj)
  simpa [Nat.add_assoc,Nat.add_comm 1 j]using this
theorem Bu.get {H:Hp}{a:Option Addr}:∀{l:List Bp} {i:Nat},Bu H a i l→∀j (h:j<l.length),∃b o xf x1 x2,a=some ⟨b,o,none⟩∧cellsM H b (o+(i+j) * 8) l[j] xf x1 x2∧RMap H l[j] xf x1 x2
 |[],_,_,j,h=>by simp at h
 |_::r,i,h,j,hj=>by
  simp only [Bu]at h
  cases j with
  |zero=>exact h.1
  |succ j=>
   have:=Bu.get h.2 j (by simpa using hj)
   simpa [Nat.add_assoc,Nat.add_comm 1 j]using this
theorem Bu.mk {H:Hp}{a:Option Addr}:∀{l:List Bp} {i:Nat},(∀j (h:j<l.length),∃b o xf x1 x2,a=some ⟨b,o,none⟩∧cellsM H b (o+(i+j) * 8) l[j] xf x1 x2∧RMap H l[j] xf x1 x2)→Bu H a i l
 |[],_,_=>by simp only [Bu]
 |_::r,i,h=>by
  simp only [Bu]
  refine⟨h 0 (by simp),Bu.mk fun j hj=> ?_⟩
  have:=h (j+1) (by simpa using hj)
  simpa [Nat.add_assoc,Nat.add_comm 1 j]using this
theorem B8.get {H:Hp}{a:Option Addr}:∀{l:List Au} {i:Nat},B8 H a i l→∀j (h:j<l.length),∃b o x1 x2 xd,a=some ⟨b,o,none⟩∧cellsF H b (o+(i+j) * 8) l[j] x1 x2 xd∧Cz H l[j] x1 x2 xd
 |[],_,_,j,h=>by simp at h
 |_::r,i,h,j,hj=>by
  simp only [B8]at h
  cases j with
  |zero=>exact h.1
  |succ j=>
   have:=B8.get h.2 j (by simpa using hj)
   simpa [Nat.add_assoc,Nat.add_comm 1 j]using this
theorem B8.mk {H:Hp}{a:Option Addr}:∀{l:List Au} {i:Nat},(∀j (h:j<l.length),∃b o x1 x2 xd,a=some ⟨b,o,none⟩∧cellsF H b (o+(i+j) * 8) l[j] x1 x2 xd∧Cz H l[j] x1 x2 xd)→B8 H a i l
 |[],_,_=>by simp only [B8]
 |_::r,i,h=>by
  simp only [B8]
  refine⟨h 0 (by simp),B8.mk fun j hj=> ?_⟩
  have:=h (j+1) (by simpa using hj)
  simpa [Nat.add_assoc,Nat.add_comm 1 j]using this
theorem CF.get {H:Hp}{a:Option Addr}:∀{l:List Ax} {i:Nat},CF H a i l→∀j (h:j<l.length),∃b o x1 x2,a=some ⟨b,o,none⟩∧cellsD H b (o+(i+j) * 4) l[j] x1 x2∧l[j].name.size≤lim∧BQ H l[j].atom x1 x2
 |[],_,_,j,h=>by simp at h
 |_::r,i,h,j,hj=>by
  simp only [CF]at h
  cases j with
  |zero=>exact h.1
  |succ j=>
   have:=CF.get h.2 j (by simpa using hj)
   simpa [Nat.add_assoc,Nat.add_comm 1 j]using this
theorem CF.mk {H:Hp}{a:Option Addr}:∀{l:List Ax} {i:Nat},(∀j (h:j<l.length),∃b o x1 x2,a=some ⟨b,o,none⟩∧cellsD H b (o+(i+j) * 4) l[j] x1 x2∧l[j].name.size≤lim∧BQ H l[j].atom x1 x2)→CF H a i l
 |[],_,_=>by simp only [CF]
 |_::r,i,h=>by
  simp only [CF]
  refine⟨h 0 (by simp),CF.mk fun j hj=> ?_⟩
  have:=h (j+1) (by simpa using hj)
  simpa [Nat.add_assoc,Nat.add_comm 1 j]using this
theorem Fv.get {H:Hp}{a:Option Addr}:∀{l:List GE} {i:Nat},Fv H a i l→∀j (h:j<l.length),∃b o x2 x3 y4 y5,a=some ⟨b,o,none⟩∧cells11 H b (o+(i+j) * 11) l[j] x2 x3 y4 y5∧RE H l[j] x2 x3 y4 y5
 |[],_,_,j,h=>by simp at h
 |_::r,i,h,j,hj=>by
  simp only [Fv]at h
  cases j with
  |zero=>exact h.1
  |succ j=>
   have:=Fv.get h.2 j (by simpa using hj)
   simpa [Nat.add_assoc,Nat.add_comm 1 j]using this
theorem Fv.mk {H:Hp}{a:Option Addr}:∀{l:List GE} {i:Nat},(∀j (h:j<l.length),∃b o x2 x3 y4 y5,a=some ⟨b,o,none⟩∧cells11 H b (o+(i+j) * 11) l[j] x2 x3 y4 y5∧RE H l[j] x2 x3 y4 y5)→Fv H a i l
 |[],_,_=>by simp only [Fv]
 |_::r,i,h=>by
  simp only [Fv]
  refine⟨h 0 (by simp),Fv.mk fun j hj=> ?_⟩
  have:=h (j+1) (by simpa using hj)
  simpa [Nat.add_assoc,Nat.add_comm 1 j]using this
theorem BI.get {H:Hp}{a:Option Addr}:∀{l:List (List GE)} {i:Nat},BI H a i l→∀j (h:j<l.length),∃b o x,a=some ⟨b,o,none⟩∧A8 H b (o+(i+j))=some x∧EA H l[j] x
 |[],_,_,j,h=>by simp at h
 |_::r,i,h,j,hj=>by
  simp only [BI]at h
  cases j with
  |zero=>exact h.1
  |succ j=>
   have:=BI.get h.2 j (by simpa using hj)
   simpa [Nat.add_assoc,Nat.add_comm 1 j]using this
theorem BI.mk {H:Hp}{a:Option Addr}:∀{l:List (List GE)} {i:Nat},(∀j (h:j<l.length),∃b o x,a=some ⟨b,o,none⟩∧A8 H b (o+(i+j))=some x∧EA H l[j] x)→BI H a i l
 |[],_,_=>by simp only [BI]
 |_::r,i,h=>by
  simp only [BI]
  refine⟨h 0 (by simp),BI.mk fun j hj=> ?_⟩
  have:=h (j+1) (by simpa using hj)
  simpa [Nat.add_assoc,Nat.add_comm 1 j]using this
theorem Bt.mono {H K:Hp}(hk:Hle H K){a:Option Addr}{l:List ByteArray}{i:Nat}(h:Bt H a i l):Bt K a i l:=
 Bt.mk fun j hj=>by obtain⟨b,o,e,hc,hs⟩:=h.get j hj;exact⟨b,o,e,A7 hk hc,hs⟩
theorem Cv.mono {H K:Hp}(hk:Hle H K){l:List ByteArray}{x:Value}(h:Cv H l x):Cv K l x:=Sl.mono h fun _ g=>g.mono hk
theorem CV.mono {H K:Hp}(hk:Hle H K){b o:Nat}{v:GV}{x4 x5:Value}(h:CV H b o v x4 x5):CV K b o v x4 x5:=
 ⟨A7 hk h.1,A7 hk h.2.1,A7 hk h.2.2.1,A7 hk h.2.2.2.1,A7 hk h.2.2.2.2.1,A7 hk h.2.2.2.2.2⟩
mutual
theorem RV.mono {H K:Hp}(hk:Hle H K):∀{v:GV} {x4 x5:Value},RV H v x4 x5→RV K v x4 x5
 |⟨_,_,_,_,ks,l⟩,x4,x5,h=>by
  simp only [RV]at h⊢
  exact⟨h.1,h.2.1,h.2.2.1,h.2.2.2.1,h.2.2.2.2.1.mono hk,h.2.2.2.2.2.mono fun _ g=>CX.mono hk g⟩
theorem CX.mono {H K:Hp}(hk:Hle H K){a:Option Addr}:∀{l:List GV} {i:Nat},CX H a i l→CX K a i l
 |[],_,_=>by simp only [CX]
 |v::r,i,h=>by
  simp only [CX]at h⊢
  obtain⟨⟨b,o,x4,x5,e,hc,h1⟩,h2⟩:=h
  exact⟨⟨b,o,x4,x5,e,hc.mono hk,RV.mono hk h1⟩,CX.mono hk h2⟩
end
theorem RVs.mono {H K:Hp}(hk:Hle H K){l:List GV}{x:Value}(h:RVs H l x):RVs K l x:=Sl.mono h fun _ g=>g.mono hk
theorem Ft.mono {H K:Hp}(hk:Hle H K){b o:Nat}{r:As}{x1 x2:Value}(h:Ft H b o r x1 x2):Ft K b o r x1 x2:=
 ⟨A7 hk h.1,A7 hk h.2.1,A7 hk h.2.2.1,A7 hk h.2.2.2.1,A7 hk h.2.2.2.2.1,A7 hk h.2.2.2.2.2⟩
mutual
theorem BQ.mono {H K:Hp}(hk:Hle H K):∀{v:Ap} {x1 x2:Value},BQ H v x1 x2→BQ K v x1 x2
 |⟨_,li,ma⟩,x1,x2,h=>by
  simp only [BQ]at h⊢
  exact⟨h.1,h.2.1.mono fun _ g=>Bb.mono hk g,h.2.2.mono fun _ g=>Bu.mono hk g⟩
theorem Cy.mono {H K:Hp}(hk:Hle H K):∀{v:As} {x1 x2:Value},Cy H v x1 x2→Cy K v x1 x2
 |⟨_,_,atom,_⟩,x1,x2,h=>by
  simp only [Cy]at h⊢
  exact⟨h.1,h.2.1,BQ.mono hk h.2.2⟩
theorem D4.mono {H K:Hp}(hk:Hle H K):∀{v:B3} {x1 x2 xk:Value},D4 H v x1 x2 xk→D4 K v x1 x2 xk
 |⟨elem,_,_⟩,x1,x2,xk,h=>by
  simp only [D4]at h⊢
  exact⟨h.1,h.2.1.mono hk,Cy.mono hk h.2.2⟩
theorem RMap.mono {H K:Hp}(hk:Hle H K):∀{v:Bp} {xf x1 x2:Value},RMap H v xf x1 x2→RMap K v xf x1 x2
 |⟨fields,elem,_⟩,xf,x1,x2,h=>by
  simp only [RMap]at h⊢
  exact⟨h.1,h.2.1.mono fun _ g=>B8.mono hk g,Cy.mono hk h.2.2⟩
theorem Cz.mono {H K:Hp}(hk:Hle H K):∀{v:Au} {x1 x2 xd:Value},Cz H v x1 x2 xd→Cz K v x1 x2 xd
 |⟨_,type,_⟩,x1,x2,xd,h=>by
  simp only [Cz]at h⊢
  exact⟨h.1,Cy.mono hk h.2.1,h.2.2.mono hk⟩
theorem Bb.mono {H K:Hp}(hk:Hle H K){a:Option Addr}:∀{l:List B3} {i:Nat},Bb H a i l→Bb K a i l
 |[],_,_=>by simp only [Bb]
 |v::r,i,h=>by
  simp only [Bb]at h⊢
  obtain⟨⟨b,o,x1,x2,xk,e,hc,h1⟩,h2⟩:=h
  exact⟨⟨b,o,x1,x2,xk,e,⟨hc.1.mono hk,A7 hk hc.2.1,A7 hk hc.2.2⟩,D4.mono hk h1⟩,Bb.mono hk h2⟩
theorem Bu.mono {H K:Hp}(hk:Hle H K){a:Option Addr}:∀{l:List Bp} {i:Nat},Bu H a i l→Bu K a i l
 |[],_,_=>by simp only [Bu]
 |v::r,i,h=>by
  simp only [Bu]at h⊢
  obtain⟨⟨b,o,x1,x2,xk,e,hc,h1⟩,h2⟩:=h
  exact⟨⟨b,o,x1,x2,xk,e,⟨A7 hk hc.1,hc.2.1.mono hk,A7 hk hc.2.2⟩,RMap.mono hk h1⟩,Bu.mono hk h2⟩
theorem B8.mono {H K:Hp}(hk:Hle H K){a:Option Addr}:∀{l:List Au} {i:Nat},B8 H a i l→B8 K a i l
 |[],_,_=>by simp only [B8]
 |v::r,i,h=>by
  simp only [B8]at h⊢
  obtain⟨⟨b,o,x1,x2,xk,e,hc,h1⟩,h2⟩:=h
  exact⟨⟨b,o,x1,x2,xk,e,⟨A7 hk hc.1,hc.2.1.mono hk,A7 hk hc.2.2⟩,Cz.mono hk h1⟩,B8.mono hk h2⟩
end
theorem CF.mono {H K:Hp}(hk:Hle H K){a:Option Addr}{l:List Ax}{i:Nat}(h:CF H a i l):CF K a i l:=
 CF.mk fun j hj=>by
  obtain⟨b,o,x1,x2,e,hc,hs,h1⟩:=h.get j hj
  exact⟨b,o,x1,x2,e,⟨A7 hk hc.1,A7 hk hc.2.1,A7 hk hc.2.2.1,A7 hk hc.2.2.2⟩,hs,h1.mono hk⟩
theorem DH.mono {H K:Hp}(hk:Hle H K){l:List Ax}{x:Value}(h:DH H l x):DH K l x:=Sl.mono h fun _ g=>g.mono hk
theorem E9.mono {H K:Hp}(hk:Hle H K){l:List B3}{x:Value}(h:E9 H l x):E9 K l x:=Sl.mono h fun _ g=>g.mono hk
theorem RMaps.mono {H K:Hp}(hk:Hle H K){l:List Bp}{x:Value}(h:RMaps H l x):RMaps K l x:=Sl.mono h fun _ g=>g.mono hk
theorem Fu.mono {H K:Hp}(hk:Hle H K){l:List Au}{x:Value}(h:Fu H l x):Fu K l x:=Sl.mono h fun _ g=>g.mono hk
theorem RE.mono {H K:Hp}(hk:Hle H K){e:GE}{x2 x3 y4 y5:Value}(h:RE H e x2 x3 y4 y5):RE K e x2 x3 y4 y5:=
 ⟨h.1,h.2.1,h.2.2.1,h.2.2.2.1.mono hk,h.2.2.2.2.1.mono hk,h.2.2.2.2.2.mono hk⟩
theorem cells11.mono {H K:Hp}(hk:Hle H K){b o:Nat}{e:GE}{x2 x3 y4 y5:Value}(h:cells11 H b o e x2 x3 y4 y5):cells11 K b o e x2 x3 y4 y5:=
 ⟨A7 hk h.1,A7 hk h.2.1,A7 hk h.2.2.1,A7 hk h.2.2.2.1,h.2.2.2.2.1.mono hk,A7 hk h.2.2.2.2.2⟩
theorem Fv.mono {H K:Hp}(hk:Hle H K){a:Option Addr}{l:List GE}{i:Nat}(h:Fv H a i l):Fv K a i l:=
 Fv.mk fun j hj=>by obtain⟨b,o,x2,x3,y4,y5,e,hc,h1⟩:=h.get j hj;exact⟨b,o,x2,x3,y4,y5,e,hc.mono hk,h1.mono hk⟩
theorem EA.mono {H K:Hp}(hk:Hle H K){l:List GE}{x:Value}(h:EA H l x):EA K l x:=Sl.mono h fun _ g=>g.mono hk
theorem BI.mono {H K:Hp}(hk:Hle H K){a:Option Addr}{l:List (List GE)}{i:Nat}(h:BI H a i l):BI K a i l:=
 BI.mk fun j hj=>by obtain⟨b,o,x,e,hc,h1⟩:=h.get j hj;exact⟨b,o,x,e,A7 hk hc,h1.mono hk⟩
theorem Bz.mono {H K:Hp}(hk:Hle H K){l:List (List GE)}{x:Value}(h:Bz H l x):Bz K l x:=Sl.mono h fun _ g=>g.mono hk
mutual
def GV.sz:GV→Nat
 |⟨_,_,_,_,_,l⟩=>1+szVs l
def szVs:List GV→Nat
 |[]=>0
 |v::r=>v.sz+szVs r
end
theorem GV.sz_eq (v:GV):v.sz=1+szVs v.l:=by cases v;simp only [GV.sz]
theorem D0:∀{l:List GV} {j:Nat} (h:j<l.length),(l[j]).sz≤szVs l
 |[],_,h=>by simp at h
 |v::r,0,_=>by simp only [szVs,List.getElem_cons_zero];omega
 |v::r,j+1,h=>by
  have:=D0 (l:=r) (j:=j) (by simpa using h)
  simp only [szVs,List.getElem_cons_succ];omega
mutual
def Ap.sz:Ap→Nat
 |⟨_,li,ma⟩=>1+szLs li+szMs ma
def As.sz:As→Nat
 |⟨_,_,a,_⟩=>1+a.sz
def B3.sz:B3→Nat
 |⟨e,_,_⟩=>1+e.sz
def Bp.sz:Bp→Nat
 |⟨f,e,_⟩=>1+szFs f+e.sz
def Au.sz:Au→Nat
 |⟨_,t,_⟩=>1+t.sz
def szLs:List B3→Nat
 |[]=>0
 |v::r=>v.sz+szLs r
def szMs:List Bp→Nat
 |[]=>0
 |v::r=>v.sz+szMs r
def szFs:List Au→Nat
 |[]=>0
 |v::r=>v.sz+szFs r
end
theorem Ap.sz_eq (v:Ap):v.sz=1+szLs v.li+szMs v.ma:=by cases v;simp only [Ap.sz]
theorem As.sz_eq (v:As):v.sz=1+v.atom.sz:=by cases v;simp only [As.sz]
theorem B3.sz_eq (v:B3):v.sz=1+v.elem.sz:=by cases v;simp only [B3.sz]
theorem Bp.sz_eq (v:Bp):v.sz=1+szFs v.fields+v.elem.sz:=by cases v;simp only [Bp.sz]
theorem Au.sz_eq (v:Au):v.sz=1+v.type.sz:=by cases v;simp only [Au.sz]
theorem szLs_get:∀{l:List B3} {j:Nat} (h:j<l.length),(l[j]).sz≤szLs l
 |[],_,h=>by simp at h
 |v::r,0,_=>by simp only [szLs,List.getElem_cons_zero];omega
 |v::r,j+1,h=>by
  have:=szLs_get (l:=r) (j:=j) (by simpa using h)
  simp only [szLs,List.getElem_cons_succ];omega
theorem szMs_get:∀{l:List Bp} {j:Nat} (h:j<l.length),(l[j]).sz≤szMs l
 |[],_,h=>by simp at h
 |v::r,0,_=>by simp only [szMs,List.getElem_cons_zero];omega
 |v::r,j+1,h=>by
  have:=szMs_get (l:=r) (j:=j) (by simpa using h)
  simp only [szMs,List.getElem_cons_succ];omega
theorem F0:∀{l:List Au} {j:Nat} (h:j<l.length),(l[j]).sz≤szFs l
 |[],_,h=>by simp at h
 |v::r,0,_=>by simp only [szFs,List.getElem_cons_zero];omega
 |v::r,j+1,h=>by
  have:=F0 (l:=r) (j:=j) (by simpa using h)
  simp only [szFs,List.getElem_cons_succ];omega
def Pur (w:World)(v:Value):Ending→World→Prop:=fun e w'=>e= .returned v∧Below w.heap.size w w'
theorem AQ {a b:Bool}(h:a=b):Ending.returned (.bool a)= .returned (.bool b):=by rw [h]
theorem retI {a b:Int}(h:a=b):Ending.returned (.int .i64 a)= .returned (.int .i64 b):=by rw [h]
abbrev Bw (a b:World):Prop:=Below a.heap.size a b
theorem Bw.rfl {a:World}:Bw a a:=Below.refl _ _
theorem Bw.tr {a b c:World}(h:Bw a b)(g:Bw b c):Bw a c:=Below.trans h (Below.mono g h.size)
theorem Bw.al {a b:World}(h:Bw a b)(o:Obj):Bw a (b.alloc o):=Below.alloc h h.size o
theorem Bw.dr {a b:World}(h:Bw a b):Bw a b.drew:=Below.drew h
theorem A5 {w:World}{o:Obj}:Bw w (w.alloc o):=(Below.refl _ _).alloc (Nat.le_refl _) _
theorem Am {w:World}{o p:Obj}:Bw w ((w.alloc o).alloc p):=A5.alloc (by simp) _
theorem Co {w:World}{o p q:Obj}:Bw w (((w.alloc o).alloc p).alloc q):=Am.alloc (by simp;omega) _
theorem bcell {W w1:World}(hb:Below W.heap.size W w1):(∀b o,b<W.heap.size→w1.cell? ⟨b,o,none⟩=W.cell? ⟨b,o,none⟩)∧(∀b o,b<W.heap.size→w1.frozen? ⟨b,o,none⟩=W.frozen? ⟨b,o,none⟩):=
 ⟨fun b o h=>hb.cell (p:=⟨b,o,none⟩) h,fun b o h=>hb.frozen (p:=⟨b,o,none⟩) h⟩
end
section
open Go Go.RowKit
def C5:Nat:=1048576
theorem bulk_lim {n:Nat}(h:n≤C5):n≤lim:=Nat.le_trans h (by unfold C5 lim;omega)
theorem bulk_mem {H:Type}{d:DataW H}:∀{l:List (DataW H)},d ∈ l→Rows.uptoBulk d≤Rows.uptoBulkAll l
 |x::r,h=>by
  simp only [Rows.uptoBulkAll]
  rcases List.mem_cons.1 h with rfl|h
  ·omega
  ·have:=bulk_mem h;omega
theorem bulk_one {H:Type}(d:DataW H):1≤Rows.uptoBulk d:=by
 cases d with
 |lit l=>cases l<;>simp [Rows.uptoBulk]
 |nil=>simp [Rows.uptoBulk]
 |ptr d=>simp [Rows.uptoBulk]
 |slice elems spare=>simp [Rows.uptoBulk]
 |agg parts=>simp [Rows.uptoBulk]
 |iface t d=>simp [Rows.uptoBulk]
 |map entries=>simp [Rows.uptoBulk]
 |held h=>simp [Rows.uptoBulk]
theorem bulk_len {H:Type}:∀(l:List (DataW H)),l.length≤Rows.uptoBulkAll l
 |[]=>by simp [Rows.uptoBulkAll]
 |x::r=>by have:=bulk_one x;have:=bulk_len r;simp only [Rows.uptoBulkAll,List.length_cons];omega
theorem EH {α:Type}{p:Nat→α→Prop}:∀(n:Nat),(∀i,i<n→∃a,p i a)→∃l:List α,l.length=n∧∀i (h:i<l.length),p i l[i]
 |0,_=>⟨[],rfl,fun i h=>by simp at h⟩
 |n+1,h=>by
  obtain⟨l,hl,hp⟩:=EH n fun i hi=>h i (by omega)
  obtain⟨a,ha⟩:=h n (by omega)
  refine⟨l++[a],by simp [hl],fun i hi=> ?_⟩
  by_cases hil:i<l.length
  ·rw [List.getElem_append_left hil];exact hp i hil
  ·have e:i=l.length:=by simp at hi;omega
   subst e
   simp only [List.getElem_concat_length]
   rw [hl];exact ha
theorem add_off (b o n:Nat):(⟨b,o,none⟩:Addr).add n=⟨b,o+n,none⟩:=by unfold Addr.add;split<;>simp_all
set_option maxRecDepth 100000
section
variable {H:Type} {enc:TypeId × Value→H} {w:World} {sp:Nat→Bool} {held:Bool}
def fieldsL:Option TypeDesc→List (TypeId × Nat)
 |some (.struct fs)=>fs.toList.map fun f=>(f.type,f.offset)
 |_=>[]
theorem Cm {t:TypeId}{L:List (TypeId × Nat)}{fuel:Nat}{cs:List Value}{x:DataW H × List MemPlace}(hL:fieldsL (Tryz.prog.underlying t)=L)(hne:0<L.length)(h:DataW.trod enc Tryz.prog w 0 sp held fuel t cs=some x)(hb:Rows.uptoBulk x.1≤C5):
  ∃n,fuel=n+1∧cs.length=Tryz.prog.cellsOf t∧∀(i:Nat) (p:TypeId × Nat),L[i]?=some p→∃y,DataW.trod enc Tryz.prog w 0 sp held n p.1 ((cs.drop p.2).take (Tryz.prog.cellsOf p.1))=some y∧Rows.uptoBulk y.1≤C5:=by
 have hs:∃fs,Tryz.prog.underlying t=some (.struct fs):=by
  unfold fieldsL at hL
  split at hL
  ·rename_i fs hfs;exact⟨fs,hfs⟩
  ·subst hL;simp at hne
 obtain⟨fs,hs⟩:=hs
 obtain⟨xs,n,rfl,rfl,hl,hlen,hf⟩:=DataW.trod_struct hs h
 refine⟨n,rfl,hl,fun i p hp=> ?_⟩
 rw [hs]at hL
 simp only [fieldsL]at hL
 subst hL
 rw [List.getElem?_map]at hp
 obtain⟨f,hf2,rfl⟩:=Option.map_eq_some_iff.1 hp
 have hi:i<xs.length:=by
  rw [hlen]
  have:=(List.getElem?_eq_some_iff.1 hf2).1
  simpa using this
 have:=hf i f (by simpa using hf2)
 rw [List.getElem?_eq_getElem hi]at this
 refine⟨_,this, ?_⟩
 have hm:xs[i].1 ∈ xs.map (·.1):=List.mem_map_of_mem (List.getElem_mem hi)
 have h1:=bulk_mem hm
 simp only [Rows.uptoBulk]at hb
 omega
theorem D8 {t e:TypeId}{z:Nat}{fuel:Nat}{cs:List Value}{x:DataW H × List MemPlace}(ht:Tryz.prog.underlying t=some (.slice e))(hz:Tryz.prog.cellsOf e=z)(hpos:0<z)(h:DataW.trod enc Tryz.prog w 0 sp held fuel t cs=some x)(hb:Rows.uptoBulk x.1≤C5):
  ∃a len cap,cs=[.slice a len cap]∧(a=none→cap=0∧len=0)∧len≤lim∧len≤cap∧∀i,i<len→∃b o n cs' y,a=some ⟨b,o,none⟩∧n<fuel∧cs'.length=z∧(∀j u,cs'[j]?=some u→A8 (At w) b (o+i * z+j)=some u)∧DataW.trod enc Tryz.prog w 0 sp held n e cs'=some y∧Rows.uptoBulk y.1≤C5:=by
 rcases DataW.trod_slice ht h with⟨rfl,rfl⟩|⟨a,len,cap,elems,rest,n,rfl,rfl,rfl,_,hl,hm,hlen,hel,_,_⟩
 ·exact⟨none,0,0,rfl,fun _=>⟨rfl,rfl⟩,Nat.zero_le _,Nat.le_refl _,fun i hi=>by omega⟩
 ·have hbl:len≤C5:=by
   have:=bulk_len (elems.map (·.1))
   simp only [Rows.uptoBulk,List.length_map]at hb this
   omega
  refine⟨some a,len,cap,rfl,by simp,bulk_lim hbl,hl,fun i hi=> ?_⟩
  have h1:=hel i hi
  rw [hz,List.getElem?_eq_getElem (by omega)]at h1
  obtain⟨cs',h2,h3⟩:=Option.bind_eq_some_iff.1 h1
  obtain⟨_,hl2,hc⟩:=World.cells?_some h2
  obtain⟨b,o,s⟩:=a
  have hsn:s=none:=by
   have g1:=hel 0 (by omega)
   rw [hz,List.getElem?_eq_getElem (by omega)]at g1
   obtain⟨cs0,g2,_⟩:=Option.bind_eq_some_iff.1 g1
   obtain⟨_,gl,gc⟩:=World.cells?_some g2
   have g0:=gc 0 (by omega)
   rw [List.getElem?_eq_getElem (by omega)]at g0
   simpa [Addr.add]using World.cell?_spot g0
  subst hsn
  refine⟨b,o,n,cs',_,rfl,by omega,hl2,fun j u hu=> ?_,h3, ?_⟩
  ·have hj:j<z:=by have:=(List.getElem?_eq_some_iff.1 hu).1;omega
   have:=hc j hj
   rw [hu]at this
   rw [Ai,←this]
   rw [add_off,add_off]
  ·have hm2:(elems[i]).1 ∈ elems.map (·.1):=List.mem_map_of_mem (List.getElem_mem _)
   have:=bulk_mem hm2
   simp only [Rows.uptoBulk]at hb
   omega
theorem int_down {t:TypeId}{fuel:Nat}{cs:List Value}{x:DataW H × List MemPlace}(ht:Tryz.prog.underlying t=some (.int .i64))(h:DataW.trod enc Tryz.prog w 0 sp held fuel t cs=some x):∃n,cs=[.int .i64 n]∧I64 n:=by
 obtain⟨n,rfl,_,hw⟩:=DataW.trod_int ht h
 refine⟨n,rfl, ?_⟩
 simp [Lit.wf,IntKind.min,IntKind.max,IntKind.signed,IntKind.bits]at hw
 exact hw
theorem float_down {t:TypeId}{fuel:Nat}{cs:List Value}{x:DataW H × List MemPlace}(ht:Tryz.prog.underlying t=some (.float .f64))(h:DataW.trod enc Tryz.prog w 0 sp held fuel t cs=some x):∃f,cs=[.float .f64 f]∧f<18446744073709551616:=by
 cases fuel with
 |zero=>simp [DataW.trod]at h
 |succ n=>
  unfold DataW.trod at h
  rw [ht]at h
  have hw:∃k b,cs=[.float k b]∧k= .f64∧(Lit.float .f64 b).wf=true:=by
   split at h<;>simp_all
   grind
  obtain⟨k,b,rfl,rfl,hw⟩:=hw
  exact⟨b,rfl,by simpa [Lit.wf]using hw⟩
theorem Dq {t:TypeId}{fuel:Nat}{cs:List Value}{x:DataW H × List MemPlace}(ht:Tryz.prog.underlying t=some .string)(h:DataW.trod enc Tryz.prog w 0 sp held fuel t cs=some x)(hb:Rows.uptoBulk x.1≤C5):∃s,cs=[.string s]∧s.size≤lim:=by
 obtain⟨s,rfl,rfl,_⟩:=DataW.trod_string ht h
 refine⟨s,rfl, ?_⟩
 simp only [Rows.uptoBulk]at hb
 have e:s.data.toList.length=s.size:=by rw [Array.length_toList];rfl
 exact bulk_lim (by omega)
theorem strs_down {t:TypeId}{fuel:Nat}{cs:List Value}{x:DataW H × List MemPlace}(ht:Tryz.prog.underlying t=some (.slice 9))(h:DataW.trod enc Tryz.prog w 0 sp held fuel t cs=some x)(hb:Rows.uptoBulk x.1≤C5):∃l v,cs=[v]∧Cv (At w) l v:=by
 obtain⟨a,len,cap,rfl,hn,hl,hc,hx⟩:=D8 ht (z:=1) (by kernel_rfl) (by omega) h hb
 obtain⟨l,hll,hp⟩:=EH (p:=fun i s=>∃b o,a=some ⟨b,o,none⟩∧A8 (At w) b (o+i)=some (.string s)∧s.size≤lim) len (fun i hi=>by
  obtain⟨b,o,n,cs',y,rfl,_,_,hcell,htr,hby⟩:=hx i hi
  obtain⟨s,rfl,hs⟩:=Dq (t:=9) (by kernel_rfl) htr hby
  exact⟨s,b,o,rfl,by simpa using hcell 0 (.string s) rfl,hs⟩)
 subst hll
 exact⟨l,_,rfl,a,cap,rfl,hn,hl,hc,Bt.mk fun j hj=>by simpa using hp j hj⟩
theorem val_down:∀(fuel:Nat) (cs:List Value) (x:DataW H × List MemPlace),DataW.trod enc Tryz.prog w 0 sp held fuel 35 cs=some x→Rows.uptoBulk x.1≤C5→
  ∃v x4 x5,cs=[.int .i64 v.k, .int .i64 v.n, .float .f64 v.f, .string v.s,x4,x5]∧RV (At w) v x4 x5:=by
 intro fuel
 induction fuel using Nat.strongRecOn with
 |_ fuel ih=>
  intro cs x h hb
  obtain⟨n,rfl,hlen,hf⟩:=Cm (L:=[(3,0),(2,1),(31,2),(9,3),(32,4),(33,5)]) (by kernel_rfl) (by decide) h hb
  have hz:Tryz.prog.cellsOf 35=6:=by kernel_rfl
  rw [hz]at hlen
  obtain⟨c0,c1,c2,c3,c4,c5,rfl⟩:∃c0 c1 c2 c3 c4 c5,cs=[c0,c1,c2,c3,c4,c5]:=by
   match cs,hlen with
   |[c0,c1,c2,c3,c4,c5],_=>exact⟨_,_,_,_,_,_,rfl⟩
  obtain⟨y0,t0,b0⟩:=hf 0 _ rfl
  obtain⟨y1,t1,b1⟩:=hf 1 _ rfl
  obtain⟨y2,t2,b2⟩:=hf 2 _ rfl
  obtain⟨y3,t3,b3⟩:=hf 3 _ rfl
  obtain⟨y4,t4,b4⟩:=hf 4 _ rfl
  obtain⟨y5,t5,b5⟩:=hf 5 _ rfl
  have z0:Tryz.prog.cellsOf 3=1:=by kernel_rfl
  have z1:Tryz.prog.cellsOf 2=1:=by kernel_rfl
  have z2:Tryz.prog.cellsOf 31=1:=by kernel_rfl
  have z3:Tryz.prog.cellsOf 9=1:=by kernel_rfl
  have z4:Tryz.prog.cellsOf 32=1:=by kernel_rfl
  have z5:Tryz.prog.cellsOf 33=1:=by kernel_rfl
  simp only [z0,z1,z2,z3,z4,z5,List.drop_zero,List.drop_succ_cons,List.take_succ_cons,List.take_zero]at t0 t1 t2 t3 t4 t5
  obtain⟨k,e0,hk⟩:=int_down (by kernel_rfl) t0
  obtain⟨m,e1,hm⟩:=int_down (by kernel_rfl) t1
  obtain⟨f,e2,hfw⟩:=float_down (by kernel_rfl) t2
  obtain⟨s,e3,hs⟩:=Dq (by kernel_rfl) t3 b3
  obtain⟨ks,v4,e4,hks⟩:=strs_down (by kernel_rfl) t4 b4
  obtain⟨a,len,cap,e5,hn,hl,hc,hx⟩:=D8 (e:=35) (z:=6) (by kernel_rfl) (by kernel_rfl) (by omega) t5 b5
  cases e0;cases e1;cases e2;cases e3;cases e4;cases e5
  obtain⟨l,hll,hp⟩:=EH (p:=fun i v=>∃b o x4 x5,a=some ⟨b,o,none⟩∧CV (At w) b (o+i * 6) v x4 x5∧RV (At w) v x4 x5) len (fun i hi=>by
   obtain⟨b,o,q,cs',y,rfl,hq,_,hcell,htr,hby⟩:=hx i hi
   obtain⟨v,x4,x5,rfl,hv⟩:=ih q (by omega) _ _ htr hby
   exact⟨v,b,o,x4,x5,rfl,⟨hcell 0 _ rfl,hcell 1 _ rfl,hcell 2 _ rfl,hcell 3 _ rfl,hcell 4 _ rfl,hcell 5 _ rfl⟩,hv⟩)
  subst hll
  refine⟨⟨k,m,f,s,ks,l⟩,_, .slice a l.length cap,rfl,By.2 ⟨hk,hm, ?_,hs,hks,a,cap,rfl,hn,hl,hc,CX.mk fun j hj=>by simpa using hp j hj⟩⟩
  exact hfw
def F2 (r:As)(x1 x2:Value):List Value:=[.bool r.named, .string r.name, .string r.atom.sc,x1,x2, .string r.rel]
theorem cellsR_of {b o:Nat}{r:As}{x1 x2:Value}{cs:List Value}(k:Nat)(hc:∀j u,cs[j]?=some u→A8 (At w) b (o+j)=some u)(hr:∀i,i<6→cs[k+i]?=(F2 r x1 x2)[i]?):Ft (At w) b (o+k) r x1 x2:=by
 have h:∀i,i<6→∀u,(F2 r x1 x2)[i]?=some u→A8 (At w) b (o+k+i)=some u:=fun i hi u hu=>by
  rw [Nat.add_assoc];exact hc _ _ ((hr i hi).trans hu)
 exact⟨h 0 (by omega) _ rfl,h 1 (by omega) _ rfl,h 2 (by omega) _ rfl,h 3 (by omega) _ rfl,h 4 (by omega) _ rfl,h 5 (by omega) _ rfl⟩
theorem eight {cs:List Value}(h:cs.length=8):∃c0 c1 c2 c3 c4 c5 c6 c7,cs=[c0,c1,c2,c3,c4,c5,c6,c7]:=by
 match cs,h with
 |[c0,c1,c2,c3,c4,c5,c6,c7],_=>exact⟨_,_,_,_,_,_,_,_,rfl⟩
theorem bool_down {t:TypeId}{fuel:Nat}{cs:List Value}{x:DataW H × List MemPlace}(ht:Tryz.prog.underlying t=some .bool)(h:DataW.trod enc Tryz.prog w 0 sp held fuel t cs=some x):∃b,cs=[.bool b]:=by
 obtain⟨b,rfl,_⟩:=DataW.trod_bool ht h;exact⟨b,rfl⟩
theorem vals_down {t:TypeId}{fuel:Nat}{cs:List Value}{x:DataW H × List MemPlace}(ht:Tryz.prog.underlying t=some (.slice 35))(h:DataW.trod enc Tryz.prog w 0 sp held fuel t cs=some x)(hb:Rows.uptoBulk x.1≤C5):∃l v,cs=[v]∧RVs (At w) l v:=by
 obtain⟨a,len,cap,rfl,hn,hl,hc,hx⟩:=D8 ht (z:=6) (by kernel_rfl) (by omega) h hb
 obtain⟨l,hll,hp⟩:=EH (p:=fun i v=>∃b o x4 x5,a=some ⟨b,o,none⟩∧CV (At w) b (o+i * 6) v x4 x5∧RV (At w) v x4 x5) len (fun i hi=>by
  obtain⟨b,o,q,cs',y,rfl,hq,_,hcell,htr,hby⟩:=hx i hi
  obtain⟨v,x4,x5,rfl,hv⟩:=val_down q _ _ htr hby
  exact⟨v,b,o,x4,x5,rfl,⟨hcell 0 _ rfl,hcell 1 _ rfl,hcell 2 _ rfl,hcell 3 _ rfl,hcell 4 _ rfl,hcell 5 _ rfl⟩,hv⟩)
 subst hll
 exact⟨l,_,rfl,a,cap,rfl,hn,hl,hc,CX.mk fun j hj=>by simpa using hp j hj⟩
theorem types_down:∀(fuel:Nat),
  (∀(cs:List Value) (x:DataW H × List MemPlace),DataW.trod enc Tryz.prog w 0 sp held fuel 28 cs=some x→Rows.uptoBulk x.1≤C5→∃a x1 x2,cs=[.string a.sc,x1,x2]∧BQ (At w) a x1 x2)∧
  (∀(cs:List Value) (x:DataW H × List MemPlace),DataW.trod enc Tryz.prog w 0 sp held fuel 30 cs=some x→Rows.uptoBulk x.1≤C5→∃r x1 x2,cs=F2 r x1 x2∧Cy (At w) r x1 x2)∧
  (∀(cs:List Value) (x:DataW H × List MemPlace),DataW.trod enc Tryz.prog w 0 sp held fuel 67 cs=some x→Rows.uptoBulk x.1≤C5→∃t x1 x2 xk,cs=F2 t.elem x1 x2++[.string t.rel,xk]∧D4 (At w) t x1 x2 xk)∧
  (∀(cs:List Value) (x:DataW H × List MemPlace),DataW.trod enc Tryz.prog w 0 sp held fuel 48 cs=some x→Rows.uptoBulk x.1≤C5→∃t xf x1 x2,cs=xf::F2 t.elem x1 x2++[.string t.rel]∧RMap (At w) t xf x1 x2)∧
  (∀(cs:List Value) (x:DataW H × List MemPlace),DataW.trod enc Tryz.prog w 0 sp held fuel 45 cs=some x→Rows.uptoBulk x.1≤C5→∃t x1 x2 xd,cs= .string t.name::F2 t.type x1 x2++[xd]∧Cz (At w) t x1 x2 xd):=by
 intro fuel
 induction fuel using Nat.strongRecOn with
 |_ fuel ih=>
  have zS:Tryz.prog.cellsOf 9=1:=by kernel_rfl
  have zB:Tryz.prog.cellsOf 4=1:=by kernel_rfl
  have zL:Tryz.prog.cellsOf 25=1:=by kernel_rfl
  have zM:Tryz.prog.cellsOf 26=1:=by kernel_rfl
  have zF:Tryz.prog.cellsOf 46=1:=by kernel_rfl
  have zK:Tryz.prog.cellsOf 32=1:=by kernel_rfl
  have zV:Tryz.prog.cellsOf 33=1:=by kernel_rfl
  have zA:Tryz.prog.cellsOf 28=3:=by kernel_rfl
  have zR:Tryz.prog.cellsOf 30=6:=by kernel_rfl
  have z8:Tryz.prog.cellsOf 67=8:=by kernel_rfl
  have z9:Tryz.prog.cellsOf 48=8:=by kernel_rfl
  have z10:Tryz.prog.cellsOf 45=8:=by kernel_rfl
  refine⟨?_, ?_, ?_, ?_, ?_⟩
  ·intro cs x h hb
   obtain⟨n,rfl,hlen,hf⟩:=Cm (L:=[(9,0),(25,1),(26,2)]) (by kernel_rfl) (by decide) h hb
   rw [zA]at hlen
   obtain⟨c0,c1,c2,rfl⟩:∃c0 c1 c2,cs=[c0,c1,c2]:=by
    match cs,hlen with
    |[c0,c1,c2],_=>exact⟨_,_,_,rfl⟩
   obtain⟨y0,t0,b0⟩:=hf 0 _ rfl
   obtain⟨y1,t1,b1⟩:=hf 1 _ rfl
   obtain⟨y2,t2,b2⟩:=hf 2 _ rfl
   simp only [zS,zL,zM,List.drop_zero,List.drop_succ_cons,List.take_succ_cons,List.take_zero]at t0 t1 t2
   obtain⟨s,e0,hs⟩:=Dq (by kernel_rfl) t0 b0
   obtain⟨a1,len1,cap1,e1,hn1,hl1,hc1,hx1⟩:=D8 (e:=67) (z:=8) (by kernel_rfl) (by kernel_rfl) (by omega) t1 b1
   obtain⟨a2,len2,cap2,e2,hn2,hl2,hc2,hx2⟩:=D8 (e:=48) (z:=8) (by kernel_rfl) (by kernel_rfl) (by omega) t2 b2
   cases e0;cases e1;cases e2
   obtain⟨l,hll,hp⟩:=EH (p:=fun i t=>∃b o x1 x2 xk,a1=some ⟨b,o,none⟩∧cellsL (At w) b (o+i * 8) t x1 x2 xk∧D4 (At w) t x1 x2 xk) len1 (fun i hi=>by
    obtain⟨b,o,q,cs',y,rfl,hq,_,hcell,htr,hby⟩:=hx1 i hi
    obtain⟨t,x1,x2,xk,rfl,hv⟩:=(ih q (by omega)).2.2.1 _ _ htr hby
    exact⟨t,b,o,x1,x2,xk,rfl,⟨cellsR_of 0 hcell (fun i hi=>by match i,hi with|0,_|1,_|2,_|3,_|4,_|5,_=>rfl),hcell 6 _ rfl,hcell 7 _ rfl⟩,hv⟩)
   obtain⟨m,hml,hq⟩:=EH (p:=fun i t=>∃b o xf x1 x2,a2=some ⟨b,o,none⟩∧cellsM (At w) b (o+i * 8) t xf x1 x2∧RMap (At w) t xf x1 x2) len2 (fun i hi=>by
    obtain⟨b,o,q,cs',y,rfl,hq,_,hcell,htr,hby⟩:=hx2 i hi
    obtain⟨t,xf,x1,x2,rfl,hv⟩:=(ih q (by omega)).2.2.2.1 _ _ htr hby
    exact⟨t,b,o,xf,x1,x2,rfl,⟨hcell 0 _ rfl,cellsR_of 1 hcell (fun i hi=>by match i,hi with|0,_|1,_|2,_|3,_|4,_|5,_=>rfl),hcell 7 _ rfl⟩,hv⟩)
   subst hll hml
   exact⟨⟨s,l,m⟩,_,_,rfl,Bd.2 ⟨hs,⟨a1,cap1,rfl,hn1,hl1,hc1,Bb.mk fun j hj=>by simpa using hp j hj⟩,⟨a2,cap2,rfl,hn2,hl2,hc2,Bu.mk fun j hj=>by simpa using hq j hj⟩⟩⟩
  ·intro cs x h hb
   obtain⟨n,rfl,hlen,hf⟩:=Cm (L:=[(4,0),(9,1),(28,2),(9,5)]) (by kernel_rfl) (by decide) h hb
   rw [zR]at hlen
   obtain⟨c0,c1,c2,c3,c4,c5,rfl⟩:∃c0 c1 c2 c3 c4 c5,cs=[c0,c1,c2,c3,c4,c5]:=by
    match cs,hlen with
    |[c0,c1,c2,c3,c4,c5],_=>exact⟨_,_,_,_,_,_,rfl⟩
   obtain⟨y0,t0,b0⟩:=hf 0 _ rfl
   obtain⟨y1,t1,b1⟩:=hf 1 _ rfl
   obtain⟨y2,t2,b2⟩:=hf 2 _ rfl
   obtain⟨y3,t3,b3⟩:=hf 3 _ rfl
   simp only [zS,zB,zA,List.drop_zero,List.drop_succ_cons,List.take_succ_cons,List.take_zero]at t0 t1 t2 t3
   obtain⟨nm,e0⟩:=bool_down (by kernel_rfl) t0
   obtain⟨s,e1,hs⟩:=Dq (by kernel_rfl) t1 b1
   obtain⟨a,x1,x2,e2,ha⟩:=(ih n (by omega)).1 _ _ t2 b2
   obtain⟨rl,e3,hrl⟩:=Dq (by kernel_rfl) t3 b3
   cases e0;cases e1;cases e2;cases e3
   exact⟨⟨nm,s,a,rl⟩,_,_,rfl,BP.2 ⟨hs,hrl,ha⟩⟩
  ·intro cs x h hb
   obtain⟨n,rfl,hlen,hf⟩:=Cm (L:=[(30,0),(9,6),(32,7)]) (by kernel_rfl) (by decide) h hb
   rw [z8]at hlen
   obtain⟨c0,c1,c2,c3,c4,c5,c6,c7,rfl⟩:=eight hlen
   obtain⟨y0,t0,b0⟩:=hf 0 _ rfl
   obtain⟨y1,t1,b1⟩:=hf 1 _ rfl
   obtain⟨y2,t2,b2⟩:=hf 2 _ rfl
   simp only [zS,zR,zK,List.drop_zero,List.drop_succ_cons,List.take_succ_cons,List.take_zero]at t0 t1 t2
   obtain⟨r,x1,x2,e0,hr⟩:=(ih n (by omega)).2.1 _ _ t0 b0
   obtain⟨rl,e1,hrl⟩:=Dq (by kernel_rfl) t1 b1
   obtain⟨ks,xk,e2,hks⟩:=strs_down (by kernel_rfl) t2 b2
   cases e0;cases e1;cases e2
   exact⟨⟨r,rl,ks⟩,_,_,_,rfl,C8.2 ⟨hrl,hks,hr⟩⟩
  ·intro cs x h hb
   obtain⟨n,rfl,hlen,hf⟩:=Cm (L:=[(46,0),(30,1),(9,7)]) (by kernel_rfl) (by decide) h hb
   rw [z9]at hlen
   obtain⟨c0,c1,c2,c3,c4,c5,c6,c7,rfl⟩:=eight hlen
   obtain⟨y0,t0,b0⟩:=hf 0 _ rfl
   obtain⟨y1,t1,b1⟩:=hf 1 _ rfl
   obtain⟨y2,t2,b2⟩:=hf 2 _ rfl
   simp only [zS,zR,zF,List.drop_zero,List.drop_succ_cons,List.take_succ_cons,List.take_zero]at t0 t1 t2
   obtain⟨a1,len1,cap1,e0,hn1,hl1,hc1,hx1⟩:=D8 (e:=45) (z:=8) (by kernel_rfl) (by kernel_rfl) (by omega) t0 b0
   obtain⟨r,x1,x2,e1,hr⟩:=(ih n (by omega)).2.1 _ _ t1 b1
   obtain⟨rl,e2,hrl⟩:=Dq (by kernel_rfl) t2 b2
   cases e0;cases e1;cases e2
   obtain⟨l,hll,hp⟩:=EH (p:=fun i t=>∃b o x1 x2 xd,a1=some ⟨b,o,none⟩∧cellsF (At w) b (o+i * 8) t x1 x2 xd∧Cz (At w) t x1 x2 xd) len1 (fun i hi=>by
    obtain⟨b,o,q,cs',y,rfl,hq,_,hcell,htr,hby⟩:=hx1 i hi
    obtain⟨t,x1,x2,xd,rfl,hv⟩:=(ih q (by omega)).2.2.2.2 _ _ htr hby
    exact⟨t,b,o,x1,x2,xd,rfl,⟨hcell 0 _ rfl,cellsR_of 1 hcell (fun i hi=>by match i,hi with|0,_|1,_|2,_|3,_|4,_|5,_=>rfl),hcell 7 _ rfl⟩,hv⟩)
   subst hll
   exact⟨⟨l,r,rl⟩,_,_,_,rfl,Cl.2 ⟨hrl,⟨a1,cap1,rfl,hn1,hl1,hc1,B8.mk fun j hj=>by simpa using hp j hj⟩,hr⟩⟩
  ·intro cs x h hb
   obtain⟨n,rfl,hlen,hf⟩:=Cm (L:=[(9,0),(30,1),(33,7)]) (by kernel_rfl) (by decide) h hb
   rw [z10]at hlen
   obtain⟨c0,c1,c2,c3,c4,c5,c6,c7,rfl⟩:=eight hlen
   obtain⟨y0,t0,b0⟩:=hf 0 _ rfl
   obtain⟨y1,t1,b1⟩:=hf 1 _ rfl
   obtain⟨y2,t2,b2⟩:=hf 2 _ rfl
   simp only [zS,zR,zV,List.drop_zero,List.drop_succ_cons,List.take_succ_cons,List.take_zero]at t0 t1 t2
   obtain⟨s,e0,hs⟩:=Dq (by kernel_rfl) t0 b0
   obtain⟨r,x1,x2,e1,hr⟩:=(ih n (by omega)).2.1 _ _ t1 b1
   obtain⟨vs,xd,e2,hvs⟩:=vals_down (by kernel_rfl) t2 b2
   cases e0;cases e1;cases e2
   exact⟨⟨s,r,vs⟩,_,_,_,rfl,C3.2 ⟨hs,hr,hvs⟩⟩
theorem schema_down {fuel:Nat}{cs:List Value}{x:DataW H × List MemPlace}(h:DataW.trod enc Tryz.prog w 0 sp held fuel 24 cs=some x)(hb:Rows.uptoBulk x.1≤C5):∃s v,cs=[v]∧DH (At w) s v:=by
 have zD:Tryz.prog.cellsOf 22=1:=by kernel_rfl
 have zS:Tryz.prog.cellsOf 9=1:=by kernel_rfl
 have zA:Tryz.prog.cellsOf 28=3:=by kernel_rfl
 obtain⟨n,rfl,hlen,hf⟩:=Cm (L:=[(22,0)]) (by kernel_rfl) (by decide) h hb
 rw [show Tryz.prog.cellsOf 24=1 by kernel_rfl]at hlen
 obtain⟨c0,rfl⟩:∃c0,cs=[c0]:=by
  match cs,hlen with
  |[c0],_=>exact⟨_,rfl⟩
 obtain⟨y0,t0,b0⟩:=hf 0 _ rfl
 simp only [zD,List.drop_zero,List.take_succ_cons,List.take_zero]at t0
 obtain⟨a1,len1,cap1,e0,hn1,hl1,hc1,hx1⟩:=D8 (e:=72) (z:=4) (by kernel_rfl) (by kernel_rfl) (by omega) t0 b0
 cases e0
 obtain⟨l,hll,hp⟩:=EH (p:=fun i t=>∃b o x1 x2,a1=some ⟨b,o,none⟩∧cellsD (At w) b (o+i * 4) t x1 x2∧t.name.size≤lim∧BQ (At w) t.atom x1 x2) len1 (fun i hi=>by
  obtain⟨b,o,q,cs',y,rfl,hq,hl4,hcell,htr,hby⟩:=hx1 i hi
  obtain⟨n2,rfl,_,hf2⟩:=Cm (L:=[(9,0),(28,1)]) (by kernel_rfl) (by decide) htr hby
  obtain⟨c0,c1,c2,c3,rfl⟩:∃c0 c1 c2 c3,cs'=[c0,c1,c2,c3]:=by
   match cs',hl4 with
   |[c0,c1,c2,c3],_=>exact⟨_,_,_,_,rfl⟩
  obtain⟨y0,t0,b0⟩:=hf2 0 _ rfl
  obtain⟨y1,t1,b1⟩:=hf2 1 _ rfl
  simp only [zS,zA,List.drop_zero,List.drop_succ_cons,List.take_succ_cons,List.take_zero]at t0 t1
  obtain⟨s,e0,hs⟩:=Dq (by kernel_rfl) t0 b0
  obtain⟨a,x1,x2,e1,ha⟩:=(types_down n2).1 _ _ t1 b1
  cases e0;cases e1
  exact⟨⟨s,a⟩,b,o,_,_,rfl,⟨hcell 0 _ rfl,hcell 1 _ rfl,hcell 2 _ rfl,hcell 3 _ rfl⟩,hs,ha⟩)
 subst hll
 exact⟨l,_,rfl,a1,cap1,rfl,hn1,hl1,hc1,CF.mk fun j hj=>by simpa using hp j hj⟩
end
end
section
open Go.RowKit
theorem C1 {α:Type}{l:List α}{j:Nat}(h:j<l.length):l.drop j=l[j]::l.drop (j+1):=by
 rw [List.drop_eq_getElem_cons h]
theorem Cv.open {H:Hp}{l:List ByteArray}{x:Value}(h:Cv H l x):∃a c,x= .slice a l.length c:=by
 obtain⟨a,c,e,_⟩:=h;exact⟨a,c,e⟩
theorem RVs.open {H:Hp}{l:List GV}{x:Value}(h:RVs H l x):∃a c,x= .slice a l.length c:=by
 obtain⟨a,c,e,_⟩:=h;exact⟨a,c,e⟩
theorem RV.open {H:Hp}{v:GV}{x4 x5:Value}(h:RV H v x4 x5):∃a4 c4 a5 c5,x4= .slice a4 v.ks.length c4∧x5= .slice a5 v.l.length c5:=by
 obtain⟨_,_,_,_,⟨a,c,e,_⟩,⟨a',c',e',_⟩⟩:=By.1 h
 exact⟨a,c,a',c',e,e'⟩
theorem BQ.open {H:Hp}{v:Ap}{x1 x2:Value}(h:BQ H v x1 x2):∃a1 c1 a2 c2,x1= .slice a1 v.li.length c1∧x2= .slice a2 v.ma.length c2:=by
 obtain⟨_,⟨a,c,e,_⟩,⟨a',c',e',_⟩⟩:=Bd.1 h
 exact⟨a,c,a',c',e,e'⟩
theorem Cy.open {H:Hp}{v:As}{x1 x2:Value}(h:Cy H v x1 x2):∃a1 c1 a2 c2,x1= .slice a1 v.atom.li.length c1∧x2= .slice a2 v.atom.ma.length c2:=
 (BP.1 h).2.2.open
theorem Imm.cells6 {H:Hp}{w:World}(hi:Imm H w){b o:Nat}{v:GV}{x4 x5:Value}(h:CV H b o v x4 x5):
  w.cell? ⟨b,o,none⟩=some (.int .i64 v.k)∧w.cell? ⟨b,o+1,none⟩=some (.int .i64 v.n)∧w.cell? ⟨b,o+2,none⟩=some (.float .f64 v.f)∧w.cell? ⟨b,o+3,none⟩=some (.string v.s)∧
  w.cell? ⟨b,o+4,none⟩=some x4∧w.cell? ⟨b,o+5,none⟩=some x5:=
 ⟨hi.cell h.1,hi.cell h.2.1,hi.cell h.2.2.1,hi.cell h.2.2.2.1,hi.cell h.2.2.2.2.1,hi.cell h.2.2.2.2.2⟩
theorem Bt.look {H:Hp}{w:World}(hi:Imm H w){a:Option Addr}{l:List ByteArray}(h:Bt H a 0 l){j:Nat}(hj:j<l.length):
  ∃b o,a=some ⟨b,o,none⟩∧w.cell? ⟨b,o+j,none⟩=some (.string l[j])∧l[j].size≤lim:=by
 obtain⟨b,o,rfl,hc,hs⟩:=h.get j hj
 rw [Nat.zero_add]at hc
 exact⟨b,o,rfl,hi.cell hc,hs⟩
theorem CX.look {H:Hp}{w:World}(hi:Imm H w){a:Option Addr}{l:List GV}(h:CX H a 0 l){j:Nat}(hj:j<l.length):
  ∃b o a4 c4 a5 c5,a=some ⟨b,o,none⟩∧RV H l[j] (.slice a4 l[j].ks.length c4) (.slice a5 l[j].l.length c5)∧
   w.cell? ⟨b,o+j * 6,none⟩=some (.int .i64 l[j].k)∧w.cell? ⟨b,o+j * 6+1,none⟩=some (.int .i64 l[j].n)∧w.cell? ⟨b,o+j * 6+2,none⟩=some (.float .f64 l[j].f)∧
   w.cell? ⟨b,o+j * 6+3,none⟩=some (.string l[j].s)∧w.cell? ⟨b,o+j * 6+4,none⟩=some (.slice a4 l[j].ks.length c4)∧w.cell? ⟨b,o+j * 6+5,none⟩=some (.slice a5 l[j].l.length c5):=by
 obtain⟨b,o,x4,x5,rfl,hc,hv⟩:=h.get j hj
 obtain⟨a4,c4,a5,c5,rfl,rfl⟩:=hv.open
 rw [Nat.zero_add]at hc
 exact⟨b,o,a4,c4,a5,c5,rfl,hv,hi.cells6 hc⟩
theorem Bb.look {H:Hp}{w:World}(hi:Imm H w){a:Option Addr}{l:List B3}(h:Bb H a 0 l){j:Nat}(hj:j<l.length):
  ∃b o a1 c1 a2 c2 ak ck,a=some ⟨b,o,none⟩∧D4 H l[j] (.slice a1 l[j].elem.atom.li.length c1) (.slice a2 l[j].elem.atom.ma.length c2) (.slice ak l[j].keys.length ck)∧
   w.cell? ⟨b,o+j * 8,none⟩=some (.bool l[j].elem.named)∧w.cell? ⟨b,o+j * 8+1,none⟩=some (.string l[j].elem.name)∧w.cell? ⟨b,o+j * 8+2,none⟩=some (.string l[j].elem.atom.sc)∧
   w.cell? ⟨b,o+j * 8+3,none⟩=some (.slice a1 l[j].elem.atom.li.length c1)∧w.cell? ⟨b,o+j * 8+4,none⟩=some (.slice a2 l[j].elem.atom.ma.length c2)∧
   w.cell? ⟨b,o+j * 8+5,none⟩=some (.string l[j].elem.rel)∧w.cell? ⟨b,o+j * 8+6,none⟩=some (.string l[j].rel)∧w.cell? ⟨b,o+j * 8+7,none⟩=some (.slice ak l[j].keys.length ck):=by
 obtain⟨b,o,x1,x2,xk,rfl,⟨hr,h6,h7⟩,hv⟩:=h.get j hj
 obtain⟨_,hk,hrr⟩:=C8.1 hv
 obtain⟨a1,c1,a2,c2,rfl,rfl⟩:=hrr.open
 obtain⟨ak,ck,rfl⟩:=hk.open
 simp only [Nat.zero_add]at hr h6 h7
 exact⟨b,o,a1,c1,a2,c2,ak,ck,rfl,hv,hi.cell hr.1,hi.cell hr.2.1,hi.cell hr.2.2.1,hi.cell hr.2.2.2.1,hi.cell hr.2.2.2.2.1,hi.cell hr.2.2.2.2.2,hi.cell h6,hi.cell h7⟩
theorem Bu.look {H:Hp}{w:World}(hi:Imm H w){a:Option Addr}{l:List Bp}(h:Bu H a 0 l){j:Nat}(hj:j<l.length):
  ∃b o af cf a1 c1 a2 c2,a=some ⟨b,o,none⟩∧RMap H l[j] (.slice af l[j].fields.length cf) (.slice a1 l[j].elem.atom.li.length c1) (.slice a2 l[j].elem.atom.ma.length c2)∧
   w.cell? ⟨b,o+j * 8,none⟩=some (.slice af l[j].fields.length cf)∧
   w.cell? ⟨b,o+j * 8+1,none⟩=some (.bool l[j].elem.named)∧w.cell? ⟨b,o+j * 8+2,none⟩=some (.string l[j].elem.name)∧w.cell? ⟨b,o+j * 8+3,none⟩=some (.string l[j].elem.atom.sc)∧
   w.cell? ⟨b,o+j * 8+4,none⟩=some (.slice a1 l[j].elem.atom.li.length c1)∧w.cell? ⟨b,o+j * 8+5,none⟩=some (.slice a2 l[j].elem.atom.ma.length c2)∧
   w.cell? ⟨b,o+j * 8+6,none⟩=some (.string l[j].elem.rel)∧w.cell? ⟨b,o+j * 8+7,none⟩=some (.string l[j].rel):=by
 obtain⟨b,o,xf,x1,x2,rfl,⟨h0,hr,h7⟩,hv⟩:=h.get j hj
 obtain⟨_,⟨af,cf,rfl,_⟩,hrr⟩:=Cl.1 hv
 obtain⟨a1,c1,a2,c2,rfl,rfl⟩:=hrr.open
 simp only [Nat.zero_add,Ft,Nat.add_assoc]at h0 hr h7
 simp only [Nat.add_assoc]
 exact⟨b,o,af,cf,a1,c1,a2,c2,rfl,hv,hi.cell h0,hi.cell hr.1,hi.cell hr.2.1,hi.cell hr.2.2.1,hi.cell hr.2.2.2.1,hi.cell hr.2.2.2.2.1,hi.cell hr.2.2.2.2.2,hi.cell h7⟩
theorem B8.look {H:Hp}{w:World}(hi:Imm H w){a:Option Addr}{l:List Au}(h:B8 H a 0 l){j:Nat}(hj:j<l.length):
  ∃b o a1 c1 a2 c2 ad cd,a=some ⟨b,o,none⟩∧Cz H l[j] (.slice a1 l[j].type.atom.li.length c1) (.slice a2 l[j].type.atom.ma.length c2) (.slice ad l[j].dflt.length cd)∧
   w.cell? ⟨b,o+j * 8,none⟩=some (.string l[j].name)∧
   w.cell? ⟨b,o+j * 8+1,none⟩=some (.bool l[j].type.named)∧w.cell? ⟨b,o+j * 8+2,none⟩=some (.string l[j].type.name)∧w.cell? ⟨b,o+j * 8+3,none⟩=some (.string l[j].type.atom.sc)∧
   w.cell? ⟨b,o+j * 8+4,none⟩=some (.slice a1 l[j].type.atom.li.length c1)∧w.cell? ⟨b,o+j * 8+5,none⟩=some (.slice a2 l[j].type.atom.ma.length c2)∧
   w.cell? ⟨b,o+j * 8+6,none⟩=some (.string l[j].type.rel)∧w.cell? ⟨b,o+j * 8+7,none⟩=some (.slice ad l[j].dflt.length cd):=by
 obtain⟨b,o,x1,x2,xd,rfl,⟨h0,hr,h7⟩,hv⟩:=h.get j hj
 obtain⟨_,hrr,⟨ad,cd,rfl,_⟩⟩:=C3.1 hv
 obtain⟨a1,c1,a2,c2,rfl,rfl⟩:=hrr.open
 simp only [Nat.zero_add,Ft,Nat.add_assoc]at h0 hr h7
 simp only [Nat.add_assoc]
 exact⟨b,o,a1,c1,a2,c2,ad,cd,rfl,hv,hi.cell h0,hi.cell hr.1,hi.cell hr.2.1,hi.cell hr.2.2.1,hi.cell hr.2.2.2.1,hi.cell hr.2.2.2.2.1,hi.cell hr.2.2.2.2.2,hi.cell h7⟩
theorem CF.look {H:Hp}{w:World}(hi:Imm H w){a:Option Addr}{l:List Ax}(h:CF H a 0 l){j:Nat}(hj:j<l.length):
  ∃b o a1 c1 a2 c2,a=some ⟨b,o,none⟩∧BQ H l[j].atom (.slice a1 l[j].atom.li.length c1) (.slice a2 l[j].atom.ma.length c2)∧l[j].name.size≤lim∧
   w.cell? ⟨b,o+j * 4,none⟩=some (.string l[j].name)∧w.cell? ⟨b,o+j * 4+1,none⟩=some (.string l[j].atom.sc)∧
   w.cell? ⟨b,o+j * 4+2,none⟩=some (.slice a1 l[j].atom.li.length c1)∧w.cell? ⟨b,o+j * 4+3,none⟩=some (.slice a2 l[j].atom.ma.length c2):=by
 obtain⟨b,o,x1,x2,rfl,hc,hs,hv⟩:=h.get j hj
 obtain⟨a1,c1,a2,c2,rfl,rfl⟩:=hv.open
 rw [Nat.zero_add]at hc
 exact⟨b,o,a1,c1,a2,c2,rfl,hv,hs,hi.cell hc.1,hi.cell hc.2.1,hi.cell hc.2.2.1,hi.cell hc.2.2.2⟩
theorem Fv.look {H:Hp}{w:World}(hi:Imm H w){a:Option Addr}{l:List GE}(h:Fv H a 0 l){j:Nat}(hj:j<l.length):
  ∃b o a2 c2 a3 c3 a4 c4 a5 c5,a=some ⟨b,o,none⟩∧RE H l[j] (.slice a2 l[j].ks.length c2) (.slice a3 l[j].l.length c3) (.slice a4 l[j].v.ks.length c4) (.slice a5 l[j].v.l.length c5)∧
   w.cell? ⟨b,o+j * 11,none⟩=some (.int .i64 l[j].k)∧w.cell? ⟨b,o+j * 11+1,none⟩=some (.string l[j].s)∧w.cell? ⟨b,o+j * 11+2,none⟩=some (.slice a2 l[j].ks.length c2)∧
   w.cell? ⟨b,o+j * 11+3,none⟩=some (.slice a3 l[j].l.length c3)∧
   w.cell? ⟨b,o+j * 11+4,none⟩=some (.int .i64 l[j].v.k)∧w.cell? ⟨b,o+j * 11+5,none⟩=some (.int .i64 l[j].v.n)∧w.cell? ⟨b,o+j * 11+6,none⟩=some (.float .f64 l[j].v.f)∧
   w.cell? ⟨b,o+j * 11+7,none⟩=some (.string l[j].v.s)∧w.cell? ⟨b,o+j * 11+8,none⟩=some (.slice a4 l[j].v.ks.length c4)∧w.cell? ⟨b,o+j * 11+9,none⟩=some (.slice a5 l[j].v.l.length c5)∧
   w.cell? ⟨b,o+j * 11+10,none⟩=some (.int .i64 l[j].n):=by
 obtain⟨b,o,x2,x3,y4,y5,rfl,⟨h0,h1,h2,h3,h6,h10⟩,hv⟩:=h.get j hj
 obtain⟨a2,c2,rfl⟩:=hv.2.2.2.1.open
 obtain⟨a3,c3,rfl⟩:=hv.2.2.2.2.1.open
 obtain⟨a4,c4,a5,c5,rfl,rfl⟩:=hv.2.2.2.2.2.open
 simp only [Nat.zero_add]at h0 h1 h2 h3 h6 h10
 have g:=hi.cells6 h6
 simp only [Nat.add_assoc]at g h0 h1 h2 h3 h10⊢
 exact⟨b,o,a2,c2,a3,c3,a4,c4,a5,c5,rfl,hv,hi.cell h0,hi.cell h1,hi.cell h2,hi.cell h3,g.1,g.2.1,g.2.2.1,g.2.2.2.1,g.2.2.2.2.1,g.2.2.2.2.2,hi.cell h10⟩
theorem BI.look {H:Hp}{w:World}(hi:Imm H w){a:Option Addr}{l:List (List GE)}(h:BI H a 0 l){j:Nat}(hj:j<l.length):
  ∃b o ap cp,a=some ⟨b,o,none⟩∧EA H l[j] (.slice ap l[j].length cp)∧w.cell? ⟨b,o+j,none⟩=some (.slice ap l[j].length cp):=by
 obtain⟨b,o,x,rfl,hc,hv⟩:=h.get j hj
 have hv2:=hv
 obtain⟨ap,cp,rfl,_⟩:=hv2
 rw [Nat.zero_add]at hc
 exact⟨b,o,ap,cp,rfl,hv,hi.cell hc⟩
theorem Bb.look0 {H:Hp}{w:World}(hi:Imm H w){a:Option Addr}{t:B3}{r:List B3}(h:Bb H a 0 (t::r)):
  ∃b o a1 c1 a2 c2 ak ck,a=some ⟨b,o,none⟩∧D4 H t (.slice a1 t.elem.atom.li.length c1) (.slice a2 t.elem.atom.ma.length c2) (.slice ak t.keys.length ck)∧
   w.cell? ⟨b,o,none⟩=some (.bool t.elem.named)∧w.cell? ⟨b,o+1,none⟩=some (.string t.elem.name)∧w.cell? ⟨b,o+2,none⟩=some (.string t.elem.atom.sc)∧
   w.cell? ⟨b,o+3,none⟩=some (.slice a1 t.elem.atom.li.length c1)∧w.cell? ⟨b,o+4,none⟩=some (.slice a2 t.elem.atom.ma.length c2)∧
   w.cell? ⟨b,o+5,none⟩=some (.string t.elem.rel)∧w.cell? ⟨b,o+6,none⟩=some (.string t.rel)∧w.cell? ⟨b,o+7,none⟩=some (.slice ak t.keys.length ck):=by
 have:=h.look hi (j:=0) (by simp)
 simpa using this
theorem Bu.look0 {H:Hp}{w:World}(hi:Imm H w){a:Option Addr}{t:Bp}{r:List Bp}(h:Bu H a 0 (t::r)):
  ∃b o af cf a1 c1 a2 c2,a=some ⟨b,o,none⟩∧RMap H t (.slice af t.fields.length cf) (.slice a1 t.elem.atom.li.length c1) (.slice a2 t.elem.atom.ma.length c2)∧
   w.cell? ⟨b,o,none⟩=some (.slice af t.fields.length cf)∧
   w.cell? ⟨b,o+1,none⟩=some (.bool t.elem.named)∧w.cell? ⟨b,o+2,none⟩=some (.string t.elem.name)∧w.cell? ⟨b,o+3,none⟩=some (.string t.elem.atom.sc)∧
   w.cell? ⟨b,o+4,none⟩=some (.slice a1 t.elem.atom.li.length c1)∧w.cell? ⟨b,o+5,none⟩=some (.slice a2 t.elem.atom.ma.length c2)∧
   w.cell? ⟨b,o+6,none⟩=some (.string t.elem.rel)∧w.cell? ⟨b,o+7,none⟩=some (.string t.rel):=by
 have:=h.look hi (j:=0) (by simp)
 simpa using this
theorem CX.look0 {H:Hp}{w:World}(hi:Imm H w){a:Option Addr}{t:GV}{r:List GV}(h:CX H a 0 (t::r)):
  ∃b o a4 c4 a5 c5,a=some ⟨b,o,none⟩∧RV H t (.slice a4 t.ks.length c4) (.slice a5 t.l.length c5)∧
   w.cell? ⟨b,o,none⟩=some (.int .i64 t.k)∧w.cell? ⟨b,o+1,none⟩=some (.int .i64 t.n)∧w.cell? ⟨b,o+2,none⟩=some (.float .f64 t.f)∧
   w.cell? ⟨b,o+3,none⟩=some (.string t.s)∧w.cell? ⟨b,o+4,none⟩=some (.slice a4 t.ks.length c4)∧w.cell? ⟨b,o+5,none⟩=some (.slice a5 t.l.length c5):=by
 have:=h.look hi (j:=0) (by simp)
 simpa using this
abbrev aggA (a:Ap)(x1 x2:Value):Value:= .agg #[.string a.sc,x1,x2]
abbrev E8 (r:As)(x1 x2:Value):Value:= .agg #[.bool r.named, .string r.name, .string r.atom.sc,x1,x2, .string r.rel]
abbrev aggL (t:B3)(x1 x2 xk:Value):Value:= .agg #[.bool t.elem.named, .string t.elem.name, .string t.elem.atom.sc,x1,x2, .string t.elem.rel, .string t.rel,xk]
abbrev aggM (t:Bp)(xf x1 x2:Value):Value:= .agg #[xf, .bool t.elem.named, .string t.elem.name, .string t.elem.atom.sc,x1,x2, .string t.elem.rel, .string t.rel]
abbrev aggF (t:Au)(x1 x2 xd:Value):Value:= .agg #[.string t.name, .bool t.type.named, .string t.type.name, .string t.type.atom.sc,x1,x2, .string t.type.rel,xd]
abbrev E1 (x:Value):Value:= .agg #[x]
theorem A1 {w:World}{b:Nat}{cs:Array Value}{t:TypeId}(h:w.heap[b]?=some (.cells cs t (0,0))):
  (∀i,w.cell? ⟨b,i,none⟩=cs[i]?)∧(∀i,w.frozen? ⟨b,i,none⟩=false):=by
 constructor
 ·intro i;simp [World.cell?,h]
 ·intro i;simp [World.frozen?,h]
theorem Ae {w:World}{b:Nat}{cs:Array Value}{t:TypeId}(h:w.heap[b]?=some (.cells cs t (0,0)))(i:Nat)(v:Value):
  (w.setCell ⟨b,i,none⟩ v).heap[b]?=some (.cells (cs.setIfInBounds i v) t (0,0)):=by
 simp [World.setCell,Array.getElem?_modify,h]
theorem Cd {w:World}{b k:Nat}{o:Option Obj}(h:w.heap[k]?=o)(hk:k≠b)(i:Nat)(v:Value):
  (w.setCell ⟨b,i,none⟩ v).heap[k]?=o:=by
 rw [Below.heap_setCell _ _ _ _ hk];exact h
theorem A4 {w:World}{o:Obj}:(w.alloc o).heap[w.heap.size]?=some o:=by
 show(w.heap.push o)[w.heap.size]?=_
 simp
theorem A3 {w:World}{o:Obj}{k:Nat}{p:Obj}(h:w.heap[k]?=some p):(w.alloc o).heap[k]?=some p:=by
 have hk:k<w.heap.size:=by
  by_cases c:k<w.heap.size
  ·exact c
  ·rw [Array.getElem?_eq_none (Nat.le_of_not_lt c)]at h;cases h
 rw [Below.heap_alloc _ _ _ hk];exact h
theorem A0 {w:World}{k:Nat}{p:Obj}(h:w.heap[k]?=some p):k<w.heap.size:=by
 by_cases c:k<w.heap.size
 ·exact c
 ·rw [Array.getElem?_eq_none (Nat.le_of_not_lt c)]at h;cases h
theorem Bw.set {a b:World}(h:Bw a b){k:Nat}(hk:a.heap.size≤k)(i:Nat)(v:Value):Bw a (b.setCell ⟨k,i,none⟩ v):=Below.setCell h (p:=⟨k,i,none⟩) hk v
theorem box_below {w w1:World}{B k:Nat}{p:Obj}(hb:Below B w w1)(hk:k<B)(h:w.heap[k]?=some p):w1.heap[k]?=some p:=by
 rw [hb.block k hk];exact h
theorem A2 {w w1:World}{k:Nat}{p:Obj}(hb:Bw w w1)(h:w.heap[k]?=some p):w1.heap[k]?=some p:=box_below hb (A0 h) h
def A6 (H:Hp)(w w1:World):Hp:=fun k=>if k<w.heap.size then H k else w1.heap[k]?
theorem AY {H:Hp}{w w1:World}(hi:Imm H w):Hle H (A6 H w w1):=by
 intro k o e
 unfold A6
 rw [if_pos (A0 (hi k o e))];exact e
theorem Imm.grow {H:Hp}{w w1:World}(hi:Imm H w)(hb:Bw w w1):Imm (A6 H w w1) w1:=by
 intro k o e
 unfold A6 at e
 by_cases hk:k<w.heap.size
 ·rw [if_pos hk]at e
  show w1.heap[k]?=some o
  rw [hb.block k hk];exact hi k o e
 ·rw [if_neg hk]at e;exact e
theorem Bh {H:Hp}{w w1:World}{b o:Nat}(hk:w.heap.size≤b):A8 (A6 H w w1) b o=w1.cell? ⟨b,o,none⟩:=by
 rw [←Ai]
 unfold A8 A6 At
 rw [if_neg (by omega)]
theorem grow_where {H:Hp}{wE w w1:World}(hi:Imm H wE){b o:Nat}{v:Value}(h:A8 (A6 H w w1) b o=some v):b<wE.heap.size∨w.heap.size≤b:=by
 by_cases hk:b<w.heap.size
 ·left
  unfold A8 A6 at h
  rw [if_pos hk]at h
  cases hb:H b with
  |none=>rw [hb]at h;cases h
  |some x=>exact A0 (hi b x hb)
 ·right;omega
theorem hle_grow_trans {H:Hp}{w w0 w1 w2:World}(hi:Imm H w)(hs:w.heap.size≤w0.heap.size)(hk:∀k,w0.heap.size≤k→k<w1.heap.size→w2.heap[k]?=w1.heap[k]?):
  Hle (A6 H w0 w1) (A6 H w w2):=by
 intro k o e
 unfold A6 at e⊢
 by_cases h0:k<w0.heap.size
 ·rw [if_pos h0]at e
  rw [if_pos (A0 (hi k o e))];exact e
 ·rw [if_neg h0]at e
  rw [if_neg (by omega),hk k (by omega) (A0 e)];exact e
theorem hle_grow_bw {H:Hp}{w w1 w2:World}(hb:Bw w1 w2):Hle (A6 H w w1) (A6 H w w2):=by
 intro k o e
 unfold A6 at e⊢
 by_cases h0:k<w.heap.size
 ·rw [if_pos h0]at e⊢;exact e
 ·rw [if_neg h0]at e⊢;exact A2 hb e
theorem ltx {b n:Nat}(h:b<n):b<n∧b<n+1∧b<n+2∧b<n+3∧b<n+4∧b<n+5∧b<n+6∧b<n+7∧b<n+8:=by omega
theorem Ad (w:World)(o:Obj)(k:Nat):(w.alloc o).heap[k]?=if k=w.heap.size then some o else w.heap[k]?:=by
 show(w.heap.push o)[k]?=_
 rw [Array.getElem?_push]
theorem Ag (w:World)(b i:Nat)(v:Value)(k:Nat)(h:¬k=b):(w.setCell ⟨b,i,none⟩ v).heap[k]?=w.heap[k]?:=Below.heap_setCell _ _ _ _ h
end
end Go.Proofs.YtmghkmhgpmcoaaaGreat
