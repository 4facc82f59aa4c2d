/- What the claim's theorem 'proved' rests on: ZzA, Append, Own, Two, OwnB, OwnC, AppOne. -/
import Derived.Test.YtmghkmhgpmcoaaaGreatProg
import Derived.Deep.QuietTactic
import Derived.BigQuiet
import Derived.Lib.Hide
import Derived.Deep.DeepCutAuto
import Derived.Deep.RegionWith
import Derived.StillTailTactics
import Derived.Deep.CutBlock
import Derived.Lib.QuietBelow
import Derived.Maps.AppendAt
import Derived.Laws.AppendOwnNone
import Derived.Test.YtmghkmhgpmcoaaaGreatP00
import Derived.Test.YtmghkmhgpmcoaaaGreatP01
set_option linter.unusedVariables false
set_option linter.unusedSimpArgs false
set_option maxRecDepth 100000
set_option maxHeartbeats 10000000
namespace Go.Proofs.YtmghkmhgpmcoaaaGreat
section
open Go.RowKit
def RetBool (w:World):Ending→World→Prop:=fun e w'=>(∃b,e= .returned (.bool b))∧Below w.heap.size w w'
def RetInt (w:World):Ending→World→Prop:=fun e w'=>(∃n,e= .returned (.int .i64 n))∧Below w.heap.size w w'
theorem fits6_c (s:List Ax)(H:Hp)(xs:Value)(w:World)(hs:DH H s xs):Calls Tryz.prog 4 #[E1 xs] w (RetBool w):=by
 obtain⟨aq,cq,rfl,hnf,hlf,hcf,hatf⟩:=hs
 unfold lim at hlf
 go_enter Tryz.func4,Tryz.ntmps4
 go_wp2
 all_goals (go_ret;exact⟨⟨_,rfl⟩,A5⟩)
theorem fits7_c (r:As)(H:Hp)(x1 x2:Value)(w:World)(hr:Cy H r x1 x2):Calls Tryz.prog 5 #[E8 r x1 x2] w (RetBool w):=by
 obtain⟨h1,h2,_⟩:=BP.1 hr
 unfold lim at h1 h2
 go_enter Tryz.func5,Tryz.ntmps5
 go_wp2
 all_goals (go_ret;exact⟨⟨_,rfl⟩,A5⟩)
theorem fits2_c (l:List ByteArray)(H:Hp)(x:Value)(w:World)(hi:Imm H w)(hr:Cv H l x):Calls Tryz.prog 21 #[x] w (RetBool w):=by
 obtain⟨a,c,rfl,hn,hl,hc,hat⟩:=hr
 unfold lim at hl
 go_enter Tryz.func21,Tryz.ntmps21
 go_wp2_with fail
 ·go_ret
  exact⟨⟨_,rfl⟩,Bw.rfl⟩
 ·go_loopw [10] (fun i wr=>∃j:Nat,j≤l.length∧i= .int .i64 j∧wr=w) (fun i _=>l.length - (intOf i).toNat)
  case atStart=>exact⟨0,by omega,rfl,rfl⟩
  case round=>
   obtain⟨j,hj,rfl,rfl⟩:=hrel
   by_cases hjl:j<l.length
   ·obtain⟨b,o,rfl,c0,hsz⟩:=hat.look hi hjl
    unfold lim at hsz
    go_wp2_with fail
    ·go_ret
     exact⟨⟨_,rfl⟩,Bw.rfl⟩
    ·exact⟨⟨j+1,by omega,by go_num,trivial⟩,by simp [intOf];omega⟩
   ·have:j=l.length:=by omega
    subst this
    go_wp2_with fail
    go_ret
    exact⟨⟨_,rfl⟩,Bw.rfl⟩
theorem fits5_c (v:GV)(H:Hp)(x4 x5:Value)(w:World)(hi:Imm H w)(hv:RV H v x4 x5):Calls Tryz.prog 6 #[Ar v x4 x5] w (RetBool w):=by
 obtain⟨hk,hn,hf,hs,h4,a5,c5,rfl,hn5,hl5,hc5,hat5⟩:=By.1 hv
 have C2:=Lib.hid (fun w0 h0=>fits2_c v.ks H x4 w0 h0 h4)
 obtain⟨a4,c4,rfl,hn4,hl4,hc4,hat4⟩:=h4
 unfold lim at hl4 hl5 hs
 rcases v with⟨k,n,f,s,ks,l⟩
 unfold Ar
 simp only at *
 go_enter Tryz.func6,Tryz.ntmps6
 go_wp2_with fail
 ·go_ret
  exact⟨⟨_,rfl⟩,A5⟩
 ·refine(C2.out _ (hi.below A5)).mono ?_
  rintro e w1 ⟨⟨b,rfl⟩,hb1⟩
  have hx:=A2 hb1 A4
  have hlt:=A0 hx
  obtain⟨q1,f1⟩:=A1 hx
  have hbw:Bw w w1:=Bw.tr A5 hb1
  cases b
  ·go_wp2_with fail
   go_ret
   exact⟨⟨_,rfl⟩,hbw⟩
  ·go_wp2_with fail
   ·go_ret
    exact⟨⟨_,rfl⟩,hbw⟩
   ·go_ret
    exact⟨⟨_,rfl⟩,hbw⟩
theorem nodes_c:∀(z:Nat) (v:GV),v.sz≤z→∀(H:Hp) (x4 x5:Value) (w:World),Imm H w→RV H v x4 x5→Calls Tryz.prog 24 #[Ar v x4 x5] w (RetInt w):=by
 intro z
 induction z with
 |zero=>intro v hz;have:=v.sz_eq;omega
 |succ z ih=>
  intro v hz H x4 x5 w hi hv
  obtain⟨hk,hn,hf,hs,h4,a,c,rfl,hnil,hl,hlc,hat⟩:=By.1 hv
  obtain⟨a4,c4,rfl,hn4,hl4,hc4,hat4⟩:=h4
  have hsz:=v.sz_eq
  rcases v with⟨k,n,f,s,ks,l⟩
  unfold Ar
  unfold lim at hl
  simp only at *
  have IH:=Lib.hid ih
  clear ih
  by_cases e56:k=5∨k=6
  ·rcases e56 with e|e
   all_goals
    subst e
    go_enter Tryz.func24,Tryz.ntmps24
    go_wp2_with fail
    go_loopw [3,17] (fun m i wr=>∃(j:Nat) (x:Int),j≤l.length∧m= .int .i64 x∧i= .int .i64 j∧Bw w wr) (fun _ i _=>l.length - (intOf i).toNat)
    case atStart=>exact⟨0,1,by omega,rfl,rfl,A5⟩
    case round=>
     obtain⟨j,x,hj,rfl,rfl,hb⟩:=hrel
     have hiw:=hi.below hb
     by_cases hjl:j<l.length
     ·obtain⟨b,o,a4,d4,a5,d5,rfl,hv',c0,c1,c2,c3,c4,c5⟩:=hat.look hiw hjl
      have HC:=Lib.hid (IH.out l[j] (by have:=D0 hjl;omega) H)
      go_wp2_with fail
      refine(HC.out _ _ _ (hiw.below A5) hv').mono ?_
      rintro e w1 ⟨⟨y,rfl⟩,hb1⟩
      go_wp2_with fail
      exact⟨⟨j+1,_,by omega,rfl,by go_num,(hb.al _).tr hb1⟩,by simp [intOf];omega⟩
     ·have:j=l.length:=by omega
      subst this
      go_wp2_with fail
      go_ret
      exact⟨⟨_,rfl⟩,hb⟩
  ·obtain⟨e5,e6⟩:=not_or.1 e56
   have e5b:(k==5)=false:=by simp [e5]
   have e6b:(k==6)=false:=by simp [e6]
   go_enter Tryz.func24,Tryz.ntmps24
   go_wp2_with fail
   go_ret
   exact⟨⟨_,rfl⟩,A5⟩
end
section
open Go Go.RowKit
def Src (w:World)(ao:Option Addr)(m c:Nat)(news:List Value):Prop:=
 (ao=none→m=0∧c=0)∧∀ad,ao=some ad→∀j u,news[j]?=some u→w.cell? (ad.add j)=some u
theorem run_append_any {P:Program}(w:World)(base:Nat)(t ty e:TypeId)(i:TypeInfo)(z:Value)(size bytes:Nat)(ht:P.underlying t=some (.slice e))(hi:P.info? e=some i)(hz:i.zero=some z)
  (hsize:i.size=size) (hby:i.bytes=bytes) (hzs:z.cells.size=size) (hsz:0<size)
  (v:Value) (n:Nat) (xs:List Value) (hown:w.ownsRow base e size v n xs)
  (ao:Option Addr) (m c:Nat) (news:List Value) (hl:news.length=m * size) (hsrc:Src w ao m c news) (h1:∀u ∈ news,u.oneCell'=true)
  (h63:n+m≤maxLen) (hbytes:(n+m) * bytes≤140737488355328) (hbase:base≤w.heap.size):
  ∃v' w',(Builtin.append_ #[t,t] ty #[v, .slice ao m c]).run P w= .ok v' w'∧w'.ownsRow base e size v' (n+m) (xs++news)∧w.grownBy w' v.ownBlock∧(v'.ownBlock=v.ownBlock∨v'.ownBlock=some w.heap.size):=by
 cases ao with
 |none=>
  obtain⟨rfl,rfl⟩:=hsrc.1 rfl
  have:news=[]:=List.eq_nil_of_length_eq_zero (by simpa using hl)
  subst this
  refine⟨v,w,run_append_owned_none (P:=P) (w:=w) base t ty e i size ht hi v n xs hown,by simpa using hown,⟨rfl,rfl,rfl,Nat.le_refl _,fun _ _ _=>rfl⟩, .inl rfl⟩
 |some ad=>
  obtain⟨v',w',h,h2,h3,_,h5⟩:=run_append_own_at (P:=P) w base t ty e i z size bytes ht hi hz hsize hby hzs hsz v n xs hown ad m c news hl (hsrc.2 ad rfl) h1 h63 hbytes hbase
  exact⟨v',w',h,h2,h3,h5⟩
theorem wp_append_any {P:Program}(w:World){o:Oper}{a:Act}{K:Act→World→Prop}{Q:Exit→Act→World→Prop}(s x:Operand)(t:TypeId)
  (ho:o.op= .call {callee:= .builtin .append,args:= #[s,x],argTypes:= #[t,t]})
  (base:Nat) (e:TypeId) (i:TypeInfo) (z:Value) (size bytes:Nat) (ht:P.underlying t=some (.slice e)) (hi:P.info? e=some i) (hz:i.zero=some z)
  (hsize:i.size=size) (hby:i.bytes=bytes) (hzs:z.cells.size=size) (hsz:0<size)
  (v:Value) (n:Nat) (xs:List Value) (hs:a.eval s=v) (hown:w.ownsRow base e size v n xs)
  (ao:Option Addr) (m c:Nat) (news:List Value) (hx:a.eval x= .slice ao m c) (hl:news.length=m * size) (hsrc:Src w ao m c news) (h1:∀u ∈ news,u.oneCell'=true)
  (h63:n+m≤maxLen) (hbytes:(n+m) * bytes≤140737488355328) (hbase:base≤w.heap.size)
  (h:∀v' w',w'.ownsRow base e size v' (n+m) (xs++news)→w.grownBy w' v.ownBlock→(v'.ownBlock=v.ownBlock∨v'.ownBlock=some w.heap.size)→K (a.put o.dst v') w'):o.wp P a w K Q:=by
 obtain⟨v',w',hr,h2,h3,h4⟩:=run_append_any (P:=P) w base t o.type e i z size bytes ht hi hz hsize hby hzs hsz v n xs hown ao m c news hl hsrc h1 h63 hbytes hbase
 unfold Oper.wp execOp
 simp only [ho,resolve,invoke,builtin,Sem.run_bind,Sem.run_pure,Result.andThen_ok,List.map_toArray,List.map_cons,List.map_nil,hs,hx,hr]
 exact h v' w' h2 h3 h4
theorem Bl {P:Program}(w:World){ops:Array Oper}{rest:List Oper}{o:Oper}{a:Act}{Q:Exit→Act→World→Prop}(hgd:o.guard=none)(s x:Operand)(t:TypeId)
  (ho:o.op= .call {callee:= .builtin .append,args:= #[s,x],argTypes:= #[t,t]})
  (base:Nat) (e:TypeId) (i:TypeInfo) (z:Value) (size bytes:Nat) (ht:P.underlying t=some (.slice e)) (hi:P.info? e=some i) (hz:i.zero=some z)
  (hsize:i.size=size) (hby:i.bytes=bytes) (hzs:z.cells.size=size) (hsz:0<size)
  (v:Value) (n:Nat) (xs:List Value) (hs:a.eval s=v) (hown:w.ownsRow base e size v n xs)
  (ao:Option Addr) (m c:Nat) (news:List Value) (hx:a.eval x= .slice ao m c) (hl:news.length=m * size) (hsrc:Src w ao m c news) (h1:∀u ∈ news,u.oneCell'=true)
  (h63:n+m≤maxLen) (hbytes:(n+m) * bytes≤140737488355328) (hbase:base≤w.heap.size)
  (h:∀v' w',w'.ownsRow base e size v' (n+m) (xs++news)→w.grownBy w' v.ownBlock→(v'.ownBlock=v.ownBlock∨v'.ownBlock=some w.heap.size)→wpList P ops Q rest (a.put o.dst v') w'):wpList P ops Q (o::rest) a w:=
 wpList_plain hgd fun _ hK=>wp_append_any w s x t ho base e i z size bytes ht hi hz hsize hby hzs hsz v n xs hs hown ao m c news hx hl hsrc h1 h63 hbytes hbase fun v' w' h2 h3 h4=>hK _ _ (h v' w' h2 h3 h4)
theorem step_append_any {P:Program}(w:World){ops:Array Oper}{o:Oper}{a:Act}{K:Act→World→Prop}{Q:Exit→Act→World→Prop}{E:Prop}(hgd:o.guard=none)(s x:Operand)(t:TypeId)
  (ho:o.op= .call {callee:= .builtin .append,args:= #[s,x],argTypes:= #[t,t]})
  (base:Nat) (e:TypeId) (i:TypeInfo) (z:Value) (size bytes:Nat) (ht:P.underlying t=some (.slice e)) (hi:P.info? e=some i) (hz:i.zero=some z)
  (hsize:i.size=size) (hby:i.bytes=bytes) (hzs:z.cells.size=size) (hsz:0<size)
  (v:Value) (n:Nat) (xs:List Value) (hs:a.eval s=v) (hown:w.ownsRow base e size v n xs)
  (ao:Option Addr) (m c:Nat) (news:List Value) (hx:a.eval x= .slice ao m c) (hl:news.length=m * size) (hsrc:Src w ao m c news) (h1:∀u ∈ news,u.oneCell'=true)
  (h63:n+m≤maxLen) (hbytes:(n+m) * bytes≤140737488355328) (hbase:base≤w.heap.size)
  (h:∀v' w',w'.ownsRow base e size v' (n+m) (xs++news)→w.grownBy w' v.ownBlock→(v'.ownBlock=v.ownBlock∨v'.ownBlock=some w.heap.size)→K (a.put o.dst v') w'):
  if Region.wanted o (yielded ops a.tmps)=true then Oper.wp P o a w K Q else E:=by
 have hw:Region.wanted o (yielded ops a.tmps)=true:=by simp [Region.wanted,hgd]
 rw [if_pos hw]
 exact wp_append_any w s x t ho base e i z size bytes ht hi hz hsize hby hzs hsz v n xs hs hown ao m c news hx hl hsrc h1 h63 hbytes hbase h
end
section
open Go Go.RowKit
def HasRow (H:Hp)(w:World)(v:Value):Prop:=∀g,v.ownBlock=some g→H g=w.heap[g]?
theorem own_form {w:World}{base:Nat}{e:TypeId}{size:Nat}{v:Value}{n:Nat}{xs:List Value}{H:Hp}(h:w.ownsRow base e size v n xs)(hh:HasRow H w v):
  ∃a c,v= .slice a n c∧(a=none→c=0∧n=0)∧n≤c∧((a=none∧xs=[])∨∃g,a=some ⟨g,0,none⟩∧∀j,j<n * size→A8 H g j=xs[j]?):=by
 rcases h.2 with⟨rfl,rfl⟩|⟨g,cap,cur,rfl,hb,hg,hnc,hcm,hcs,htake⟩
 ·exact⟨none,0,rfl,fun _=>⟨rfl,rfl⟩,Nat.le_refl _, .inl ⟨rfl,List.eq_nil_of_length_eq_zero (by simpa using h.1)⟩⟩
 ·refine⟨_,_,rfl,by simp,hnc, .inr ⟨g,rfl,fun j hj=> ?_⟩⟩
  unfold A8
  rw [hh g (by simp [Value.ownBlock]),hg,←htake,List.getElem?_take,if_pos hj]
  simp
theorem Cn {w:World}{base:Nat}{v:Value}{l:List ByteArray}{H:Hp}(h:w.ownsRow base 9 1 v l.length (l.map Value.string))(hh:HasRow H w v)(hl:l.length≤lim)(hs:∀s ∈ l,s.size≤lim):Cv H l v:=by
 obtain⟨a,c,rfl,hn,hc,hx⟩:=own_form h hh
 refine⟨a,c,rfl,hn,hl,hc, ?_⟩
 rcases hx with⟨rfl,hx⟩|⟨g,rfl,hx⟩
 ·have:l=[]:=by simpa using hx
  subst this;trivial
 ·refine Bt.mk fun j hj=>⟨g,0,rfl, ?_,hs _ (List.getElem_mem hj)⟩
  have:=hx j (by omega)
  rw [Nat.zero_add,Nat.zero_add,this,List.getElem?_map,List.getElem?_eq_getElem hj];rfl
structure VC where
 v:GV
 x4:Value
 x5:Value
def VC.cells (t:VC):List Value:=[.int .i64 t.v.k, .int .i64 t.v.n, .float .f64 t.v.f, .string t.v.s,t.x4,t.x5]
def AL (l:List VC):List Value:=l.flatMap VC.cells
theorem CZ (l:List VC):(AL l).length=l.length * 6:=by
 induction l with
 |nil=>rfl
 |cons t r ih=>simp only [AL,List.flatMap_cons,List.length_append,List.length_cons]at *;rw [ih];simp [VC.cells];omega
theorem El:∀{l:List VC} {j:Nat} (hj:j<l.length) {i:Nat} (hi:i<6),(AL l)[j * 6+i]?=l[j].cells[i]?
 |t::r,0,_,i,hi=>by
  simp only [AL,List.flatMap_cons,Nat.zero_mul,Nat.zero_add,List.getElem_cons_zero]
  rw [List.getElem?_append_left (by simp [VC.cells];omega)]
 |t::r,j+1,hj,i,hi=>by
  have:=El (l:=r) (j:=j) (by simpa using hj) hi
  simp only [AL,List.flatMap_cons,List.getElem_cons_succ]at this⊢
  rw [List.getElem?_append_right (by simp [VC.cells];omega)]
  have e:(j+1) * 6+i - t.cells.length=j * 6+i:=by simp [VC.cells];omega
  rw [e];exact this
theorem DJ (l r:List VC):AL (l++r)=AL l++AL r:=by simp [AL]
theorem Ek (t:VC):AL [t]=t.cells:=by simp [AL]
theorem Db {w:World}{base:Nat}{v:Value}{l:List VC}{H:Hp}(h:w.ownsRow base 35 6 v l.length (AL l))(hh:HasRow H w v)(hl:l.length≤lim)(hs:∀t ∈ l,RV H t.v t.x4 t.x5):RVs H (l.map VC.v) v:=by
 obtain⟨a,c,rfl,hn,hc,hx⟩:=own_form h hh
 have hlen:(l.map VC.v).length=l.length:=by simp
 refine⟨a,c,by rw [hlen],by rw [hlen];exact hn,by rw [hlen];exact hl,by rw [hlen];exact hc, ?_⟩
 rcases hx with⟨rfl,hx⟩|⟨g,rfl,hx⟩
 ·have:l=[]:=by
   have:=CZ l;rw [hx]at this;exact List.eq_nil_of_length_eq_zero (by simp at this;omega)
  subst this;trivial
 ·refine CX.mk fun j hj=> ?_
  have hj':j<l.length:=by simpa using hj
  refine⟨g,0,l[j].x4,l[j].x5,rfl, ?_,by simpa using hs _ (List.getElem_mem hj')⟩
  have hc:∀i,i<6→A8 H g (j * 6+i)=l[j].cells[i]?:=fun i hi=>by rw [hx _ (by omega),El hj' hi]
  have e:(l.map VC.v)[j]=l[j].v:=by simp
  rw [e]
  simp only [Nat.zero_add]
  exact⟨hc 0 (by omega),hc 1 (by omega),hc 2 (by omega),hc 3 (by omega),hc 4 (by omega),hc 5 (by omega)⟩
end
section
open Go Go.RowKit
structure Two (w:World) (B:Nat) (wx:World) (vk vl:Value) (xk:List ByteArray) (xl:List VC):Prop where
 hB:w.heap.size≤B
 bw:Bw w wx
 out:wx.heap[B]?=some (.cells #[.int .i64 6, .int .i64 0, .float .f64 0, .string {data:= #[]},vk,vl] 35)
 rk:wx.ownsRow (B+1) 9 1 vk xk.length (xk.map Value.string)
 rl:wx.ownsRow (B+1) 35 6 vl xl.length (AL xl)
theorem DB {w:World}{b1 b2:Nat}{e1 e2:TypeId}{s1 s2:Nat}{v1 v2:Value}{n1 n2:Nat}{x1 x2:List Value}(he:e1≠e2)(h1:w.ownsRow b1 e1 s1 v1 n1 x1)(h2:w.ownsRow b2 e2 s2 v2 n2 x2):v2.ownBlock=none∨v2.ownBlock≠v1.ownBlock:=by
 rcases h2.2 with⟨rfl,_⟩|⟨g2,c2,cur2,rfl,_,hg2,_⟩
 ·left;rfl
 ·right
  rcases h1.2 with⟨rfl,_⟩|⟨g1,c1,cur1,rfl,_,hg1,_⟩
  ·simp [Value.ownBlock]
  ·simp only [Value.ownBlock]
   intro h
   cases h
   rw [hg1]at hg2
   cases hg2
   exact he rfl
theorem Two.drew {w:World}{B:Nat}{wx:World}{vk vl:Value}{xk:List ByteArray}{xl:List VC}(h:Two w B wx vk vl xk xl):Two w B wx.drew vk vl xk xl:=
 ⟨h.hB,h.bw.dr,h.out,h.rk.kept (row:=none) ⟨rfl,rfl,rfl,Nat.le_refl _,fun _ _ _=>rfl⟩ (by cases vk.ownBlock<;>simp),h.rl.kept (row:=none) ⟨rfl,rfl,rfl,Nat.le_refl _,fun _ _ _=>rfl⟩ (by cases vl.ownBlock<;>simp)⟩
theorem Two.alloc {w:World}{B:Nat}{wx:World}{vk vl:Value}{xk:List ByteArray}{xl:List VC}(h:Two w B wx vk vl xk xl)(o:Obj):Two w B (wx.alloc o) vk vl xk xl:=
 ⟨h.hB,h.bw.al o,A3 h.out,h.rk.alloc o,h.rl.alloc o⟩
theorem Two.keys_box {w:World}{B:Nat}{wx w':World}{vk vl:Value}{xk:List ByteArray}{xl:List VC}(h:Two w B wx vk vl xk xl)(hg:wx.grownBy w' vk.ownBlock):
  w'.heap[B]?=some (.cells #[.int .i64 6, .int .i64 0, .float .f64 0, .string {data:= #[]},vk,vl] 35):=by
 rw [hg.block B (A0 h.out) (fun e=>by have:=(h.rk.lt B e.symm).1;omega)]
 exact h.out
theorem Two.vals_box {w:World}{B:Nat}{wx w':World}{vk vl:Value}{xk:List ByteArray}{xl:List VC}(h:Two w B wx vk vl xk xl)(hg:wx.grownBy w' vl.ownBlock):
  w'.heap[B]?=some (.cells #[.int .i64 6, .int .i64 0, .float .f64 0, .string {data:= #[]},vk,vl] 35):=by
 rw [hg.block B (A0 h.out) (fun e=>by have:=(h.rl.lt B e.symm).1;omega)]
 exact h.out
theorem Bj {w:World}{b:Nat}{e:TypeId}{s:Nat}{v:Value}{n:Nat}{x:List Value}{B i:Nat}{u:Value}(h:w.ownsRow b e s v n x)(hB:B<b):(w.setCell ⟨B,i,none⟩ u).ownsRow b e s v n x:=by
 refine⟨h.1, ?_⟩
 rcases h.2 with hn|⟨g,cap,cur,rfl,hb,hg,rest⟩
 ·exact .inl hn
 ·exact .inr ⟨g,cap,cur,rfl,hb,by rw [Ag _ _ _ _ _ (by omega)];exact hg,rest⟩
theorem Two.keys {w:World}{B:Nat}{wx w':World}{vk vl v':Value}{xk ys:List ByteArray}{xl:List VC}(h:Two w B wx vk vl xk xl)
  (ho:w'.ownsRow (B+1) 9 1 v' (xk.length+ys.length) (xk.map Value.string++ys.map Value.string)) (hg:wx.grownBy w' vk.ownBlock):Two w B (w'.setCell ⟨B,4,none⟩ v') v' vl (xk++ys) xl:=by
 have hb:=h.keys_box hg
 refine⟨h.hB, ?_, ?_, ?_, ?_⟩
 ·exact Bw.set (Below.grown h.bw hg h.bw.size fun k hk=>by have:=(h.rk.lt k hk).1;have:=h.hB;omega) h.hB _ _
 ·have:=Ae hb 4 v'
  simpa using this
 ·have:=Bj (B:=B) (i:=4) (u:=v') ho (by omega)
  simpa using this
 ·exact Bj (h.rl.kept hg (DB (by decide) h.rk h.rl)) (by omega)
theorem Two.vals {w:World}{B:Nat}{wx w':World}{vk vl v':Value}{xk:List ByteArray}{xl ys:List VC}(h:Two w B wx vk vl xk xl)
  (ho:w'.ownsRow (B+1) 35 6 v' (xl.length+ys.length) (AL xl++AL ys)) (hg:wx.grownBy w' vl.ownBlock):Two w B (w'.setCell ⟨B,5,none⟩ v') vk v' xk (xl++ys):=by
 have hb:=h.vals_box hg
 refine⟨h.hB, ?_, ?_, ?_, ?_⟩
 ·exact Bw.set (Below.grown h.bw hg h.bw.size fun k hk=>by have:=(h.rl.lt k hk).1;have:=h.hB;omega) h.hB _ _
 ·have:=Ae hb 5 v'
  simpa using this
 ·exact Bj (h.rk.kept hg (DB (by decide) h.rl h.rk)) (by omega)
 ·have:=Bj (B:=B) (i:=5) (u:=v') ho (by omega)
  rw [DJ]
  simpa using this
end
section
open Go Go.RowKit
def VCAt (H:Hp)(a:Option Addr)(i:Nat)(L:List VC):Prop:=∀j (hj:j<L.length),∃b o,a=some ⟨b,o,none⟩∧CV H b (o+(i+j) * 6) L[j].v L[j].x4 L[j].x5
theorem vals_open {H:Hp}{a:Option Addr}:∀{l:List GV} {i:Nat},CX H a i l→∃L:List VC,L.map VC.v=l∧(∀t ∈ L,RV H t.v t.x4 t.x5)∧VCAt H a i L
 |[],i,_=>⟨[],rfl,by simp,fun j hj=>by simp at hj⟩
 |v::r,i,h=>by
  simp only [CX]at h
  obtain⟨⟨b,o,x4,x5,rfl,hc,hv⟩,hr⟩:=h
  obtain⟨L,rfl,h1,h2⟩:=vals_open hr
  refine⟨⟨v,x4,x5⟩::L,rfl,fun t ht=> ?_,fun j hj=> ?_⟩
  ·rcases List.mem_cons.1 ht with rfl|ht
   ·exact hv
   ·exact h1 t ht
  ·rcases j with _|j
   ·exact⟨b,o,rfl,by simpa using hc⟩
   ·obtain⟨b',o',e,hh⟩:=h2 j (by simpa using hj)
    refine⟨b',o',e, ?_⟩
    have e1:i+(j+1)=i+1+j:=by omega
    rw [e1];exact hh
theorem cells_of6 {H:Hp}{w:World}{b o:Nat}{t:VC}(hi:Imm H w)(h:CV H b o t.v t.x4 t.x5):∀i u,t.cells[i]?=some u→w.cell? ⟨b,o+i,none⟩=some u:=by
 obtain⟨h0,h1,h2,h3,h4,h5⟩:=hi.cells6 h
 intro i u hu
 have hlt:i<6:=by have:=(List.getElem?_eq_some_iff.1 hu).1;simpa [VC.cells]using this
 match i,hlt with
 |0,_=>simp [VC.cells]at hu;subst hu;exact h0
 |1,_=>simp [VC.cells]at hu;subst hu;exact h1
 |2,_=>simp [VC.cells]at hu;subst hu;exact h2
 |3,_=>simp [VC.cells]at hu;subst hu;exact h3
 |4,_=>simp [VC.cells]at hu;subst hu;exact h4
 |5,_=>simp [VC.cells]at hu;subst hu;exact h5
theorem src_vals {H:Hp}{w:World}{a:Option Addr}{n c:Nat}{L:List VC}(hi:Imm H w)(hn:a=none→c=0∧L.length=0)(h:VCAt H a 0 L)(hl:n≤L.length):Src w a n c (AL (L.take n)):=by
 refine⟨fun e=>by have:=hn e;omega,fun ad e j u hu=> ?_⟩
 have hj:j<(L.take n).length * 6:=by rw [←CZ];exact(List.getElem?_eq_some_iff.1 hu).1
 have hjl:j / 6<(L.take n).length:=by omega
 have hjn:j / 6<L.length:=by simp at hjl;omega
 obtain⟨b,o,e2,hc⟩:=h (j / 6) hjn
 rw [e2]at e;cases e
 have hadd:(⟨b,o,none⟩:Addr).add j=⟨b,o+j,none⟩:=by unfold Addr.add;split<;>simp_all
 have hjj:j=j / 6 * 6+j % 6:=by omega
 have hg:=El (l:=L.take n) hjl (i:=j % 6) (by omega)
 rw [←hjj,hu]at hg
 rw [hadd]
 have:=cells_of6 hi hc (j % 6) u (by rw [hg];simp)
 have e3:o+(0+j / 6) * 6+j % 6=o+j:=by omega
 rw [e3]at this;exact this
theorem vcells_oneCell (L:List VC)(h:∀t ∈ L,t.x4.oneCell'=true∧t.x5.oneCell'=true):∀u ∈ AL L,u.oneCell'=true:=by
 intro u hu
 obtain⟨t,ht,hu⟩:=List.mem_flatMap.1 hu
 obtain⟨h4,h5⟩:=h t ht
 simp only [VC.cells,List.mem_cons,List.not_mem_nil,or_false]at hu
 rcases hu with rfl|rfl|rfl|rfl|rfl|rfl
 ·rfl
 ·rfl
 ·rfl
 ·rfl
 ·exact h4
 ·exact h5
theorem RV.oneCell {H:Hp}{t:VC}(h:RV H t.v t.x4 t.x5):t.x4.oneCell'=true∧t.x5.oneCell'=true:=by
 obtain⟨a4,c4,a5,c5,e1,e2⟩:=h.open
 rw [e1,e2];exact⟨rfl,rfl⟩
end
section
open Go Go.RowKit
theorem src_strs_drop {H:Hp}{w:World}{a:Option Addr}{j c:Nat}{l:List ByteArray}(hi:Imm H w)(hn:a=none→c=0∧l.length=0)(hc:l.length≤c)(h:Bt H a 0 l)(hl:j≤l.length):
  Src w (if c=j then a else Option.map (fun x=>x.add j) a) (l.length - j) (c - j) ((l.drop j).map Value.string):=by
 refine⟨fun e=> ?_,fun ad e t u hu=> ?_⟩
 ·have:a=none:=by split at e<;>simpa using e
  have:=hn this;omega
 ·have ht:t<l.length - j:=by
   have:=(List.getElem?_eq_some_iff.1 hu).1;simpa using this
  rw [if_neg (by omega)]at e
  obtain⟨b,o,e2,hc2,_⟩:=h.look hi (j:=j+t) (by omega)
  subst e2
  simp only [Option.map_some,Option.some.injEq]at e
  subst e
  have h1:(⟨b,o,none⟩:Addr).add j=⟨b,o+j,none⟩:=by unfold Addr.add;split<;>simp_all
  have h2:(⟨b,o+j,none⟩:Addr).add t=⟨b,o+j+t,none⟩:=by unfold Addr.add;split<;>simp_all
  rw [h1,h2]
  rw [List.getElem?_map,List.getElem?_drop,List.getElem?_eq_getElem (by omega)]at hu
  rw [Nat.add_assoc,hc2]
  exact hu
theorem src_vals_drop {H:Hp}{w:World}{a:Option Addr}{j c:Nat}{L:List VC}(hi:Imm H w)(hn:a=none→c=0∧L.length=0)(hc:L.length≤c)(h:VCAt H a 0 L)(hl:j≤L.length):
  Src w (if c=j then a else Option.map (fun x=>x.add (j * 6)) a) (L.length - j) (c - j) (AL (L.drop j)):=by
 refine⟨fun e=> ?_,fun ad e t u hu=> ?_⟩
 ·have:a=none:=by split at e<;>simpa using e
  have:=hn this;omega
 ·have ht:t<(L.drop j).length * 6:=by rw [←CZ];exact(List.getElem?_eq_some_iff.1 hu).1
  have htl:t / 6<(L.drop j).length:=by omega
  have htn:j+t / 6<L.length:=by simp at htl;omega
  rw [if_neg (by omega)]at e
  obtain⟨b,o,e2,hc2⟩:=h (j+t / 6) htn
  subst e2
  simp only [Option.map_some,Option.some.injEq]at e
  subst e
  have h1:(⟨b,o,none⟩:Addr).add (j * 6)=⟨b,o+j * 6,none⟩:=by unfold Addr.add;split<;>simp_all
  have h2:(⟨b,o+j * 6,none⟩:Addr).add t=⟨b,o+j * 6+t,none⟩:=by unfold Addr.add;split<;>simp_all
  rw [h1,h2]
  have htt:t=t / 6 * 6+t % 6:=by omega
  have hg:=El (l:=L.drop j) htl (i:=t % 6) (by omega)
  rw [←htt,hu]at hg
  have:=cells_of6 hi hc2 (t % 6) u (by rw [hg];simp)
  have e3:o+(0+(j+t / 6)) * 6+t % 6=o+j * 6+t:=by omega
  rw [e3]at this;exact this
theorem src_strs {H:Hp}{w:World}{a:Option Addr}{n c:Nat}{l:List ByteArray}(hi:Imm H w)(hn:a=none→c=0∧l.length=0)(h:Bt H a 0 l)(hl:n≤l.length):Src w a n c ((l.take n).map Value.string):=by
 refine⟨fun e=>by have:=hn e;omega,fun ad e j u hu=> ?_⟩
 have hj:j<n:=by
  have:=(List.getElem?_eq_some_iff.1 hu).1;simp at this;omega
 obtain⟨b,o,e2,hc,_⟩:=h.look hi (j:=j) (by omega)
 rw [e2]at e;cases e
 have hadd:(⟨b,o,none⟩:Addr).add j=⟨b,o+j,none⟩:=by unfold Addr.add;split<;>simp_all
 rw [hadd,hc]
 rw [List.getElem?_map,List.getElem?_take,if_pos hj,List.getElem?_eq_getElem (by omega)]at hu
 exact hu
theorem Ed (l:List ByteArray):∀u ∈ l.map Value.string,u.oneCell'=true:=by
 intro u hu
 obtain⟨s,_,rfl⟩:=List.mem_map.1 hu
 rfl
theorem strs_lim {H:Hp}{a:Option Addr}{l:List ByteArray}(h:Bt H a 0 l):∀s ∈ l,s.size≤lim:=by
 intro s hs
 obtain⟨j,hj,rfl⟩:=List.mem_iff_getElem.1 hs
 obtain⟨b,o,_,_,hz⟩:=h.get j hj
 exact hz
end
section
open Go Go.RowKit
theorem src_block {w:World}{g:Nat}{cs:Array Value}{t:TypeId}(h:w.heap[g]?=some (.cells cs t (0,0))):Src w (some ⟨g,0,none⟩) 1 1 cs.toList:=by
 refine⟨by simp,fun ad e j u hu=> ?_⟩
 cases e
 have hadd:(⟨g,0,none⟩:Addr).add j=⟨g,j,none⟩:=by unfold Addr.add;split<;>simp_all
 rw [hadd,(A1 h).1]
 simpa using hu
theorem AF {P:Program}(w:World){ops:Array Oper}{rest:List Oper}{o:Oper}{a:Act}{Q:Exit→Act→World→Prop}(hgd:o.guard=none)(s x:Operand)(t:TypeId)
  (ho:o.op= .call {callee:= .builtin .append,args:= #[s,x],argTypes:= #[t,t]})
  (base:Nat) (e:TypeId) (z:Value) (size bytes:Nat) (ht:P.underlying t=some (.slice e)) (hinfo:(P.info? e).map (fun i=>(i.zero,i.size,i.bytes))=some (some z,size,bytes)) (hzs:z.cells.size=size) (hsz:0<size) (hby:bytes≤32768)
  (v:Value) (n:Nat) (xs:List Value) (hs:a.eval s=v) (hown:w.ownsRow base e size v n xs)
  (g:Nat) (cs:Array Value) (te:TypeId) (hx:a.eval x= .slice (some ⟨g,0,none⟩) 1 1) (hb:w.heap[g]?=some (.cells cs te (0,0))) (hcs:cs.size=size) (h1:∀u ∈ cs.toList,u.oneCell'=true)
  (hn:n+1≤lim) (hbase:base≤w.heap.size)
  (h:∀v' w',w'.ownsRow base e size v' (n+1) (xs++cs.toList)→w.grownBy w' v.ownBlock→(v'.ownBlock=v.ownBlock∨v'.ownBlock=some w.heap.size)→wpList P ops Q rest (a.put o.dst v') w'):wpList P ops Q (o::rest) a w:=by
 obtain⟨i,hi,hz,hsize,hbytes⟩:=info_parts hinfo
 unfold lim at hn
 have hlt:(n+1) * bytes≤4294967296 * 32768:=Nat.mul_le_mul hn hby
 exact Bl w hgd s x t ho base e i z size bytes ht hi hz hsize hbytes hzs hsz v n xs hs hown (some ⟨g,0,none⟩) 1 1 cs.toList hx (by simpa using hcs) (src_block hb) h1
  (by unfold maxLen;omega) (by omega) hbase h
theorem AH {P:Program}(w:World){ops:Array Oper}{o:Oper}{a:Act}{K:Act→World→Prop}{Q:Exit→Act→World→Prop}{E:Prop}(hgd:o.guard=none)(s x:Operand)(t:TypeId)
  (ho:o.op= .call {callee:= .builtin .append,args:= #[s,x],argTypes:= #[t,t]})
  (base:Nat) (e:TypeId) (z:Value) (size bytes:Nat) (ht:P.underlying t=some (.slice e)) (hinfo:(P.info? e).map (fun i=>(i.zero,i.size,i.bytes))=some (some z,size,bytes)) (hzs:z.cells.size=size) (hsz:0<size) (hby:bytes≤32768)
  (v:Value) (n:Nat) (xs:List Value) (hs:a.eval s=v) (hown:w.ownsRow base e size v n xs)
  (g:Nat) (cs:Array Value) (te:TypeId) (hx:a.eval x= .slice (some ⟨g,0,none⟩) 1 1) (hb:w.heap[g]?=some (.cells cs te (0,0))) (hcs:cs.size=size) (h1:∀u ∈ cs.toList,u.oneCell'=true)
  (hn:n+1≤lim) (hbase:base≤w.heap.size)
  (h:∀v' w',w'.ownsRow base e size v' (n+1) (xs++cs.toList)→w.grownBy w' v.ownBlock→(v'.ownBlock=v.ownBlock∨v'.ownBlock=some w.heap.size)→K (a.put o.dst v') w'):
  if Region.wanted o (yielded ops a.tmps)=true then Oper.wp P o a w K Q else E:=by
 obtain⟨i,hi,hz,hsize,hbytes⟩:=info_parts hinfo
 unfold lim at hn
 have hlt:(n+1) * bytes≤4294967296 * 32768:=Nat.mul_le_mul hn hby
 exact step_append_any w hgd s x t ho base e i z size bytes ht hi hz hsize hbytes hzs hsz v n xs hs hown (some ⟨g,0,none⟩) 1 1 cs.toList hx (by simpa using hcs) (src_block hb) h1
  (by unfold maxLen;omega) (by omega) hbase h
theorem Aj {w:World}{base:Nat}{e:TypeId}{size:Nat}{v:Value}{n:Nat}{xs:List Value}(h:w.ownsRow base e size v n xs):∃a c,v= .slice a n c:=by
 rcases h.2 with⟨rfl,rfl⟩|⟨g,cap,cur,rfl,_⟩
 ·exact⟨none,0,rfl⟩
 ·exact⟨_,_,rfl⟩
theorem Bw.grown {a b:World}(h:Bw a b):a.grownBy b none:=⟨h.os,h.tape,h.output,h.size,fun k hk _=>h.block k hk⟩
theorem Cq {w w1:World}{base:Nat}{e:TypeId}{size:Nat}{v:Value}{n:Nat}{xs:List Value}(h:w.ownsRow base e size v n xs)(hb:Bw w w1):w1.ownsRow base e size v n xs:=
 h.kept hb.grown (by cases v.ownBlock<;>simp)
theorem Bi {a w w':World}{row:Option Nat}(h:Bw a w)(hg:w.grownBy w' row)(hr:∀k,row=some k→a.heap.size≤k):Bw a w':=Below.grown h hg h.size hr
end
end Go.Proofs.YtmghkmhgpmcoaaaGreat
